import Derived.Test.YbulkbjqyFmtFrame
import Derived.LaidEql
import Derived.MapKept
namespace Go.Proofs.YbulkbjqyFmt
open Go.RowKit Go.MapKept

/-- A pointer to the beginning of block b. -/
def pk (b : Nat) : Value := .pointer (some ⟨b, 0, none⟩)

/-- Block b is a row of cells, none frozen. -/
def Tk (w : World) (b : Nat) : Prop := ∃ cs t, w.heap[b]? = some (.cells cs t (0, 0))

/-- Block m is a map whose entries are gs, in their order of birth. -/
def PM (w : World) (m : Nat) (gs : List (Nat × Bool)) : Prop := ∃ es c, w.heap[m]? = some (.map es c) ∧ es.toList.map (fun e => (e.key, e.val)) = gs.map (fun p => (pk p.1, Value.bool p.2))

theorem PM.lt {w : World} {m : Nat} {gs : List (Nat × Bool)} (h : PM w m gs) : m < w.heap.size := by
  obtain ⟨es, c, h, _⟩ := h
  exact (Array.getElem?_eq_some_iff.1 h).1

theorem PM.fr {S : List Nat} {w w' : World} {m : Nat} {gs : List (Nat × Bool)} (h : PM w m gs) (hf : Fr S w w') (hS : m ∉ S) : PM w' m gs := by
  have hl := h.lt
  obtain ⟨es, c, h, hk⟩ := h
  exact ⟨es, c, by rw [hf.block m hl hS]; exact h, hk⟩

theorem PM.ne {w : World} {m b : Nat} {gs : List (Nat × Bool)} {cs : List Value} {t : TypeId} (h : PM w m gs) (hb : Blk w b cs t) : m ≠ b := by
  intro e; subst e
  obtain ⟨es, c, h, _⟩ := h
  unfold Blk at hb
  rw [h] at hb
  cases hb

theorem Blk.tk {w : World} {b : Nat} {cs : List Value} {t : TypeId} (h : Blk w b cs t) : Tk w b := ⟨_, _, h⟩

theorem Tk.fr {S : List Nat} {w w' : World} {b : Nat} (h : Tk w b) (hf : Fr S w w') (hS : b ∉ S) : Tk w' b := by
  obtain ⟨cs, t, h⟩ := h
  exact ⟨cs, t, by rw [hf.block b (Array.getElem?_eq_some_iff.1 h).1 hS]; exact h⟩

theorem equalIn_same (d b : Nat) (w : World) : (Op.equalIn (d + 1) 42 (pk b) (pk b)).run Ybaf.prog w = .ok true w := by
  simp [Op.equalIn, pk, run_underlying Ybaf.underlying42, Ybaf.sizeOf50, run_sameAddr_same]

theorem equalIn_other (d b c : Nat) (w : World) (hne : b ≠ c) (hb : Tk w b) (hc : Tk w c) : (Op.equalIn (d + 1) 42 (pk b) (pk c)).run Ybaf.prog w = .ok false w := by
  obtain ⟨cs, t, hb⟩ := hb
  obtain ⟨cs', t', hc⟩ := hc
  have hs := run_sameAddr_other (P := Ybaf.prog) w (a := ⟨b, 0, none⟩) (b := ⟨c, 0, none⟩) (by intro e; exact hne (congrArg Addr.block e)) hb hc
  simp [Op.equalIn, pk, run_underlying Ybaf.underlying42, Ybaf.sizeOf50, hs]

theorem equal_same (b : Nat) (w : World) : (Op.equal 42 (pk b) (pk b)).run Ybaf.prog w = .ok true w := equalIn_same 9999 b w
theorem equal_other (b c : Nat) (w : World) (hne : b ≠ c) (hb : Tk w b) (hc : Tk w c) : (Op.equal 42 (pk b) (pk c)).run Ybaf.prog w = .ok false w := equalIn_other 9999 b c w hne hb hc

theorem ask_none (b : Nat) (w : World) (hb : Tk w b) : ∀ (gs : List (Nat × Bool)) (es : List MapEntry) (i : Nat), es.map (fun e => (e.key, e.val)) = gs.map (fun p => (pk p.1, Value.bool p.2)) → (∀ p ∈ gs, p.1 ≠ b ∧ Tk w p.1) →
    (Instr.findAsking 42 (pk b) es i).run Ybaf.prog w = .ok none w
  | [], [], _, _, _ => by simp [Instr.findAsking]
  | [], _ :: _, _, h, _ => by simp at h
  | _ :: _, [], _, h, _ => by simp at h
  | g :: gs, e :: es, i, h, hg => by
    simp only [List.map_cons, List.cons.injEq, Prod.mk.injEq] at h
    obtain ⟨⟨hk, _⟩, ht⟩ := h
    have h0 := hg g (.head _)
    unfold Instr.findAsking
    simp only [Sem.run_bind, hk, equal_other b g.1 w (Ne.symm h0.1) hb h0.2, Result.andThen]
    exact ask_none b w hb gs es (i + 1) ht (fun p hp => hg p (.tail _ hp))

theorem ask_hit (b : Nat) (w : World) (f : Bool) : ∀ (gs : List (Nat × Bool)) (es : List MapEntry) (i j : Nat), es.map (fun e => (e.key, e.val)) = gs.map (fun p => (pk p.1, Value.bool p.2)) → (∀ p ∈ gs, Tk w p.1) → (gs.map Prod.fst).Nodup → gs[j]? = some (b, f) →
    (Instr.findAsking 42 (pk b) es i).run Ybaf.prog w = .ok (some (i + j, .bool f)) w
  | [], _, _, _, _, _, _, hj => by simp at hj
  | _ :: _, [], _, _, h, _, _, _ => by simp at h
  | g :: gs, e :: es, i, j, h, hg, hn, hj => by
    simp only [List.map_cons, List.cons.injEq, Prod.mk.injEq] at h
    obtain ⟨⟨hk, hv⟩, ht⟩ := h
    have h0 := hg g (.head _)
    simp only [List.map_cons, List.nodup_cons] at hn
    unfold Instr.findAsking
    cases j with
    | zero =>
      simp only [List.getElem?_cons_zero, Option.some.injEq] at hj
      subst hj
      simp only [Sem.run_bind, hk, hv, equal_same b w, Result.andThen]
      rfl
    | succ j =>
      simp only [List.getElem?_cons_succ] at hj
      have hm : (b, f) ∈ gs := List.mem_of_getElem? hj
      have hne : b ≠ g.1 := fun e => hn.1 (by rw [← e]; exact List.mem_map_of_mem (f := Prod.fst) hm)
      simp only [Sem.run_bind, hk, equal_other b g.1 w hne (hg _ (.tail _ hm)) h0, Result.andThen]
      rw [show i + (j + 1) = i + 1 + j by omega]
      exact ask_hit b w f gs es (i + 1) j ht (fun p hp => hg p (.tail _ hp)) hn.2 hj

theorem findKey_ask (b : Nat) (w : World) (es : List MapEntry) (r : Option (Nat × Value)) (h : (Instr.findAsking 42 (pk b) es 0).run Ybaf.prog w = .ok r w) : (Instr.findKey 42 (pk b) es).run Ybaf.prog w = .ok r w := by
  cases es with
  | nil => simpa [Instr.findKey, Instr.findNow, Instr.findAsking, run_underlying Ybaf.underlying42, Result.andThen] using h
  | cons e es =>
    have hs : Instr.findNow (.pointer 50) (pk b) (e :: es) 0 = none := by simp [Instr.findNow, Instr.sameNow]
    simp only [Instr.findKey, Sem.run_bind, run_underlying Ybaf.underlying42, Result.andThen, hs]
    exact h

theorem check_any (n b : Nat) (w : World) (e : Bool) : (Instr.checkKey e (n + 1) 42 (pk b)).run Ybaf.prog w = .ok () w := by
  simp [Instr.checkKey, run_underlying Ybaf.underlying42, pk, Result.andThen]
theorem check_ptr (b : Nat) (w : World) (e : Bool) : (Instr.checkKey e 10000 42 (pk b)).run Ybaf.prog w = .ok () w := check_any 9999 b w e

/-- 'v, ok := m[p]', p not in m. -/
theorem look_none {w : World} {m b : Nat} {gs : List (Nat × Bool)} (h : PM w m gs) (hb : Tk w b) (hg : ∀ p ∈ gs, p.1 ≠ b ∧ Tk w p.1) :
    (Instr.lookup 24 (.map (some m)) (.pointer (some ⟨b, 0, none⟩)) true).run Ybaf.prog w = .ok (.tuple #[.bool false, .bool false]) w := by
  obtain ⟨es, c, h, hk⟩ := h
  have hf := findKey_ask b w es.toList _ (ask_none b w hb gs es.toList 0 hk hg)
  have hc := check_ptr b w es.isEmpty
  unfold pk at hf hc
  simp [Instr.lookup, run_underlying Ybaf.underlying24, Go.MapKept.run_getObj_map h, hc, hf, Ybaf.zeroValue4, Result.andThen]

/-- .. and in m. -/
theorem look_hit {w : World} {m b i : Nat} {f : Bool} {gs : List (Nat × Bool)} (h : PM w m gs) (hg : ∀ p ∈ gs, Tk w p.1) (hn : (gs.map Prod.fst).Nodup) (hi : gs[i]? = some (b, f)) :
    (Instr.lookup 24 (.map (some m)) (.pointer (some ⟨b, 0, none⟩)) true).run Ybaf.prog w = .ok (.tuple #[.bool f, .bool true]) w ∧ (Instr.lookup 24 (.map (some m)) (.pointer (some ⟨b, 0, none⟩)) false).run Ybaf.prog w = .ok (.bool f) w := by
  obtain ⟨es, c, h, hk⟩ := h
  have hf := findKey_ask b w es.toList _ (ask_hit b w f gs es.toList 0 i hk hg hn hi)
  have hc := check_ptr b w es.isEmpty
  unfold pk at hf hc
  constructor <;> simp [Instr.lookup, run_underlying Ybaf.underlying24, Go.MapKept.run_getObj_map h, hc, hf, Result.andThen]

/-- 'm[p] = f', p not in m. -/
theorem update_new {w : World} {m b : Nat} {gs : List (Nat × Bool)} (f : Bool) (h : PM w m gs) (hb : Tk w b) (hg : ∀ p ∈ gs, p.1 ≠ b ∧ Tk w p.1) :
    ∃ w', (Instr.mapUpdate 24 (.map (some m)) (.pointer (some ⟨b, 0, none⟩)) (.bool f)).run Ybaf.prog w = .ok () w' ∧ PM w' m (gs ++ [(b, f)]) ∧ Fr [m] w w' := by
  have hl := h.lt
  obtain ⟨es, c, h, hk⟩ := h
  have hf := findKey_ask b w es.toList _ (ask_none b w hb gs es.toList 0 hk hg)
  have hc := check_ptr b w false
  unfold pk at hf hc
  refine ⟨{ w with heap := w.heap.setIfInBounds m (.map (es.push ⟨.pointer (some ⟨b, 0, none⟩), .bool f, c⟩) (c + 1)) }, ?_, ⟨_, _, (heap_set h).1, ?_⟩, ?_⟩
  · simp [Instr.mapUpdate, run_underlying Ybaf.underlying24, Go.MapKept.run_getObj_map h, hc, hf, Go.MapKept.run_setObj_map _ h, Result.andThen]
  · simp [hk, pk]
  · exact ⟨rfl, rfl, rfl, by simp, fun k _ hS => (heap_set h).2 k (by simpa using hS)⟩

theorem map_len {w : World} {m : Nat} {gs : List (Nat × Bool)} (h : PM w m gs) (ty : TypeId) : (Builtin.len_ #[24] ty #[.map (some m)]).run Ybaf.prog w = .ok (.int .i64 gs.length) w := by
  obtain ⟨es, c, h, hk⟩ := h
  have hl : es.size = gs.length := by have := congrArg List.length hk; simpa using this
  simp [Builtin.len_, run_underlying Ybaf.underlying24, Go.MapKept.run_getObj_map h, Result.andThen, hl]
  rfl
end Go.Proofs.YbulkbjqyFmt
