import Derived.Test.YbulkbjqyFmtMap
import Derived.Test.YbulkbjqyFmtLocks
import Derived.Maps.AppendAt
import Derived.Deep.Draws
namespace Go.Proofs.YbulkbjqyFmt
open Go.RowKit
open Go.MuLone

/-- append(v, p), v the call's own. -/
theorem run_append_one (w : World) (ty : TypeId) (base : Nat) (v : Value) (n : Nat) (xs : List Value) (hown : w.ownsRow base 42 1 v n xs) (x0 b : Nat) (hc : w.cell? ⟨x0, 0, none⟩ = some (pk b)) (hle : n ≤ 1099511627776) (hbase : base ≤ w.heap.size) :
    ∃ g cap' w', (Builtin.append_ #[39, 39] ty #[v, .slice (some ⟨x0, 0, none⟩) 1 1]).run Ybaf.prog w = .ok (.slice (some ⟨g, 0, none⟩) (n + 1) cap') w' ∧
      w'.ownsRow base 42 1 (.slice (some ⟨g, 0, none⟩) (n + 1) cap') (n + 1) (xs ++ [pk b]) ∧ Fr v.ownBlock.toList w w' ∧ (v.ownBlock = some g ∨ w.heap.size ≤ g) := by
  obtain ⟨i0, hi, hz0, hz1, hz2⟩ := info_parts Ybaf.info42
  obtain ⟨v', w', hr, ho, hg, _, hat⟩ := run_append_own_at (P := Ybaf.prog) w base 39 ty 42 i0 (.pointer none) 1 8 Ybaf.underlying39 hi hz0 hz1 hz2 rfl (by decide) v n xs hown ⟨x0, 0, none⟩ 1 1 [pk b] (by simp)
    (fun j u hu => by
      cases j with
      | zero => simp at hu; subst hu; simpa [Addr.add] using hc
      | succ j => simp at hu) (fun u hu => by simp at hu; subst hu; rfl) (by unfold maxLen; omega) (by omega) hbase
  obtain ⟨g, cap', rfl, _, _⟩ := ho.form (by omega)
  refine ⟨g, cap', w', hr, ho, (Fr.refl _ w).grown hg (fun k hk => .inl (by simp [hk])), ?_⟩
  rcases hat with h | h
  · exact .inl h.symm
  · exact .inr (by simp [Value.ownBlock] at h; omega)

theorem wpList_append_one {ops : Array Oper} {rest : List Oper} {o : Oper} {a : Act} {w : World} {Q : Exit → Act → World → Prop} (hgd : o.guard = none) (s x : Operand)
    (ho : o.op = .call { callee := .builtin .append, args := #[s, x], argTypes := #[39, 39] })
    (base : Nat) (v : Value) (n : Nat) (xs : List Value) (hs : a.eval s = v) (hown : w.ownsRow base 42 1 v n xs) (x0 b : Nat) (hx : a.eval x = .slice (some ⟨x0, 0, none⟩) 1 1) (hc : w.cell? ⟨x0, 0, none⟩ = some (pk b))
    (hle : n ≤ 1099511627776) (hbase : base ≤ w.heap.size)
    (h : ∀ g cap' w', w'.ownsRow base 42 1 (.slice (some ⟨g, 0, none⟩) (n + 1) cap') (n + 1) (xs ++ [pk b]) → Fr v.ownBlock.toList w w' → (v.ownBlock = some g ∨ w.heap.size ≤ g) → wpList Ybaf.prog ops Q rest (a.put o.dst (.slice (some ⟨g, 0, none⟩) (n + 1) cap')) w') : wpList Ybaf.prog ops Q (o :: rest) a w := by
  refine wpList_plain hgd fun K hK => ?_
  obtain ⟨g, cap', w', hr, h2, h3, h4⟩ := run_append_one w o.type base v n xs hown x0 b hc hle hbase
  unfold Oper.wp execOp
  simp only [ho, resolve, invoke, builtin, Sem.run_bind, Sem.run_pure, Result.andThen_ok, List.map_toArray, List.map_cons, List.map_nil, hs, hx, hr]
  exact hK _ _ (h g cap' w' h2 h3 h4)

/-- A Runner's cells. -/
def rcells (to : Int) (st : Int) (tv : Value) (m : Nat) : List Value :=
  [.int .i64 to, .map none, .pointer none, .nilFunc, .pointer none, .int .i32 st, .int .u32 0, tv, .map (some m), .bool false]

theorem owns_ne {w : World} {base n e b : Nat} {v : Value} {xs cs : List Value} {t : TypeId} (ho : w.ownsRow base e 1 v n xs) (hb : Blk w b cs t) (ht : t ≠ e) : v.ownBlock ≠ some b := by
  rcases ho.2 with ⟨rfl, _⟩ | ⟨g, cap, cur, rfl, _, hg, _⟩
  · simp [Value.ownBlock]
  · intro e'
    simp [Value.ownBlock] at e'
    subst e'
    unfold Blk at hb
    rw [hb] at hg
    simp at hg
    exact ht hg.2

theorem owns_pm {w : World} {base n e m : Nat} {v : Value} {xs : List Value} {gs : List (Nat × Bool)} (ho : w.ownsRow base e 1 v n xs) (hm : PM w m gs) : v.ownBlock ≠ some m := by
  obtain ⟨es, c, hm, _⟩ := hm
  rcases ho.2 with ⟨rfl, _⟩ | ⟨g, cap, cur, rfl, _, hg, _⟩
  · simp [Value.ownBlock]
  · intro e'
    simp [Value.ownBlock] at e'
    subst e'
    rw [hm] at hg
    cases hg

set_option maxRecDepth 100000 in
set_option maxHeartbeats 1600000 in
/-- register: the task is new, the Runner not started, the lock free. -/
theorem register_any (r b m : Nat) (to : Int) (f : Bool) (tv : Value) (n base : Nat) (xs : List Value) (gs : List (Nat × Bool)) (w : World) (hR : Blk w r (rcells to 0 tv m) 41) (hM : PM w m gs) (hO : w.ownsRow base 42 1 tv n xs) (hT : Tk w b)
    (hg : ∀ p ∈ gs, p.1 ≠ b ∧ Tk w p.1) (hbr : b ≠ r) (hgr : ∀ p ∈ gs, p.1 ≠ r) (hle : n ≤ 1000000) (hbase : base ≤ w.heap.size) :
    Calls Ybaf.prog 8 #[.pointer (some ⟨r, 0, none⟩), .pointer (some ⟨b, 0, none⟩), .bool f] w fun e w' => e = .returned (.tuple #[]) ∧ ∃ g cap, Blk w' r (rcells to 0 (.slice (some ⟨g, 0, none⟩) (n + 1) cap) m) 41 ∧ PM w' m (gs ++ [(b, f)]) ∧
      w'.ownsRow base 42 1 (.slice (some ⟨g, 0, none⟩) (n + 1) cap) (n + 1) (xs ++ [pk b]) ∧ Fr ([r, m] ++ tv.ownBlock.toList) w w' ∧ (tv.ownBlock = some g ∨ w.heap.size ≤ g) := by
  have nm : m ≠ r := hM.ne hR
  have no : tv.ownBlock ≠ some r := owns_ne hO hR (by decide)
  have no' : tv.ownBlock ≠ some m := owns_pm hO hM
  have c5 : w.cell? ⟨r, 5, none⟩ = some (.int .i32 0) := by rw [hR.cell]; rfl
  have f5 : w.frozen? ⟨r, 5, none⟩ = false := hR.free 5
  have F1 : Fr [r] w (w.setCell ⟨r, 5, none⟩ (.int .i32 1)) := (Fr.refl _ _).setCell (by simp) _
  have R1 : Blk (w.setCell ⟨r, 5, none⟩ (.int .i32 1)) r (rcells to 1 tv m) 41 := hR.set 5 _
  have M1 : PM (w.setCell ⟨r, 5, none⟩ (.int .i32 1)) m gs := hM.fr F1 (by simpa using nm)
  have T1 : Tk (w.setCell ⟨r, 5, none⟩ (.int .i32 1)) b := hT.fr F1 (by simpa using hbr)
  have G1 : ∀ p ∈ gs, p.1 ≠ b ∧ Tk (w.setCell ⟨r, 5, none⟩ (.int .i32 1)) p.1 := fun p hp => ⟨(hg p hp).1, (hg p hp).2.fr F1 (by simpa using hgr p hp)⟩
  have O1 : (w.setCell ⟨r, 5, none⟩ (.int .i32 1)).ownsRow base 42 1 tv n xs := F1.owns hO (fun k hk => by intro e; simp at e; subst e; exact no hk)
  generalize hw1 : w.setCell ⟨r, 5, none⟩ (.int .i32 1) = w1 at F1 R1 M1 T1 G1 O1
  have hl1 := look_none M1 T1 G1
  obtain ⟨w2, hu2, M2, F2⟩ := update_new f M1 T1 G1
  have R2 : Blk w2 r (rcells to 1 tv m) 41 := R1.fr F2 (by simpa using Ne.symm nm)
  have O2 : w2.ownsRow base 42 1 tv n xs := F2.owns O1 (fun k hk => by intro e; simp at e; subst e; exact no' hk)
  have F12 : Fr [r, m] w w2 := (F1.mono (by simp)).andThen F2 (by simp)
  have a9 : w1.cell? ⟨r, 9, none⟩ = some (.bool false) := by rw [R1.cell]; rfl
  have a8 : w1.cell? ⟨r, 8, none⟩ = some (.map (some m)) := by rw [R1.cell]; rfl
  have b7 : w2.cell? ⟨r, 7, none⟩ = some tv := by rw [R2.cell]; rfl
  have H : Hid (Blk w2 r (rcells to 1 tv m) 41 ∧ PM w2 m (gs ++ [(b, f)]) ∧ w2.ownsRow base 42 1 tv n xs ∧ Fr [r, m] w w2) := ⟨R2, M2, O2, F12⟩
  clear F1 R1 M1 T1 G1 O1 R2 M2 O2 F12 F2 hR hM hO hT hg hbr hgr
  go_enter_defers Ybaf.func8, Ybaf.ntmps8
  go_wp2_with fail
  refine (lock_free muLib ⟨r, 5, none⟩ _ c5 f5).mono ?_
  rintro e w' ⟨rfl, rfl⟩
  rw [hw1]
  clear hw1 c5 f5
  have hb2 : base ≤ w2.heap.size := Nat.le_trans hbase H.out.2.2.2.size
  go_wp2_with (at_builtin; refine wpList_append_one rfl (.tmp 55) (.tmp 57) rfl base tv n xs (by rfl) (((Fr.refl [] w2).alloc _).owns H.out.2.2.1 (by simp)) w2.heap.size b (by rfl) ((Blk.new w2 [pk b] 42).cell 0) (by omega) (by simp; omega) ?_; intro g cap w3 hown3 hfr3 hat3; have R3 : Hid (Blk w3 r (rcells to 1 tv m) 41) := (H.out.1.alloc _).fr hfr3 (by simpa using no); have d7 := R3.out.cell 7; have e7 := R3.out.free 7; simp [rcells] at d7)
  have R4 : Blk (w3.setCell ⟨r, 7, none⟩ (.slice (some ⟨g, 0, none⟩) (n + 1) cap)) r (rcells to 1 (.slice (some ⟨g, 0, none⟩) (n + 1) cap) m) 41 := R3.out.set 7 _
  have F23 : Fr tv.ownBlock.toList w2 w3 := ((Fr.refl _ w2).alloc _).andThen hfr3 (fun x hx => .inl hx)
  have nog : g ≠ r := by
    intro e; subst e
    exact owns_ne hown3 R3.out (by decide) rfl
  have nogm : g ≠ m := by
    intro e; subst e
    exact owns_pm hown3 (H.out.2.1.fr F23 (by simpa using no')) rfl
  have F34 : Fr [r] w3 (w3.setCell ⟨r, 7, none⟩ (.slice (some ⟨g, 0, none⟩) (n + 1) cap)) := (Fr.refl _ _).setCell (by simp) _
  refine leaves_cons (f := 10) (args := #[.pointer (some ⟨r, 5, none⟩)]) (by simp) (by simp [go_sem]) ?_
  refine (unlock_deferred muLib ⟨r, 5, none⟩ .returning _ (by rw [R4.cell]; rfl) (R4.free 5)).mono ?_
  rintro e u' w'' ⟨rfl, rfl, rfl⟩
  have F45 : Fr [r] (w3.setCell ⟨r, 7, none⟩ (.slice (some ⟨g, 0, none⟩) (n + 1) cap)) ((w3.setCell ⟨r, 7, none⟩ (.slice (some ⟨g, 0, none⟩) (n + 1) cap)).setCell ⟨r, 5, none⟩ (.int .i32 0)) := (Fr.refl _ _).setCell (by simp) _
  have F35 := F34.trans F45
  have F25 := ((F23.mono (T := [r, m] ++ tv.ownBlock.toList) (by simp; intro a ha; exact .inr (.inr ha))).andThen F35 (by simp))
  refine ⟨_, results_none rfl _ _ _, rfl, g, cap, R4.set 5 _, ?_, F35.owns hown3 (by simp [Value.ownBlock, nog]), (H.out.2.2.2.mono (by simp)).trans F25, ?_⟩
  · exact (H.out.2.1.fr F23 (by simpa using no')).fr F35 (by simpa using nm)
  · rcases hat3 with h | h
    · exact .inl h
    · have := H.out.2.2.2.size
      simp at h
      exact .inr (by omega)
end Go.Proofs.YbulkbjqyFmt
