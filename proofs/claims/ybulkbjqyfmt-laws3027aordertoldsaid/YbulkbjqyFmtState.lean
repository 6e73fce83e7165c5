import Derived.Test.YbulkbjqyFmtAdd
namespace Go.Proofs.YbulkbjqyFmt
open Go.RowKit

/-- A Runner to which the tasks gs have been added; beside it the slice wv, which holds ys; nothing older than w0's heap has turned. -/
structure RS (w0 w : World) (r m : Nat) (to : Int) (nm : Nat → ByteArray) (cd : Nat → Value) (gs : List (Nat × Bool)) (tv wv : Value) (ys : List Value) : Prop where
  rb : Blk w r (rcells to 0 tv m) 41
  mp : PM w m gs
  tk : w.ownsRow w0.heap.size 42 1 tv gs.length (gs.map fun p => pk p.1)
  wt : w.ownsRow w0.heap.size 42 1 wv ys.length ys
  ts : ∀ i p, gs[i]? = some p → Blk w p.1 (tcells (nm i) (cd i)) 50
  nd : (gs.map Prod.fst).Nodup
  sep : ∀ k, tv.ownBlock = some k → wv.ownBlock ≠ some k
  bel : Below w0.heap.size w0 w
  lr : w0.heap.size ≤ r
  lm : w0.heap.size ≤ m

variable {w0 w w' : World} {r m : Nat} {to : Int} {nm : Nat → ByteArray} {cd : Nat → Value} {gs : List (Nat × Bool)} {tv wv : Value} {ys : List Value}

theorem Below.andFr {B : Nat} {a b c : World} {S : List Nat} (h : Below B a b) (hf : Fr S b c) (hS : ∀ x ∈ S, B ≤ x) (hB : B ≤ b.heap.size) : Below B a c :=
  ⟨hf.os.trans h.os, hf.tape.trans h.tape, hf.output.trans h.output, Nat.le_trans h.size hf.size, fun k hk => (hf.block k (by omega) (fun hm => by have := hS k hm; omega)).trans (h.block k hk)⟩

theorem RS.base (h : RS w0 w r m to nm cd gs tv wv ys) : w0.heap.size ≤ w.heap.size := h.bel.size

theorem RS.mem (h : RS w0 w r m to nm cd gs tv wv ys) {p : Nat × Bool} (hp : p ∈ gs) : ∃ i, gs[i]? = some p ∧ Blk w p.1 (tcells (nm i) (cd i)) 50 := by
  obtain ⟨i, hi⟩ := List.getElem?_of_mem hp
  exact ⟨i, hi, h.ts i p hi⟩

theorem RS.fr0 (h : RS w0 w r m to nm cd gs tv wv ys) (hf : Fr [] w w') : RS w0 w' r m to nm cd gs tv wv ys :=
  ⟨h.rb.fr hf (by simp), h.mp.fr hf (by simp), hf.owns h.tk (by simp), hf.owns h.wt (by simp), fun i p hi => (h.ts i p hi).fr hf (by simp), h.nd, h.sep, Below.andFr h.bel hf (by simp) h.base, h.lr, h.lm⟩

/-- What a call that adds the task b leaves. -/
theorem RS.added {b : Nat} {f : Bool} {name : ByteArray} {cad : Value} {g cap : Nat} (h : RS w0 w r m to nm cd gs tv wv ys) (hb : Blk w b (tcells name cad) 50) (hn : nm gs.length = name) (hc : cd gs.length = cad) (hnew : ∀ p ∈ gs, p.1 ≠ b)
    (h1 : Blk w' r (rcells to 0 (.slice (some ⟨g, 0, none⟩) (gs.length + 1) cap) m) 41) (h2 : PM w' m (gs ++ [(b, f)]))
    (h3 : w'.ownsRow w0.heap.size 42 1 (.slice (some ⟨g, 0, none⟩) (gs.length + 1) cap) (gs.length + 1) ((gs.map fun p => pk p.1) ++ [pk b])) (h4 : Fr ([r, m] ++ tv.ownBlock.toList) w w') (h5 : tv.ownBlock = some g ∨ w.heap.size ≤ g) :
    RS w0 w' r m to nm cd (gs ++ [(b, f)]) (.slice (some ⟨g, 0, none⟩) (gs.length + 1) cap) wv ys := by
  have no : ∀ (q : Nat) (cs : List Value), Blk w q cs 50 → q ∉ [r, m] ++ tv.ownBlock.toList := by
    intro q cs hq hm
    simp at hm
    rcases hm with rfl | rfl | hm
    · exact hq.ne h.rb (by decide) rfl
    · exact h.mp.ne hq rfl
    · exact owns_ne h.tk hq (by decide) hm
  refine ⟨h1, h2, ?_, h4.owns h.wt (fun k hk hm => ?_), fun i p hi => ?_, ?_, fun k hk => ?_, Below.andFr h.bel h4 (fun x hx => ?_) h.base, h.lr, h.lm⟩
  · simpa using h3
  · simp at hm
    rcases hm with rfl | rfl | hm
    · exact owns_ne h.wt h.rb (by decide) hk
    · exact owns_pm h.wt h.mp hk
    · exact h.sep k hm hk
  · rw [List.getElem?_append] at hi
    split at hi
    · exact (h.ts i p hi).fr h4 (no _ _ (h.ts i p hi))
    · rename_i hlt
      have hi0 : i = gs.length := by
        have := (List.getElem?_eq_some_iff.1 hi).1
        simp at this; omega
      subst hi0
      simp at hi
      subst hi
      simp only [hn, hc]
      exact hb.fr h4 (no _ _ hb)
  · rw [List.map_append, List.nodup_append]
    refine ⟨h.nd, by simp, ?_⟩
    intro a ha c hc' e
    simp at hc'
    obtain ⟨p, hp, rfl⟩ := List.mem_map.1 ha
    exact hnew p hp (e.trans hc')
  · simp [Value.ownBlock] at hk
    subst hk
    rcases h5 with h5 | h5
    · exact h.sep g h5
    · intro e
      have := (h.wt.lt g e).2
      omega
  · simp at hx
    rcases hx with rfl | rfl | hx
    · exact h.lr
    · exact h.lm
    · exact (h.tk.lt x hx).1

/-- What append(want, t) leaves. -/
theorem RS.want {b g cap n : Nat} (h : RS w0 w r m to nm cd gs tv wv ys) (hn : ys.length = n) (h1 : w'.ownsRow w0.heap.size 42 1 (.slice (some ⟨g, 0, none⟩) (n + 1) cap) (n + 1) (ys ++ [pk b])) (h2 : Fr wv.ownBlock.toList w w') (h3 : wv.ownBlock = some g ∨ w.heap.size ≤ g) :
    RS w0 w' r m to nm cd gs tv (.slice (some ⟨g, 0, none⟩) (n + 1) cap) (ys ++ [pk b]) := by
  subst hn
  have no : ∀ (q : Nat) (cs : List Value) (t : TypeId), t ≠ 42 → Blk w q cs t → q ∉ wv.ownBlock.toList := by
    intro q cs t ht hq hm
    exact owns_ne h.wt hq ht (by simpa using hm)
  refine ⟨h.rb.fr h2 (no _ _ 41 (by decide) h.rb), h.mp.fr h2 (fun hm => owns_pm h.wt h.mp (by simpa using hm)), h2.owns h.tk (fun k hk hm => h.sep k hk (by simpa using hm)), by simpa using h1, fun i p hi => (h.ts i p hi).fr h2 (no _ _ 50 (by decide) (h.ts i p hi)), h.nd, fun k hk => ?_, Below.andFr h.bel h2 (fun x hx => (h.wt.lt x (by simpa using hx)).1) h.base, h.lr, h.lm⟩
  intro e
  simp [Value.ownBlock] at e
  subst e
  rcases h3 with h3 | h3
  · exact h.sep g hk h3
  · have := (h.tk.lt g hk).2
    omega

theorem RS.call5 (h : RS w0 w r m to nm cd gs tv wv ys) (hn : cd gs.length = .iface 43 (.agg #[])) (hle : gs.length ≤ 1000000) :
    Calls Ybaf.prog 5 #[.pointer (some ⟨r, 0, none⟩), .pointer (some ⟨w.heap.size, 0, none⟩)] (w.alloc (.cells (tcells (nm gs.length) (.iface 43 (.agg #[]))).toArray 50)) fun e w' => e = .returned (.tuple #[]) ∧
      ∃ g cap, RS w0 w' r m to nm cd (gs ++ [(w.heap.size, true)]) (.slice (some ⟨g, 0, none⟩) (gs.length + 1) cap) wv ys ∧ Blk w' w.heap.size (tcells (nm gs.length) (.iface 43 (.agg #[]))) 50 := by
  have F0 : Fr [] w (w.alloc (.cells (tcells (nm gs.length) (.iface 43 (.agg #[]))).toArray 50)) := (Fr.refl [] w).alloc _
  have h' := h.fr0 F0
  have hB := Blk.new w (tcells (nm gs.length) (.iface 43 (.agg #[]))) 50
  have hne : ∀ p ∈ gs, p.1 ≠ w.heap.size := fun p hp e => by
    obtain ⟨i, _, hb⟩ := h.mem hp
    have := hb.lt
    omega
  have hT : ∀ p ∈ gs, Tk (w.alloc (.cells (tcells (nm gs.length) (.iface 43 (.agg #[]))).toArray 50)) p.1 := fun p hp => by
    obtain ⟨i, _, hb⟩ := h'.mem hp
    exact hb.tk
  refine (addp_any r w.heap.size m to _ tv gs.length w0.heap.size _ gs _ h'.rb h'.mp h'.tk hB (fun p hp => ⟨hne p hp, hT p hp⟩) (hB.ne h'.rb (by decide)) (fun p hp => by obtain ⟨i, _, hb⟩ := h'.mem hp; exact hb.ne h'.rb (by decide)) hle h'.base).mono ?_
  rintro e w' ⟨rfl, g, cap, h1, h2, h3, h4, h5⟩
  have hR := h'.added hB rfl hn hne h1 h2 h3 h4 h5
  refine ⟨rfl, g, cap, hR, ?_⟩
  have := hR.ts gs.length (w.heap.size, true) (by simp)
  rw [hn] at this
  exact this
end Go.Proofs.YbulkbjqyFmt
