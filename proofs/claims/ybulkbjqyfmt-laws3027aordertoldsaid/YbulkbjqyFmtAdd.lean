import Derived.Test.YbulkbjqyFmtReg
namespace Go.Proofs.YbulkbjqyFmt
open Go.RowKit

/-- A Task's cells. -/
def tcells (name : ByteArray) (cad : Value) : List Value :=
  [.string name, .nilFunc, .slice none 0 0, .slice none 0 0, cad, .int .i64 0, .int .i64 0, .pointer none]

set_option maxRecDepth 100000 in
set_option maxHeartbeats 1600000 in
theorem add_any (r b m : Nat) (to : Int) (tv : Value) (n base : Nat) (xs : List Value) (gs : List (Nat × Bool)) (w : World) (hR : Blk w r (rcells to 0 tv m) 41) (hM : PM w m gs) (hO : w.ownsRow base 42 1 tv n xs) (hT : Tk w b)
    (hg : ∀ p ∈ gs, p.1 ≠ b ∧ Tk w p.1) (hbr : b ≠ r) (hgr : ∀ p ∈ gs, p.1 ≠ r) (hle : n ≤ 1000000) (hbase : base ≤ w.heap.size) :
    Calls Ybaf.prog 6 #[.pointer (some ⟨r, 0, none⟩), .pointer (some ⟨b, 0, none⟩)] w fun e w' => e = .returned (.tuple #[]) ∧ ∃ g cap, Blk w' r (rcells to 0 (.slice (some ⟨g, 0, none⟩) (n + 1) cap) m) 41 ∧ PM w' m (gs ++ [(b, false)]) ∧
      w'.ownsRow base 42 1 (.slice (some ⟨g, 0, none⟩) (n + 1) cap) (n + 1) (xs ++ [pk b]) ∧ Fr ([r, m] ++ tv.ownBlock.toList) w w' ∧ (tv.ownBlock = some g ∨ w.heap.size ≤ g) := by
  have H := register_any r b m to false tv n base xs gs w hR hM hO hT hg hbr hgr hle hbase
  clear hR hM hO hT hg hbr hgr
  go_enter Ybaf.func6, Ybaf.ntmps6
  go_wp2_with fail
  refine H.mono ?_
  rintro e w' ⟨rfl, H'⟩
  go_wp2
  go_end0
  exact ⟨rfl, H'⟩

theorem assert_once (w : World) : (Instr.typeAssert (.iface 43 (.agg #[])) 48 43 true).run Ybaf.prog w = .ok (.tuple #[.agg #[], .bool true]) w := by kernel_rfl

set_option maxRecDepth 100000 in
set_option maxHeartbeats 1600000 in
theorem addp_any (r b m : Nat) (to : Int) (name : ByteArray) (tv : Value) (n base : Nat) (xs : List Value) (gs : List (Nat × Bool)) (w : World) (hR : Blk w r (rcells to 0 tv m) 41) (hM : PM w m gs) (hO : w.ownsRow base 42 1 tv n xs) (hT : Blk w b (tcells name (.iface 43 (.agg #[]))) 50)
    (hg : ∀ p ∈ gs, p.1 ≠ b ∧ Tk w p.1) (hbr : b ≠ r) (hgr : ∀ p ∈ gs, p.1 ≠ r) (hle : n ≤ 1000000) (hbase : base ≤ w.heap.size) :
    Calls Ybaf.prog 5 #[.pointer (some ⟨r, 0, none⟩), .pointer (some ⟨b, 0, none⟩)] w fun e w' => e = .returned (.tuple #[]) ∧ ∃ g cap, Blk w' r (rcells to 0 (.slice (some ⟨g, 0, none⟩) (n + 1) cap) m) 41 ∧ PM w' m (gs ++ [(b, true)]) ∧
      w'.ownsRow base 42 1 (.slice (some ⟨g, 0, none⟩) (n + 1) cap) (n + 1) (xs ++ [pk b]) ∧ Fr ([r, m] ++ tv.ownBlock.toList) w w' ∧ (tv.ownBlock = some g ∨ w.heap.size ≤ g) := by
  have c4 := hT.cell 4
  simp [tcells] at c4
  have hta := assert_once
  have F0 : Fr [] w (w.alloc (.cells #[] 43)) := (Fr.refl [] w).alloc _
  have H := register_any r b m to true tv n base xs gs _ (hR.fr F0 (by simp)) (hM.fr F0 (by simp)) (F0.owns hO (by simp)) (hT.tk.fr F0 (by simp)) (fun p hp => ⟨(hg p hp).1, (hg p hp).2.fr F0 (by simp)⟩) hbr hgr hle (Nat.le_trans hbase F0.size)
  have HF : Hid (Fr [] w (w.alloc (.cells #[] 43))) := F0
  clear hR hM hO hT hg hbr hgr F0
  go_enter Ybaf.func5, Ybaf.ntmps5
  go_wp2_with fail
  refine H.mono ?_
  rintro e w' ⟨rfl, g, cap, h1, h2, h3, h4, h5⟩
  have H' : Hid (∃ g cap, Blk w' r (rcells to 0 (.slice (some ⟨g, 0, none⟩) (n + 1) cap) m) 41 ∧ PM w' m (gs ++ [(b, true)]) ∧
      w'.ownsRow base 42 1 (.slice (some ⟨g, 0, none⟩) (n + 1) cap) (n + 1) (xs ++ [pk b]) ∧ Fr ([r, m] ++ tv.ownBlock.toList) w w' ∧ (tv.ownBlock = some g ∨ w.heap.size ≤ g)) :=
    ⟨g, cap, h1, h2, h3, (HF.out.mono (by simp)).trans h4, h5.elim .inl (fun h => .inr (Nat.le_trans HF.out.size h))⟩
  clear h1 h2 h3 h4 h5 H HF
  go_wp2
  go_end0
  exact ⟨rfl, H'.out⟩
end Go.Proofs.YbulkbjqyFmt
