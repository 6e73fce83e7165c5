import Derived.Test.YbulkbjogFmtLe
import Derived.Deep.QuietTactic
import Derived.BigQuiet
namespace Go.Proofs.YbulkbjogFmt
open Go.RowKit

/-- A bufio.Writer: its struct in block c, its buffer of 4096 bytes in block g. -/
structure BW (w : World) (c g : Nat) (err : Value) (n : Nat) (wr : Value) (zs : List Value) : Prop where
  st : Blk w c [err, .slice (some ⟨g, 0, none⟩) 4096 4096, .int .i64 n, wr] 83
  buf : Blk w g zs 5
  len : zs.length = 4096

theorem assert30 (p : Addr) (w : World) : (Instr.typeAssert (.iface 30 (.pointer (some p))) 59 46 true).run Ybaf.prog w = .ok (.tuple #[.pointer none, .bool false]) w := by kernel_rfl
theorem assert51 (p : Addr) (w : World) : (Instr.typeAssert (.iface 51 (.pointer (some p))) 59 46 true).run Ybaf.prog w = .ok (.tuple #[.pointer none, .bool false]) w := by kernel_rfl

theorem BW.made {w w1 : World} {wr : Value} (h1 : w1.ownsRow w.heap.size 5 1 (.slice (some ⟨w.heap.size, 0, none⟩) 4096 4096) 4096 (madeCells (Value.int .u8 0).cells (4096 * 1)).toList) (hg : w.grownBy w1 none) :
    ∃ zs, BW (w1.alloc (.cells #[.nilIface, .slice (some ⟨w.heap.size, 0, none⟩) 4096 4096, .int .i64 0, wr] 83)) w1.heap.size w.heap.size .nilIface 0 wr zs ∧ Fr [] w (w1.alloc (.cells #[.nilIface, .slice (some ⟨w.heap.size, 0, none⟩) 4096 4096, .int .i64 0, wr] 83)) ∧ w.heap.size ≤ w1.heap.size := by
  rcases h1.2 with ⟨h, _⟩ | ⟨g', cap, cur, hv, _, hh, _, _, hsz, _⟩
  · cases h
  · cases hv
    have hb : Blk w1 w.heap.size cur.toList 5 := hh
    refine ⟨cur.toList, ⟨Blk.new w1 _ _, hb.alloc _, by simpa using hsz⟩, ?_, hg.size⟩
    exact ((Fr.refl [] w).grown hg (fun k hk => by cases hk)).alloc _

set_option maxRecDepth 100000 in
set_option maxHeartbeats 400000 in
theorem newBufSize_any (T : TypeId) (hT : T = 30 ∨ T = 51) (p : Addr) (w : World) :
    Calls Ybaf.prog 33 #[.iface T (.pointer (some p)), .int .i64 4096] w fun e w' => ∃ c g zs, e = .returned (.pointer (some ⟨c, 0, none⟩)) ∧ BW w' c g .nilIface 0 (.iface T (.pointer (some p))) zs ∧ Fr [] w w' ∧ w.heap.size ≤ g ∧ w.heap.size ≤ c := by
  obtain ⟨i0, hi, hz0, hz1, hz2⟩ := info_parts Ybaf.info5
  have ha : ∀ w, (Instr.typeAssert (.iface T (.pointer (some p))) 59 46 true).run Ybaf.prog w = .ok (.tuple #[.pointer none, .bool false]) w := by
    rcases hT with rfl | rfl
    · exact assert30 p
    · exact assert51 p
  clear hT
  go_enter Ybaf.func33, Ybaf.ntmps33
  go_wp2_with (first | (at_make; refine wpList_make_full _ rfl _ _ 22 rfl w.heap.size 5 i0 _ 1 Ybaf.underlying22 hi hz0 hz1 .i64 .i64 _ _ 4096 rfl rfl rfl rfl (by rw [hz2]; omega) (by unfold maxLen; omega) (Nat.le_refl _) ?_; intro w1 hown1 hgrow1))
  go_ret
  obtain ⟨zs, h1, h2, h3⟩ := BW.made (wr := .iface T (.pointer (some p))) hown1 hgrow1
  exact ⟨_, _, zs, rfl, h1, h2, Nat.le_refl _, h3⟩

theorem newBuf_any (T : TypeId) (hT : T = 30 ∨ T = 51) (p : Addr) (w : World) :
    Calls Ybaf.prog 21 #[.iface T (.pointer (some p))] w fun e w' => ∃ c g zs, e = .returned (.pointer (some ⟨c, 0, none⟩)) ∧ BW w' c g .nilIface 0 (.iface T (.pointer (some p))) zs ∧ Fr [] w w' ∧ w.heap.size ≤ g ∧ w.heap.size ≤ c := by
  go_enter Ybaf.func21, Ybaf.ntmps21
  go_wp2_with fail
  refine (newBufSize_any T hT p _).mono ?_
  rintro e w1 ⟨c, g, zs, rfl, h1, h2, h3, h4⟩
  go_wp2
  go_ret
  exact ⟨c, g, zs, rfl, h1, h2, h3, h4⟩

set_option maxHeartbeats 400000 in
theorem avail_any (c g : Nat) (err wr : Value) (n : Nat) (zs : List Value) (w : World) (h : BW w c g err n wr zs) (hn : n ≤ 4096) :
    Calls Ybaf.prog 34 #[.pointer (some ⟨c, 0, none⟩)] w fun e w' => e = .returned (.int .i64 (4096 - n)) ∧ ∃ q, w' = w.drewN q := by
  have h1 := h.st.cell 1
  have h2 := h.st.cell 2
  simp at h1 h2
  go_enter Ybaf.func34, Ybaf.ntmps34
  go_wp2
  go_quiet (fail)
  go_wp2
  go_ret
  exact ⟨rfl, nq, rfl⟩

theorem buffered_any (c g : Nat) (err wr : Value) (n : Nat) (zs : List Value) (w : World) (h : BW w c g err n wr zs) :
    Calls Ybaf.prog 35 #[.pointer (some ⟨c, 0, none⟩)] w fun e w' => e = .returned (.int .i64 n) ∧ w' = w := by
  have h2 := h.st.cell 2
  simp at h2
  go_enter Ybaf.func35, Ybaf.ntmps35
  go_wp2
  go_ret
  exact ⟨rfl, rfl⟩
end Go.Proofs.YbulkbjogFmt
