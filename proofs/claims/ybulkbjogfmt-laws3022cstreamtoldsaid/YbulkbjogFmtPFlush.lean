import Derived.Test.YbulkbjogFmtPacket
namespace Go.Proofs.YbulkbjogFmt
open Go.RowKit

theorem pflush_ok (wb c : Nat) (y : Value) (w : World) (hw : Blk w wb [.pointer (some ⟨c, 0, none⟩), y] 48) (Q : World → Prop)
    (hF : Calls Ybaf.prog 30 #[.pointer (some ⟨c, 0, none⟩)] w fun e w' => e = .returned .nilIface ∧ Q w') :
    Calls Ybaf.prog 15 #[.pointer (some ⟨wb, 0, none⟩)] w fun e w' => e = .returned .nilIface ∧ Q w' := by
  have k0 := blk2_ptr hw
  have HF : Hid (Calls Ybaf.prog 30 #[.pointer (some ⟨c, 0, none⟩)] w fun e w' => e = .returned .nilIface ∧ Q w') := hF
  clear hF
  go_enter Ybaf.func15, Ybaf.ntmps15
  go_wp2_with fail
  refine HF.out.mono ?_
  rintro e w1 ⟨rfl, hQ⟩
  go_wp2
  go_ret
  exact ⟨rfl, hQ⟩

theorem pflush_err (F : Stop.Interp) (qa : Addr) (sv : ByteArray) (wb c : Nat) (y : Value) (w : World) (hw : Blk w wb [.pointer (some ⟨c, 0, none⟩), y] 48) (Q : World → Prop)
    (hF : Calls Ybaf.prog 30 #[.pointer (some ⟨c, 0, none⟩)] w fun e w' => e = .returned (.iface 73 (.pointer (some qa))) ∧ w'.cell? qa = some (.string sv) ∧ F.answers w'.tape ∧ Q w') :
    Calls Ybaf.prog 15 #[.pointer (some ⟨wb, 0, none⟩)] w fun e w' => ∃ k w10, e = .returned (.iface 86 (.pointer (some ⟨k, 0, none⟩))) ∧ w'.cell? ⟨k, 1, none⟩ = some (.iface 73 (.pointer (some qa))) ∧ Fr [] w10 w' ∧ Q w10 := by
  have k0 := blk2_ptr hw
  have HF : Hid (Calls Ybaf.prog 30 #[.pointer (some ⟨c, 0, none⟩)] w fun e w' => e = .returned (.iface 73 (.pointer (some qa))) ∧ w'.cell? qa = some (.string sv) ∧ F.answers w'.tape ∧ Q w') := hF
  clear hF
  go_enter Ybaf.func15, Ybaf.ntmps15
  go_wp2_with fail
  refine HF.out.mono ?_
  rintro e w10 ⟨rfl, hs10, hF10, hQ⟩
  go_wp2_with fail
  have hq10 : (w10.alloc (.cells #[.iface 73 (.pointer (some qa))] 20)).cell? qa = some (.string sv) := by
    rw [World.cell?_alloc_lt _ _ _ (World.block_lt_of_cell? w10 qa hs10)]; exact hs10
  refine (errFile_any F w10.heap.size qa sv (w10.alloc (.cells #[.iface 73 (.pointer (some qa))] 20)) hF10 (Blk.new w10 [.iface 73 (.pointer (some qa))] 20) hq10).mono ?_
  rintro e w11 ⟨rfl, t, rfl⟩
  go_wp2
  go_ret
  refine ⟨_, w10, rfl, ?_, (((Fr.refl [] w10).alloc _).alloc _).drew, hQ⟩
  simp
end Go.Proofs.YbulkbjogFmt
