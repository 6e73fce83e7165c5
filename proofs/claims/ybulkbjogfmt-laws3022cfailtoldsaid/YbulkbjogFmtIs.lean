import Derived.Test.YbulkbjogFmtFrame
import Derived.LaidEql
import Derived.Stop.Asserts
import Derived.RowKitTokens
namespace Go.Proofs.YbulkbjogFmt
open Go.RowKit Go.Extern.Stop Go.Stop Go.Extern

theorem Ybaf.isTypeOf (v : Value) (w : World) : (callFunc 31 #[.iface 73 v]).run Ybaf.prog w = .ok (.value (.iface 88 (.agg #[.pointer (some ⟨2, 73, none⟩)]))) w := by kernel_rfl
theorem Ybaf.isComparable (w : World) : (callFunc 72 #[.agg #[.pointer (some ⟨2, 73, none⟩)]]).run Ybaf.prog w = .ok (.value (.bool true)) w := by kernel_rfl
theorem Ybaf.isMethodComparable (v : Value) (w : World) : (Go.method 248 88 v "Comparable").run Ybaf.prog w = .ok (72, v) w := by kernel_rfl
theorem Ybaf.isComp : (Ybaf.prog.info? 73).map (·.comparable) = some true := by kernel_rfl
theorem Ybaf.isSize : (Ybaf.prog.info? 75).map (·.size) = some 1 := by kernel_rfl
theorem Ybaf.noIsW (v : Value) (xT : TypeId) (w : World) : (Instr.typeAssert (.iface 86 v) xT 90 true).run Ybaf.prog w = .ok (.tuple #[.nilIface, .bool false]) w := run_typeAssert_lacksB Ybaf.underlying90 (by kernel_rfl) (by kernel_rfl) v xT w
theorem Ybaf.hasUnwrapW (v : Value) (xT : TypeId) (w : World) : (Instr.typeAssert (.iface 86 v) xT 93 true).run Ybaf.prog w = .ok (.tuple #[.iface 86 v, .bool true]) w := run_typeAssert_hasB Ybaf.underlying93 (by kernel_rfl) v xT w
theorem Ybaf.methodUnwrap (v : Value) (w : World) : (Go.method 248 86 v "Unwrap").run Ybaf.prog w = .ok (68, v) w := by kernel_rfl

set_option maxHeartbeats 800000 in
/-- errors.Is(e, x), e a *fmt.wrapError that wraps x itself: one Unwrap, then equal. -/
theorem is_wrap_same (pb : Nat) (b : Addr) (w : World) (h1 : w.cell? ⟨pb, 1, none⟩ = some (.iface 73 (.pointer (some b)))) :
    Calls Ybaf.prog 17 #[.iface 86 (.pointer (some ⟨pb, 0, none⟩)), .iface 73 (.pointer (some b))] w fun e w' => e = .returned (.bool true) ∧ w' = w := by
  obtain ⟨i, hi, hcmp⟩ := Option.map_eq_some_iff.1 Ybaf.isComp
  obtain ⟨j, hj, hjs⟩ := Option.map_eq_some_iff.1 Ybaf.isSize
  have tT := Ybaf.isTypeOf
  have cT := Ybaf.isComparable
  have mR := Ybaf.isMethodComparable
  have nW := Ybaf.noIsW
  have uW := Ybaf.hasUnwrapW
  have mU := Ybaf.methodUnwrap
  have heq := run_eql_iface_ptr_same (P := Ybaf.prog) w b Ybaf.underlying44 Ybaf.underlying73 hi hcmp hj
  have hty := run_eql_iface_types (P := Ybaf.prog) 86 73 (.pointer (some ⟨pb, 0, none⟩)) (.pointer (some b)) Ybaf.underlying44 (by decide) w
  go_enter Ybaf.func17, Ybaf.ntmps17
  go_wp2
  refine wp_loop_rounds 2 ?_
  rw [rounds_succ]
  go_wp2
  rw [rounds_succ]
  go_wp2
  go_ret
  exact ⟨rfl, rfl⟩
end Go.Proofs.YbulkbjogFmt
