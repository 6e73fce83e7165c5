import Derived.Test.YbulkbjogFmtFrame
import Derived.Stop.CallBack
import Derived.Stop.IfaceNil
import GoSem.ClaimData
namespace Go.Proofs.YbulkbjogFmt
open Go.RowKit Go.Extern.Stop Go.Stop Go.Extern

theorem Ybaf.call38 (args : Array Value) (w : World) : (callFunc 38 args).run Ybaf.prog w = ((FmtStop.errorf #[9, 85] #[44] args).run Ybaf.prog w).andThen fun v w' => .ok (.value v) w' :=
  run_callFunc_extern Ybaf.func38 (by kernel_rfl) (by kernel_rfl) (by kernel_rfl) (by kernel_rfl) args w
theorem Ybaf.guardE (name : String) (w : World) : (FmtStop.guard name).run Ybaf.prog w = .ok () w := by kernel_rfl

/-- The two formats' bytes. -/
def fmtRec : ByteArray := ⟨#[119, 114, 105, 116, 105, 110, 103, 32, 112, 99, 97, 112, 32, 114, 101, 99, 111, 114, 100, 32, 37, 100, 58, 32, 37, 119]⟩
def fmtFile : ByteArray := ⟨#[119, 114, 105, 116, 105, 110, 103, 32, 112, 99, 97, 112, 32, 102, 105, 108, 101, 58, 32, 37, 119]⟩

theorem Ybaf.printedRec (w : World) : (FmtDoors.printed ⟨#[119, 114, 105, 116, 105, 110, 103, 32, 112, 99, 97, 112, 32, 114, 101, 99, 111, 114, 100, 32, 37, 100, 58, 32, 37, 119]⟩ 2).run Ybaf.prog w = .ok [(0, 100, false), (1, 119, false)] w := by kernel_rfl
theorem Ybaf.printedFile (w : World) : (FmtDoors.printed ⟨#[119, 114, 105, 116, 105, 110, 103, 32, 112, 99, 97, 112, 32, 102, 105, 108, 101, 58, 32, 37, 119]⟩ 1).run Ybaf.prog w = .ok [(0, 119, false)] w := by kernel_rfl
def Ybaf.shape3 : List UInt8 := [5, 3, 0, 0, 0, 0, 0, 0, 0, 105, 110, 116]
theorem Ybaf.op3_100w (name : String) (x : Int) (w : World) : (FmtStop.operand name true 100 false (.iface 3 (.int .i64 x))).run Ybaf.prog w = .ok (Ybaf.shape3, Go.Extern.Stop.digits 8 (x % 2 ^ 64).toNat) w := by kernel_rfl
/-- The name of the type of a pointer to an errors.errorString: a star ahead of it. -/
def nm73 : String := String.singleton (Char.ofNat 42) ++ "errors.errorString"
theorem Ybaf.typeStr73 (w : World) : (typeStr 73).run Ybaf.prog w = .ok nm73 w := by kernel_rfl
theorem Ybaf.ptr86 (w : World) : (FmtStop.ptrTo "fmt.wrapError").run Ybaf.prog w = .ok 86 w := by kernel_rfl
theorem Ybaf.elem86 (w : World) : (elemOf 86).run Ybaf.prog w = .ok 127 w := by kernel_rfl
theorem Ybaf.isError73 (w : World) : (FmtDoors.textMethod 73 "Error").run Ybaf.prog w = .ok true w := by kernel_rfl
theorem Ybaf.opPlain73 (name : String) (a : Addr) (s : ByteArray) (w : World) (hc : w.cell? a = some (.string s)) :
    ∃ r, (FmtStop.operand name true 119 false (.iface 73 (.pointer (some a)))).run Ybaf.prog w = .ok r w := by
  have h1 := Ybaf.typeStr73 w
  have d2 : Ybaf.t73.desc = .pointer 75 := rfl
  have d3 : Ybaf.t75.desc = .named "errors.errorString" 74 := rfl
  simp [FmtStop.operand, h1, d2, d3, run_load, hc]

set_option maxRecDepth 100000 in
theorem errRec_any (F : Interp) (vb : Nat) (n : Int) (q : Addr) (s : ByteArray) (w : World) (hF : F.answers w.tape) (h : Blk w vb [.iface 3 (.int .i64 n), .iface 73 (.pointer (some q))] 20) (hq : w.cell? q = some (.string s)) :
    Calls Ybaf.prog 29 #[.string fmtRec, .slice (some ⟨vb, 0, none⟩) 2 2] w fun e w' => e = .returned (.iface 86 (.pointer (some ⟨w.heap.size, 0, none⟩))) ∧ ∃ t, w' = (w.alloc (.cells #[.string t, .iface 73 (.pointer (some q))] 127)).drew := by
  have hF' := hF
  unfold Interp.answers at hF'
  have h0 := h.cell 0
  have h1 := h.cell 1
  simp at h0 h1
  have g4 := Ybaf.op3_100w
  obtain ⟨⟨r1, r2⟩, hop⟩ := Ybaf.opPlain73 "fmt.errorf" q s w hq
  have g1 := Ybaf.call38
  have g2 := Ybaf.guardE
  have g3 := Ybaf.printedRec
  have g5 := Ybaf.ptr86
  have g6 := Ybaf.elem86
  have g7 := Ybaf.isError73
  unfold fmtRec
  go_enter Ybaf.func29, Ybaf.ntmps29
  go_wp2
  go_ret
  exact ⟨rfl, _, rfl⟩

set_option maxRecDepth 100000 in
theorem errFile_any (F : Interp) (vb : Nat) (q : Addr) (s : ByteArray) (w : World) (hF : F.answers w.tape) (h : Blk w vb [.iface 73 (.pointer (some q))] 20) (hq : w.cell? q = some (.string s)) :
    Calls Ybaf.prog 29 #[.string fmtFile, .slice (some ⟨vb, 0, none⟩) 1 1] w fun e w' => e = .returned (.iface 86 (.pointer (some ⟨w.heap.size, 0, none⟩))) ∧ ∃ t, w' = (w.alloc (.cells #[.string t, .iface 73 (.pointer (some q))] 127)).drew := by
  have hF' := hF
  unfold Interp.answers at hF'
  have h0 := h.cell 0
  simp at h0
  obtain ⟨⟨r1, r2⟩, hop⟩ := Ybaf.opPlain73 "fmt.errorf" q s w hq
  have g1 := Ybaf.call38
  have g2 := Ybaf.guardE
  have g3 := Ybaf.printedFile
  have g5 := Ybaf.ptr86
  have g6 := Ybaf.elem86
  have g7 := Ybaf.isError73
  unfold fmtFile
  go_enter Ybaf.func29, Ybaf.ntmps29
  go_wp2
  go_ret
  exact ⟨rfl, _, rfl⟩

end Go.Proofs.YbulkbjogFmt
