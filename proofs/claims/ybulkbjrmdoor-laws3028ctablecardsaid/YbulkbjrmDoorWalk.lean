import Derived.Test.YbulkbjrmDoorRows
import Derived.WalkKit
import Derived.WalkSpells
import Derived.WalkLawsBesides
import Derived.Laws.Rows
import Derived.Deep.WholeRow
import Derived.Below
namespace Go.Proofs.YbulkbjrmDoor
open Go.RowKit

/-- How each kind is spelt; what String should say of it. -/
def spellL : List (List UInt8) := [[], [], [], [], [43], [45], [42], [47], [60], [60, 61], [62], [62, 61], [61, 61], [33, 61], [40], [41], [123], [125], [44], [61], [59], [115, 116, 97, 114, 116], [101, 110, 100], [112, 114, 105, 110, 116], [116, 114, 117, 101], [102, 97, 108, 115, 101], [110, 111, 116], [97, 110, 100], [111, 114], [105, 102], [101, 108, 115, 101], [119, 104, 105, 108, 101], [98, 114, 101, 97, 107], [99, 111, 110, 116, 105, 110, 117, 101], [102, 117, 110, 99], [114, 101, 116, 117, 114, 110]]
def wantL : List (List UInt8) := [[101, 110, 100, 32, 111, 102, 32, 102, 105, 108, 101], [105, 110, 116, 101, 103, 101, 114], [110, 97, 109, 101], [115, 116, 114, 105, 110, 103], [39, 43, 39], [39, 45, 39], [39, 42, 39], [39, 47, 39], [39, 60, 39], [39, 60, 61, 39], [39, 62, 39], [39, 62, 61, 39], [39, 61, 61, 39], [39, 33, 61, 39], [39, 40, 39], [39, 41, 39], [39, 123, 39], [39, 125, 39], [39, 44, 39], [39, 61, 39], [39, 59, 39], [39, 115, 116, 97, 114, 116, 39], [39, 101, 110, 100, 39], [39, 112, 114, 105, 110, 116, 39], [39, 116, 114, 117, 101, 39], [39, 102, 97, 108, 115, 101, 39], [39, 110, 111, 116, 39], [39, 97, 110, 100, 39], [39, 111, 114, 39], [39, 105, 102, 39], [39, 101, 108, 115, 101, 39], [39, 119, 104, 105, 108, 101, 39], [39, 98, 114, 101, 97, 107, 39], [39, 99, 111, 110, 116, 105, 110, 117, 101, 39], [39, 102, 117, 110, 99, 39], [39, 114, 101, 116, 117, 114, 110, 39]]
def spellS (i : Nat) : ByteArray := ⟨(spellL[i]?.getD []).toArray⟩
def wantS (i : Nat) : ByteArray := ⟨(wantL[i]?.getD []).toArray⟩

/-- The cells of the table that 'zzs3028cwant' builds. -/
def wantA : Array Value := (wantL.map fun s => Value.string ⟨s.toArray⟩).toArray

def zeroA : Array Value := (List.replicate 36 (Value.string ⟨#[]⟩)).toArray
/-- .. and the constants out of which it does. -/
def wantP : Array (Nat × Operand) := #[(0, .const (.string ⟨#[101, 110, 100, 32, 111, 102, 32, 102, 105, 108, 101]⟩)), (1, .const (.string ⟨#[105, 110, 116, 101, 103, 101, 114]⟩)), (2, .const (.string ⟨#[110, 97, 109, 101]⟩)), (3, .const (.string ⟨#[115, 116, 114, 105, 110, 103]⟩)), (4, .const (.string ⟨#[39, 43, 39]⟩)), (5, .const (.string ⟨#[39, 45, 39]⟩)), (6, .const (.string ⟨#[39, 42, 39]⟩)), (7, .const (.string ⟨#[39, 47, 39]⟩)), (8, .const (.string ⟨#[39, 60, 39]⟩)), (9, .const (.string ⟨#[39, 60, 61, 39]⟩)), (10, .const (.string ⟨#[39, 62, 39]⟩)), (11, .const (.string ⟨#[39, 62, 61, 39]⟩)), (12, .const (.string ⟨#[39, 61, 61, 39]⟩)), (13, .const (.string ⟨#[39, 33, 61, 39]⟩)), (14, .const (.string ⟨#[39, 40, 39]⟩)), (15, .const (.string ⟨#[39, 41, 39]⟩)), (16, .const (.string ⟨#[39, 123, 39]⟩)), (17, .const (.string ⟨#[39, 125, 39]⟩)), (18, .const (.string ⟨#[39, 44, 39]⟩)), (19, .const (.string ⟨#[39, 61, 39]⟩)), (20, .const (.string ⟨#[39, 59, 39]⟩)), (21, .const (.string ⟨#[39, 115, 116, 97, 114, 116, 39]⟩)), (22, .const (.string ⟨#[39, 101, 110, 100, 39]⟩)), (23, .const (.string ⟨#[39, 112, 114, 105, 110, 116, 39]⟩)), (24, .const (.string ⟨#[39, 116, 114, 117, 101, 39]⟩)), (25, .const (.string ⟨#[39, 102, 97, 108, 115, 101, 39]⟩)), (26, .const (.string ⟨#[39, 110, 111, 116, 39]⟩)), (27, .const (.string ⟨#[39, 97, 110, 100, 39]⟩)), (28, .const (.string ⟨#[39, 111, 114, 39]⟩)), (29, .const (.string ⟨#[39, 105, 102, 39]⟩)), (30, .const (.string ⟨#[39, 101, 108, 115, 101, 39]⟩)), (31, .const (.string ⟨#[39, 119, 104, 105, 108, 101, 39]⟩)), (32, .const (.string ⟨#[39, 98, 114, 101, 97, 107, 39]⟩)), (33, .const (.string ⟨#[39, 99, 111, 110, 116, 105, 110, 117, 101, 39]⟩)), (34, .const (.string ⟨#[39, 102, 117, 110, 99, 39]⟩)), (35, .const (.string ⟨#[39, 114, 101, 116, 117, 114, 110, 39]⟩))]

theorem info28 : (Ybad.prog.info? 28).map (·.size) = some wantA.size := by kernel_rfl
theorem wantA_one : wantA.all (·.oneCell') = true := by kernel_rfl
theorem wantA_size : wantA.size = 36 := by kernel_rfl

theorem wantA_at (i : Nat) (hi : i < 36) : wantA[i]? = some (.string (wantS i)) := by
  have hl : i < wantL.length := hi
  unfold wantA wantS
  simp [List.getElem?_eq_getElem hl]

theorem run_build (a : Act) (w : World) (t : TypeId) (p : String) (af : Array Edge) : (execOp a.eval { dst := some 4, op := .build 28 wantP, type := t, pos := p, after := af, guard := none }).run Ybad.prog w = .ok (.value (.agg wantA)) w := by kernel_rfl
theorem run_alloc (a : Act) (w : World) (t : TypeId) (p : String) (af : Array Edge) : (execOp a.eval { dst := some 3, op := .alloc 28, type := t, pos := p, after := af, guard := none }).run Ybad.prog w = .ok (.value (.pointer (some ⟨w.heap.size, 0, none⟩))) (w.alloc (.cells zeroA 28)) := by kernel_rfl

theorem run_table (a : Act) (w : World) (t : TypeId) (p : String) (af : Array Edge) (h3 : a.eval (.tmp 3) = .pointer (some ⟨w.heap.size, 0, none⟩)) (h4 : a.eval (.tmp 4) = .agg wantA) :
    (execOp a.eval { dst := none, op := .store 28 (.tmp 3) (.tmp 4), type := t, pos := p, after := af, guard := none }).run Ybad.prog (w.alloc (.cells zeroA 28)) = .ok .skip (w.alloc (.cells wantA 28)) := by
  have hs := run_storeAt_new (P := Ybad.prog) w 28 zeroA wantA info28 (by kernel_rfl) wantA_one
  simp only [execOp, h3, h4, Sem.run_bind, hs, Result.andThen, Sem.run_pure]

/-- The region in which the table is laid. -/
theorem region_table {id : Nat} {t1 t2 t3 : TypeId} {p1 p2 p3 : String} {e1 e2 e3 : Array Edge} {a : Act} {w : World} {Q : Exit → Act → World → Prop} (hs : 4 < a.tmps.size)
    (h : Q .normal (((a.put (some 4) (.agg wantA)).put (some 3) (.pointer (some ⟨w.heap.size, 0, none⟩))).put none undef) (w.alloc (.cells wantA 28))) :
    (Code.region id #[{ dst := some 4, op := .build 28 wantP, type := t1, pos := p1, after := e1, guard := none }, { dst := some 3, op := .alloc 28, type := t2, pos := p2, after := e2, guard := none }, { dst := none, op := .store 28 (.tmp 3) (.tmp 4), type := t3, pos := p3, after := e3, guard := none }] false).wp Ybad.prog Q a w := by
  refine wp_region_list ?_
  refine wpList_plain rfl fun K hK => ?_
  unfold Oper.wp
  rw [run_build]
  refine hK _ _ (wpList_plain rfl fun K hK => ?_)
  unfold Oper.wp
  rw [run_alloc]
  refine hK _ _ (wpList_plain rfl fun K hK => ?_)
  unfold Oper.wp
  rw [run_table]
  · exact hK _ _ h
  · simp [Act.put, Act.eval]
    omega
  · simp [Act.put, Act.eval]
    omega

theorem region_assign {id d : Nat} {v : Value} {t : TypeId} {p : String} {e : Array Edge} {a : Act} {w : World} {Q : Exit → Act → World → Prop} (h : Q .normal (a.put (some d) v) w) :
    (Code.region id #[{ dst := some d, op := .assign (.const v), type := t, pos := p, after := e, guard := none }] false).wp Ybad.prog Q a w :=
  wp_region_list (wpList_plain rfl fun _ hK => hK _ _ h)

set_option maxRecDepth 100000 in
set_option maxHeartbeats 1600000 in
theorem want_any (i : Nat) (hi : i < 36) (w : World) : Calls Ybad.prog 6 #[.int .i64 i] w fun e w' => e = .returned (.string (wantS i)) ∧ Below w.heap.size w w' := by
  have hcell : (w.alloc (.cells wantA 28)).cell? ⟨w.heap.size, i, none⟩ = some (.string (wantS i)) := by
    rw [cell_of_row _ _ i wantA 28 (0, 0) (heap_alloc_last w _)]
    exact wantA_at i hi
  go_enter Ybad.func6, Ybad.ntmps6
  refine wp_seq (region_assign ?_)
  refine wp_seq (region_table (by simp [Act.put]) ?_)
  simp only [Exit.then, Act.put]
  generalize wantA = A at *
  go_wp2
  go_ret
  exact ⟨rfl, (Below.refl _ _).alloc (Nat.le_refl _) _⟩

/-- The two tables agree. -/
theorem tables_agree : (List.range 36).all (fun i => decide (i < 4) || decide ((⟨#[39]⟩ : ByteArray) ++ spellS i ++ ⟨#[39]⟩ = wantS i)) = true := by decide

theorem spell_small : (List.range 36).all (fun i => decide ((spellS i).size ≤ 100)) = true := by decide
theorem agree_at (i : Nat) (hi : i < 36) (h4 : 4 ≤ i) : (⟨#[39]⟩ : ByteArray) ++ spellS i ++ ⟨#[39]⟩ = wantS i := by
  have h := List.all_eq_true.1 tables_agree i (List.mem_range.2 hi)
  simp only [Bool.or_eq_true, decide_eq_true_eq] at h
  rcases h with h | h
  · omega
  · exact h

set_option maxRecDepth 100000 in
set_option maxHeartbeats 1600000 in
theorem string_any (i : Nat) (hi : i < 36) (w : World) (h : ∀ i, i < 36 → w.cell? ⟨0, i, none⟩ = some (.string (spellS i))) :
    Calls Ybad.prog 5 #[.int .i64 i] w fun e w' => e = .returned (.string (wantS i)) ∧ w' = w := by
  have hc := h i hi
  clear h
  by_cases h0 : i = 0
  · subst h0
    go_enter Ybad.func5, Ybad.ntmps5
    go_wp2
    go_ret
    exact ⟨rfl, rfl⟩
  by_cases h1 : i = 1
  · subst h1
    go_enter Ybad.func5, Ybad.ntmps5
    go_wp2
    go_ret
    exact ⟨rfl, rfl⟩
  by_cases h2 : i = 2
  · subst h2
    go_enter Ybad.func5, Ybad.ntmps5
    go_wp2
    go_ret
    exact ⟨rfl, rfl⟩
  by_cases h3 : i = 3
  · subst h3
    go_enter Ybad.func5, Ybad.ntmps5
    go_wp2
    go_ret
    exact ⟨rfl, rfl⟩
  have g0 : ((i : Int) == 0) = false := by simp; omega
  have g1 : ((i : Int) == 1) = false := by simp; omega
  have g2 : ((i : Int) == 2) = false := by simp; omega
  have g3 : ((i : Int) == 3) = false := by simp; omega
  have hsm : (spellS i).size ≤ 100 := by
    have h := List.all_eq_true.1 spell_small i (List.mem_range.2 hi)
    simpa using h
  have hag := agree_at i hi (by omega)
  go_enter Ybad.func5, Ybad.ntmps5
  go_wp2
  go_ret
  exact ⟨rfl, rfl⟩

set_option maxRecDepth 100000 in
set_option maxHeartbeats 1600000 in
theorem table_any (x : Int) (hx0 : 0 ≤ x) (hx1 : x ≤ 18446744073709551615) (w : World) (h : ∀ i, i < 36 → w.cell? ⟨0, i, none⟩ = some (.string (spellS i))) :
    Calls Ybad.prog 3 #[.int .u64 x] w fun e w' => e = .returned (.bool true) ∧ Below w.heap.size w w' := by
  obtain ⟨i, hi, hxi⟩ : ∃ i : Nat, i < 36 ∧ x % 36 = (i : Int) := ⟨(x % 36).toNat, by omega, by omega⟩
  have hS := string_any i hi w h
  have hW := want_any i hi w
  clear h
  go_enter Ybad.func3, Ybad.ntmps3
  go_wp2_with fail
  refine hS.mono ?_
  rintro e w' ⟨rfl, rfl⟩
  go_wp2_with fail
  refine hW.mono ?_
  rintro e w1 ⟨rfl, hb⟩
  have HB : Hid (Below w'.heap.size w' w1) := hb
  clear hb hW hS
  go_wp2
  go_ret
  exact ⟨rfl, HB.out⟩
end Go.Proofs.YbulkbjrmDoor
