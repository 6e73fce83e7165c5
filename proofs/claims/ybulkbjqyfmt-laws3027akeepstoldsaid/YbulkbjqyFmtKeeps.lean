import Derived.Test.YbulkbjqyFmtState
import Derived.BigQuiet
import Derived.Carry
import Derived.Deep.LoopGhost
namespace Go.Proofs.YbulkbjqyFmt
open Go.RowKit

/-- What the walk is told of the names that came in. -/
def CameS (w : World) (na : Option Addr) (nb noff nl : Nat) (N : Nat → ByteArray) : Prop :=
  ∀ i, i < nl → na = some ⟨nb, noff, none⟩ ∧ nb < w.heap.size ∧ w.cell? ⟨nb, noff + i, none⟩ = some (.string (N i))

theorem RS.start {w w1 : World} {to : Int} {nm : Nat → ByteArray} {cd : Nat → Value} {wv : Value} (hf : ((w.alloc (.map #[] 0)).alloc (.cells (rcells to 0 (.slice none 0 0) w.heap.size).toArray 41)).grownBy w1 none) (ho : w1.ownsRow w.heap.size 42 1 wv 0 []) :
    RS w w1 (w.heap.size + 1) w.heap.size to nm cd [] (.slice none 0 0) wv [] := by
  have F0 : Fr [] w (w.alloc (.map #[] 0)) := (Fr.refl [] w).alloc _
  have F1 : Fr [] (w.alloc (.map #[] 0)) ((w.alloc (.map #[] 0)).alloc (.cells (rcells to 0 (.slice none 0 0) w.heap.size).toArray 41)) := (Fr.refl [] _).alloc _
  have F2 : Fr [] ((w.alloc (.map #[] 0)).alloc (.cells (rcells to 0 (.slice none 0 0) w.heap.size).toArray 41)) w1 := (Fr.refl [] _).grown hf (by simp)
  have hB := Blk.new (w.alloc (.map #[] 0)) (rcells to 0 (.slice none 0 0) w.heap.size) 41
  have hM : PM (w.alloc (.map #[] 0)) w.heap.size [] := ⟨#[], 0, (Go.MapKept.heap_alloc w _).1, rfl⟩
  refine ⟨by simpa using hB.fr F2 (by simp), (hM.fr F1 (by simp)).fr F2 (by simp), World.ownsRow_nil _ _ _ _, ho, by simp, by simp, by simp [Value.ownBlock], ((F0.trans F1).trans F2).below (Nat.le_refl _) (by simp), by omega, Nat.le_refl _⟩

theorem RS.wt' {w0 w w' : World} {r m n : Nat} {to : Int} {nm : Nat → ByteArray} {cd : Nat → Value} {gs : List (Nat × Bool)} {tv wv : Value} {ys : List Value} (h : RS w0 w r m to nm cd gs tv wv ys) (hn : ys.length = n) (hf : Fr [] w w') : w'.ownsRow w0.heap.size 42 1 wv n ys := by
  subst hn
  exact hf.owns h.wt (by simp)

theorem RS.task {w0 w : World} {r m n g cap i : Nat} {to : Int} {nm : Nat → ByteArray} {cd : Nat → Value} {gs : List (Nat × Bool)} {wv : Value} {ys : List Value} {p : Nat × Bool} (h : RS w0 w r m to nm cd gs (.slice (some ⟨g, 0, none⟩) n cap) wv ys) (hi : gs[i]? = some p) :
    w.cell? ⟨g, i, none⟩ = some (.pointer (some ⟨p.1, 0, none⟩)) := by
  have hlt := (List.getElem?_eq_some_iff.1 hi).1
  have ht := h.tk
  have hn : n = gs.length := by
    rcases ht.2 with ⟨h', _⟩ | ⟨g', cap', cur, h', _⟩
    · simp at h'
    · simp at h'; exact h'.2.1
  subst hn
  rw [ht.cellAt i (by omega), List.getElem?_map, hi]
  rfl

theorem neq_same (a : Addr) (w : World) : (binOp .neq 42 (.pointer (some a)) (.pointer (some a))).run Ybaf.prog w = .ok (.bool false) w := by
  have h : ∀ d : Nat, (Op.equalIn (d + 1) 42 (.pointer (some a)) (.pointer (some a))).run Ybaf.prog w = .ok true w := fun d => by
    simp [Op.equalIn, run_underlying Ybaf.underlying42, Ybaf.sizeOf50, run_sameAddr_same]
  simp only [binOp]
  simp [Op.equal, Op.maxDepth, h 9999]

theorem neq_func (w : World) : (binOp .neq 44 .nilFunc .nilFunc).run Ybaf.prog w = .ok (.bool false) w := by kernel_rfl
theorem neq_hooks (w : World) : (binOp .neq 45 (.slice none 0 0) (.slice none 0 0)).run Ybaf.prog w = .ok (.bool false) w := by kernel_rfl
theorem neq_rules (w : World) : (binOp .neq 46 (.slice none 0 0) (.slice none 0 0)).run Ybaf.prog w = .ok (.bool false) w := by kernel_rfl

theorem RS.made {w0 w : World} {r m n g cap i : Nat} {to : Int} {nm : Nat → ByteArray} {cd : Nat → Value} {gs : List (Nat × Bool)} {tv : Value} {p : Nat × Bool} (h : RS w0 w r m to nm cd gs tv (.slice (some ⟨g, 0, none⟩) n cap) (gs.map fun p => pk p.1)) (hi : gs[i]? = some p) :
    w.cell? ⟨g, i, none⟩ = some (.pointer (some ⟨p.1, 0, none⟩)) := by
  have hlt := (List.getElem?_eq_some_iff.1 hi).1
  have ht := h.wt
  rw [List.length_map] at ht
  have hn : n = gs.length := by
    rcases ht.2 with ⟨h', _⟩ | ⟨g', cap', cur, h', _⟩
    · simp at h'
    · simp at h'; exact h'.2.1
  subst hn
  rw [ht.cellAt i (by omega), List.getElem?_map, hi]
  rfl

theorem RS.look {w0 w : World} {r m i : Nat} {to : Int} {nm : Nat → ByteArray} {cd : Nat → Value} {gs : List (Nat × Bool)} {tv wv : Value} {ys : List Value} {b : Nat} {f : Bool} (h : RS w0 w r m to nm cd gs tv wv ys) (hi : gs[i]? = some (b, f)) :
    (Instr.lookup 24 (.map (some m)) (.pointer (some ⟨b, 0, none⟩)) true).run Ybaf.prog w = .ok (.tuple #[.bool f, .bool true]) w ∧ (Instr.lookup 24 (.map (some m)) (.pointer (some ⟨b, 0, none⟩)) false).run Ybaf.prog w = .ok (.bool f) w :=
  look_hit h.mp (fun p hp => by obtain ⟨_, _, hb⟩ := h.mem hp; exact hb.tk) h.nd hi

theorem fr_draw (w : World) (q : Nat) : Fr [] w (w.drewN q) := (Fr.refl [] w).drewN q

set_option maxRecDepth 100000 in
set_option maxHeartbeats 3200000 in
theorem keeps_any (na : Option Addr) (nb noff nl nc : Nat) (N : Nat → ByteArray) (to : Int) (w : World) (hnl : nl ≤ maxLen) (h : CameS w na nb noff nl N) :
    Calls Ybaf.prog 4 #[.slice na nl nc, .int .i64 to] w fun e w' => e = .returned (.bool true) ∧ Below w.heap.size w w' := by
  have HC : Hid (CameS w na nb noff nl N) := h
  unfold maxLen at hnl
  clear h
  by_cases hp : nl ≤ 1024
  · have hpd : decide ((1024 : Int) < (nl : Int)) = false := decide_eq_false (by omega)
    have hq := neq_same
    have hmm := @run_makeMap Ybaf.prog
    obtain ⟨i0, hi, hz0, hz1, hz2⟩ := info_parts Ybaf.info42
    go_enter Ybaf.func4, Ybaf.ntmps4
    go_wp2_with (first | (at_make; refine wpList_make_own _ rfl _ _ 39 rfl w.heap.size 42 i0 _ 1 Ybaf.underlying39 hi hz0 hz1 .i64 .i64 _ nl rfl rfl rfl (by rw [hz2]; omega) (by unfold maxLen; omega) (by simp; omega) ?_; intro w1 hown1 hgrow1))
    have S1 : Hid (RS w w1 (w.heap.size + 1) w.heap.size to N (fun _ => .iface 43 (.agg #[])) [] (.slice none 0 0) (.slice (some ⟨w.heap.size + 2, 0, none⟩) 0 nl) []) := RS.start hgrow1 (by simpa using hown1)
    clear hown1 hgrow1
    go_loopw [6, 7] (fun v i wr => ∃ (gs : List (Nat × Bool)) (tv : Value) (gv cv : Nat), gs.length ≤ nl ∧ i = .int .i64 gs.length ∧ v = .slice (some ⟨gv, 0, none⟩) gs.length cv ∧ Hid (∀ p ∈ gs, p.2 = true) ∧ Hid (RS w wr (w.heap.size + 1) w.heap.size to N (fun _ => .iface 43 (.agg #[])) gs tv (.slice (some ⟨gv, 0, none⟩) gs.length cv) (gs.map fun p => pk p.1))) (fun _ i _ => nl - (intOf i).toNat)
    case atStart => exact ⟨[], .slice none 0 0, w.heap.size + 2, nl, Nat.zero_le _, rfl, by simp, by simp [Hid], S1.out⟩
    case round =>
      clear S1
      obtain ⟨gs, tv, gv, cv, hk, rfl, rfl, HT, HS⟩ := hrel
      by_cases hlt : gs.length < nl
      · obtain ⟨rfl, hnw, hnc⟩ := HC.out gs.length hlt
        have hcn : wr.cell? ⟨nb, noff + gs.length, none⟩ = some (.string (N gs.length)) := (HS.out.bel.cell (by exact hnw)).trans hnc
        clear hnc
        have hlI : (gs.length : Int) < (nl : Int) := by omega
        have h0I : (0 : Int) ≤ (gs.length : Int) := by omega
        go_wp2_with fail
        refine (HS.out.call5 rfl (by omega)).mono ?_
        rintro e w2 ⟨rfl, g, cap, S2', hB2⟩
        have S2 : Hid (RS w w2 (w.heap.size + 1) w.heap.size to N (fun _ => .iface 43 (.agg #[])) (gs ++ [(wr.heap.size, true)]) (.slice (some ⟨g, 0, none⟩) (gs.length + 1) cap) (.slice (some ⟨gv, 0, none⟩) gs.length cv) (gs.map fun p => pk p.1)) := S2'
        generalize wr.heap.size = b at *
        clear S2' hB2 HS hcn
        have hb2 := S2.out.base
        have hml : (gs.map fun p => pk p.1).length = gs.length := by simp
        go_wp2_with (at_builtin; refine wpList_append_one rfl (.tmp 40) (.tmp 42) rfl w.heap.size (.slice (some ⟨gv, 0, none⟩) gs.length cv) gs.length (gs.map fun p => pk p.1) (by rfl) (S2.out.wt' hml ((Fr.refl [] w2).alloc _)) w2.heap.size b (by rfl) ((Blk.new w2 [pk b] 42).cell 0) (by omega) (by simp; omega) ?_; intro g3 cap3 w3 hown3 hfr3 hat3; have S3 : Hid (RS w w3 (w.heap.size + 1) w.heap.size to N (fun _ => .iface 43 (.agg #[])) (gs ++ [(b, true)]) (.slice (some ⟨g, 0, none⟩) (gs.length + 1) cap) (.slice (some ⟨g3, 0, none⟩) (gs.length + 1) cap3) ((gs.map fun p => pk p.1) ++ [pk b])) := (S2.out.fr0 ((Fr.refl [] w2).alloc _)).want hml hown3 hfr3 hat3; have d7 := S3.out.rb.cell 7; simp [rcells] at d7; have dg := S3.out.task (i := gs.length) (p := (b, true)) (by simp); simp at dg; clear hown3 hfr3 hat3 S2)
        have hgl : (gs ++ [(b, true)]).length = gs.length + 1 := by simp
        go_roundw
        case rel => exact ⟨gs ++ [(b, true)], _, g3, cap3, by omega, by rw [hgl]; go_num, by rw [hgl], fun p hp => by
            rcases List.mem_append.1 hp with h | h
            · exact HT.out p h
            · simp at h; rw [h], by rw [hgl, List.map_append]; exact S3.out⟩
        case measure => simp [intOf]; omega
      · have hkl : gs.length = nl := by omega
        have d0 := HS.out.rb.cell 0
        have d4 := HS.out.rb.cell 4
        have d8 := HS.out.rb.cell 8
        have d9 := HS.out.rb.cell 9
        simp [rcells] at d0 d4 d8 d9
        have hml := map_len HS.out.mp
        have HG : Hid (0 < gs.length → ∃ gt ct, tv = .slice (some ⟨gt, 0, none⟩) gs.length ct) := fun h0 => by
          obtain ⟨g, c, e, _⟩ := HS.out.tk.form h0
          exact ⟨g, c, e⟩
        have hta := assert_once
        have hn44 := neq_func
        have hn45 := neq_hooks
        have hn46 := neq_rules
        go_wp2_with fail
        clear d0 d4 d8 d9 hml
        go_loopw [9] (fun i wx => ∃ j : Nat, j ≤ gs.length ∧ i = .int .i64 j ∧ Hid (RS w wx (w.heap.size + 1) w.heap.size to N (fun _ => .iface 43 (.agg #[])) gs tv (.slice (some ⟨gv, 0, none⟩) gs.length cv) (gs.map fun p => pk p.1))) (fun i _ => gs.length - (intOf i).toNat)
        case atStart => exact ⟨0, Nat.zero_le _, rfl, HS.out⟩
        case round =>
          clear HS
          obtain ⟨j, hj, rfl, HS⟩ := hrel
          by_cases hjl : j < gs.length
          · obtain ⟨gt, ct, rfl⟩ := HG.out (by omega)
            obtain ⟨p, hp⟩ : ∃ p, gs[j]? = some p := ⟨gs[j], List.getElem?_eq_getElem hjl⟩
            obtain ⟨b, f⟩ := p
            have hf : f = true := HT.out (b, f) (List.mem_of_getElem? hp)
            subst hf
            obtain ⟨rfl, hnw, hnc⟩ := HC.out j (by omega)
            have hcn : wr.cell? ⟨nb, noff + j, none⟩ = some (.string (N j)) := (HS.out.bel.cell (by exact hnw)).trans hnc
            have hB := HS.out.ts j _ hp
            have b0 := hB.cell 0
            have b4 := hB.cell 4
            simp [tcells] at b0 b4
            have hmj := HS.out.made hp
            have htj := HS.out.task hp
            have d7 := HS.out.rb.cell 7
            simp [rcells] at hmj htj d7
            have hlI : (j : Int) < (gs.length : Int) := by omega
            have hlN : (j : Int) < (nl : Int) := by omega
            have h0I : (0 : Int) ≤ (j : Int) := by omega
            clear hB hnc HG
            go_wp2
            go_quiet (fail)
            have HS2 : Hid (RS w ((wr.drewN nq).alloc (.cells #[] 43)) (w.heap.size + 1) w.heap.size to N (fun _ => .iface 43 (.agg #[])) gs (.slice (some ⟨gt, 0, none⟩) gs.length ct) (.slice (some ⟨gv, 0, none⟩) gs.length cv) (gs.map fun p => pk p.1)) := HS.out.fr0 ((fr_draw wr nq).alloc _)
            have hB := HS2.out.ts j _ hp
            have e1 := hB.cell 1
            have e2 := hB.cell 2
            have e3 := hB.cell 3
            have e5 := hB.cell 5
            have e6 := hB.cell 6
            have r8 := HS2.out.rb.cell 8
            simp only [tcells, rcells, List.getElem?_cons_succ, List.getElem?_cons_zero] at e1 e2 e3 e5 e6 r8
            have hlk := (HS2.out.look hp).2
            clear hB
            go_wp2
            go_roundw
            case rel => exact ⟨j + 1, by omega, by go_num, HS2.out⟩
            case measure => simp [intOf]; omega
          · go_wp2
            go_ret
            exact ⟨rfl, HS.out.bel⟩
  · go_enter Ybaf.func4, Ybaf.ntmps4
    go_wp2
    go_ret
    exact ⟨rfl, Below.refl _ _⟩
end Go.Proofs.YbulkbjqyFmt
