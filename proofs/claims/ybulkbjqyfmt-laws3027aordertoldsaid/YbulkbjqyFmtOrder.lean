import Derived.Test.YbulkbjqyFmtKeeps
namespace Go.Proofs.YbulkbjqyFmt
open Go.RowKit

/-- What the walk is told of the bytes that came in. -/
def CameU (w : World) (na : Option Addr) (nb noff nl : Nat) (V : Nat → Int) : Prop :=
  ∀ i, i < nl → na = some ⟨nb, noff, none⟩ ∧ nb < w.heap.size ∧ w.cell? ⟨nb, noff + i, none⟩ = some (.int .u8 (V i)) ∧ 0 ≤ V i ∧ V i ≤ 255

theorem RS.call6 {w0 w : World} {r m : Nat} {to : Int} {nm : Nat → ByteArray} {cd : Nat → Value} {gs : List (Nat × Bool)} {tv wv : Value} {ys : List Value} (h : RS w0 w r m to nm cd gs tv wv ys) {name : ByteArray} {cad : Value} (hn : nm gs.length = name) (hc : cd gs.length = cad) (hle : gs.length ≤ 1000000) :
    Calls Ybaf.prog 6 #[.pointer (some ⟨r, 0, none⟩), .pointer (some ⟨w.heap.size, 0, none⟩)] (w.alloc (.cells (tcells name cad).toArray 50)) fun e w' => e = .returned (.tuple #[]) ∧
      ∃ g cap, RS w0 w' r m to nm cd (gs ++ [(w.heap.size, false)]) (.slice (some ⟨g, 0, none⟩) (gs.length + 1) cap) wv ys := by
  have F0 : Fr [] w (w.alloc (.cells (tcells name cad).toArray 50)) := (Fr.refl [] w).alloc _
  have h' := h.fr0 F0
  have hB := Blk.new w (tcells name cad) 50
  have hne : ∀ p ∈ gs, p.1 ≠ w.heap.size := fun p hp e => by
    obtain ⟨i, _, hb⟩ := h.mem hp
    have := hb.lt
    omega
  have hT : ∀ p ∈ gs, Tk (w.alloc (.cells (tcells name cad).toArray 50)) p.1 := fun p hp => by
    obtain ⟨i, _, hb⟩ := h'.mem hp
    exact hb.tk
  refine (add_any r w.heap.size m to tv gs.length w0.heap.size _ gs _ h'.rb h'.mp h'.tk hB.tk (fun p hp => ⟨hne p hp, hT p hp⟩) (hB.ne h'.rb (by decide)) (fun p hp => by obtain ⟨i, _, hb⟩ := h'.mem hp; exact hb.ne h'.rb (by decide)) hle h'.base).mono ?_
  rintro e w' ⟨rfl, g, cap, h1, h2, h3, h4, h5⟩
  exact ⟨rfl, g, cap, h'.added hB hn hc hne h1 h2 h3 h4 h5⟩

theorem RS.call5' {w0 w : World} {r m : Nat} {to : Int} {nm : Nat → ByteArray} {cd : Nat → Value} {gs : List (Nat × Bool)} {tv wv : Value} {ys : List Value} (h : RS w0 w r m to nm cd gs tv wv ys) {name : ByteArray} (hn : nm gs.length = name) (hc : cd gs.length = .iface 43 (.agg #[])) (hle : gs.length ≤ 1000000) :
    Calls Ybaf.prog 5 #[.pointer (some ⟨r, 0, none⟩), .pointer (some ⟨w.heap.size, 0, none⟩)] (w.alloc (.cells (tcells name (.iface 43 (.agg #[]))).toArray 50)) fun e w' => e = .returned (.tuple #[]) ∧
      ∃ g cap, RS w0 w' r m to nm cd (gs ++ [(w.heap.size, true)]) (.slice (some ⟨g, 0, none⟩) (gs.length + 1) cap) wv ys := by
  subst hn
  exact (h.call5 hc hle).mono fun e w' ⟨he, g, cap, hr, _⟩ => ⟨he, g, cap, hr⟩

/-- The names and the cadences of the tasks. -/
def nmO (V : Nat → Int) (i : Nat) : ByteArray := if V i % 2 = 0 then ⟨#[112]⟩ else ⟨#[97]⟩
def cdO (V : Nat → Int) (i : Nat) : Value := if V i % 2 = 0 then .iface 43 (.agg #[]) else .iface 53 (.agg #[.int .i64 1])

theorem flags_snoc {V : Nat → Int} {gs : List (Nat × Bool)} {b : Nat} {f : Bool} (h : ∀ j p, gs[j]? = some p → p.2 = decide (V j % 2 = 0)) (hf : f = decide (V gs.length % 2 = 0)) : ∀ j p, (gs ++ [(b, f)])[j]? = some p → p.2 = decide (V j % 2 = 0) := by
  intro j p hj
  rw [List.getElem?_append] at hj
  split at hj
  · exact h j p hj
  · have hi0 : j = gs.length := by
      have := (List.getElem?_eq_some_iff.1 hj).1
      simp at this; omega
    subst hi0
    simp at hj
    subst hj
    exact hf

set_option maxRecDepth 100000 in
set_option maxHeartbeats 3200000 in
theorem order_any (na : Option Addr) (nb noff nl nc : Nat) (V : Nat → Int) (w : World) (hnl : nl ≤ maxLen) (h : CameU w na nb noff nl V) :
    Calls Ybaf.prog 3 #[.slice na nl nc] w fun e w' => e = .returned (.bool true) ∧ Below w.heap.size w w' := by
  have HC : Hid (CameU w na nb noff nl V) := h
  unfold maxLen at hnl
  clear h
  by_cases hp : nl ≤ 1024
  · have hpd : decide ((1024 : Int) < (nl : Int)) = false := decide_eq_false (by omega)
    have hq := neq_same
    have hmm := @run_makeMap Ybaf.prog
    obtain ⟨i0, hi, hz0, hz1, hz2⟩ := info_parts Ybaf.info42
    go_enter Ybaf.func3, Ybaf.ntmps3
    go_wp2_with (first | (at_make; refine wpList_make_own _ rfl _ _ 39 rfl w.heap.size 42 i0 _ 1 Ybaf.underlying39 hi hz0 hz1 .i64 .i64 _ nl rfl rfl rfl (by rw [hz2]; omega) (by unfold maxLen; omega) (by simp; omega) ?_; intro w1 hown1 hgrow1))
    have S1 : Hid (RS w w1 (w.heap.size + 1) w.heap.size 0 (nmO V) (cdO V) [] (.slice none 0 0) (.slice (some ⟨w.heap.size + 2, 0, none⟩) 0 nl) []) := RS.start hgrow1 (by simpa using hown1)
    clear hown1 hgrow1
    go_loopw [4, 5] (fun v i wr => ∃ (gs : List (Nat × Bool)) (tv : Value) (gv cv : Nat), gs.length ≤ nl ∧ i = .int .i64 gs.length ∧ v = .slice (some ⟨gv, 0, none⟩) gs.length cv ∧ Hid (∀ j p, gs[j]? = some p → p.2 = decide (V j % 2 = 0)) ∧ Hid (RS w wr (w.heap.size + 1) w.heap.size 0 (nmO V) (cdO V) gs tv (.slice (some ⟨gv, 0, none⟩) gs.length cv) (gs.map fun p => pk p.1))) (fun _ i _ => nl - (intOf i).toNat)
    case atStart => exact ⟨[], .slice none 0 0, w.heap.size + 2, nl, Nat.zero_le _, rfl, by simp, by simp [Hid], S1.out⟩
    case round =>
      clear S1
      obtain ⟨gs, tv, gv, cv, hk, rfl, rfl, HT, HS⟩ := hrel
      by_cases hlt : gs.length < nl
      · obtain ⟨rfl, hnw, hnc, hv0, hv1⟩ := HC.out gs.length hlt
        have hcn : wr.cell? ⟨nb, noff + gs.length, none⟩ = some (.int .u8 (V gs.length)) := (HS.out.bel.cell (by exact hnw)).trans hnc
        clear hnc
        have hlI : (gs.length : Int) < (nl : Int) := by omega
        have h0I : (0 : Int) ≤ (gs.length : Int) := by omega
        by_cases hev : V gs.length % 2 = 0
        · go_wp2_with fail
          refine (HS.out.call5' (by simp [nmO, hev]) (by simp [cdO, hev]) (by omega)).mono ?_
          rintro e w2 ⟨rfl, g, cap, S2'⟩
          have S2 : Hid (RS w w2 (w.heap.size + 1) w.heap.size 0 (nmO V) (cdO V) (gs ++ [(wr.heap.size, true)]) (.slice (some ⟨g, 0, none⟩) (gs.length + 1) cap) (.slice (some ⟨gv, 0, none⟩) gs.length cv) (gs.map fun p => pk p.1)) := S2'
          generalize wr.heap.size = b at *
          clear S2' HS hcn
          have hb2 := S2.out.base
          have hml : (gs.map fun p => pk p.1).length = gs.length := by simp
          go_wp2_with (at_builtin; refine wpList_append_one rfl (.tmp 45) (.tmp 47) rfl w.heap.size (.slice (some ⟨gv, 0, none⟩) gs.length cv) gs.length (gs.map fun p => pk p.1) (by rfl) (S2.out.wt' hml ((Fr.refl [] w2).alloc _)) w2.heap.size b (by rfl) ((Blk.new w2 [pk b] 42).cell 0) (by omega) (by simp; omega) ?_; intro g3 cap3 w3 hown3 hfr3 hat3; have S3 : Hid (RS w w3 (w.heap.size + 1) w.heap.size 0 (nmO V) (cdO V) (gs ++ [(b, true)]) (.slice (some ⟨g, 0, none⟩) (gs.length + 1) cap) (.slice (some ⟨g3, 0, none⟩) (gs.length + 1) cap3) ((gs.map fun p => pk p.1) ++ [pk b])) := (S2.out.fr0 ((Fr.refl [] w2).alloc _)).want hml hown3 hfr3 hat3; clear hown3 hfr3 hat3 S2)
          have hgl : (gs ++ [(b, true)]).length = gs.length + 1 := by simp
          go_roundw
          case rel => exact ⟨gs ++ [(b, true)], _, g3, cap3, by omega, by rw [hgl]; go_num, by rw [hgl], flags_snoc HT.out (by simp [hev]), by rw [hgl, List.map_append]; exact S3.out⟩
          case measure => simp [intOf]; omega
        · go_wp2_with fail
          refine (HS.out.call6 (name := ⟨#[97]⟩) (cad := .iface 53 (.agg #[.int .i64 1])) (by simp [nmO, hev]) (by simp [cdO, hev]) (by omega)).mono ?_
          rintro e w2 ⟨rfl, g, cap, S2'⟩
          have S2 : Hid (RS w w2 (w.heap.size + 1) w.heap.size 0 (nmO V) (cdO V) (gs ++ [(wr.heap.size, false)]) (.slice (some ⟨g, 0, none⟩) (gs.length + 1) cap) (.slice (some ⟨gv, 0, none⟩) gs.length cv) (gs.map fun p => pk p.1)) := S2'
          generalize wr.heap.size = b at *
          clear S2' HS hcn
          have hb2 := S2.out.base
          have hml : (gs.map fun p => pk p.1).length = gs.length := by simp
          go_wp2_with (at_builtin; refine wpList_append_one rfl (.tmp 45) (.tmp 47) rfl w.heap.size (.slice (some ⟨gv, 0, none⟩) gs.length cv) gs.length (gs.map fun p => pk p.1) (by rfl) (S2.out.wt' hml ((Fr.refl [] w2).alloc _)) w2.heap.size b (by rfl) ((Blk.new w2 [pk b] 42).cell 0) (by omega) (by simp; omega) ?_; intro g3 cap3 w3 hown3 hfr3 hat3; have S3 : Hid (RS w w3 (w.heap.size + 1) w.heap.size 0 (nmO V) (cdO V) (gs ++ [(b, false)]) (.slice (some ⟨g, 0, none⟩) (gs.length + 1) cap) (.slice (some ⟨g3, 0, none⟩) (gs.length + 1) cap3) ((gs.map fun p => pk p.1) ++ [pk b])) := (S2.out.fr0 ((Fr.refl [] w2).alloc _)).want hml hown3 hfr3 hat3; clear hown3 hfr3 hat3 S2)
          have hgl : (gs ++ [(b, false)]).length = gs.length + 1 := by simp
          go_roundw
          case rel => exact ⟨gs ++ [(b, false)], _, g3, cap3, by omega, by rw [hgl]; go_num, by rw [hgl], flags_snoc HT.out (by simp [hev]), by rw [hgl, List.map_append]; exact S3.out⟩
          case measure => simp [intOf]; omega
      · have hkl : gs.length = nl := by omega
        have d7 := HS.out.rb.cell 7
        have d8 := HS.out.rb.cell 8
        have d9 := HS.out.rb.cell 9
        simp [rcells] at d7 d8 d9
        have hml := map_len HS.out.mp
        obtain ⟨ta, tc, rfl⟩ : ∃ ta tc, tv = .slice ta gs.length tc := by
          rcases HS.out.tk.2 with ⟨e, h0⟩ | ⟨g, c, _, e, _⟩
          · exact ⟨none, 0, by rw [e]; simp at h0 ⊢; simp [h0]⟩
          · exact ⟨_, c, e⟩
        go_wp2_with fail
        clear d7 d8 d9 hml
        have HG : Hid (0 < gs.length → ∃ gt, ta = some ⟨gt, 0, none⟩) := fun h0 => by
          obtain ⟨g, c, e, _⟩ := HS.out.tk.form h0
          simp at e
          exact ⟨g, e.1⟩
        go_loopw [7] (fun i wx => ∃ j : Nat, j ≤ gs.length ∧ i = .int .i64 j ∧ Hid (RS w wx (w.heap.size + 1) w.heap.size 0 (nmO V) (cdO V) gs (.slice ta gs.length tc) (.slice (some ⟨gv, 0, none⟩) gs.length cv) (gs.map fun p => pk p.1))) (fun i _ => gs.length - (intOf i).toNat)
        case atStart => exact ⟨0, Nat.zero_le _, rfl, HS.out⟩
        case round =>
          clear HS
          obtain ⟨j, hj, rfl, HS⟩ := hrel
          by_cases hjl : j < gs.length
          · obtain ⟨gt, rfl⟩ := HG.out (by omega)
            obtain ⟨p, hp⟩ : ∃ p, gs[j]? = some p := ⟨gs[j], List.getElem?_eq_getElem hjl⟩
            obtain ⟨b, f⟩ := p
            have hf : f = decide (V j % 2 = 0) := HT.out j (b, f) hp
            obtain ⟨rfl, hnw, hnc, hv0, hv1⟩ := HC.out j (by omega)
            have hcn : wr.cell? ⟨nb, noff + j, none⟩ = some (.int .u8 (V j)) := (HS.out.bel.cell (by exact hnw)).trans hnc
            have hmj := HS.out.made hp
            have htj := HS.out.task hp
            have d7 := HS.out.rb.cell 7
            have d8 := HS.out.rb.cell 8
            simp [rcells] at hmj htj d7 d8
            have hlI : (j : Int) < (gs.length : Int) := by omega
            have hlN : (j : Int) < (nl : Int) := by omega
            have h0I : (0 : Int) ≤ (j : Int) := by omega
            have hlk : ∀ q : Nat, (Instr.lookup 24 (.map (some w.heap.size)) (.pointer (some ⟨b, 0, none⟩)) true).run Ybaf.prog (wr.drewN q) = .ok (.tuple #[.bool f, .bool true]) (wr.drewN q) := fun q => ((HS.out.fr0 (fr_draw wr q)).look hp).1
            clear hnc HG
            by_cases hev : V j % 2 = 0
            · have hft : f = true := by rw [hf]; simp [hev]
              subst hft
              clear hf
              go_wp2
              go_quiet (fail)
              go_wp2
              go_quiet (fail)
              go_wp2
              go_roundw
              case rel => exact ⟨j + 1, by omega, by go_num, HS.out.fr0 (fr_draw wr _)⟩
              case measure => simp [intOf]; omega
            · have hft : f = false := by rw [hf]; simp [hev]
              subst hft
              have hev' : (V j % 2 == 0) = false := by simp [hev]
              clear hf
              go_wp2
              go_quiet (fail)
              go_wp2
              go_quiet (fail)
              go_wp2
              go_roundw
              case rel => exact ⟨j + 1, by omega, by go_num, HS.out.fr0 (fr_draw wr _)⟩
              case measure => simp [intOf]; omega
          · go_wp2
            go_ret
            exact ⟨rfl, HS.out.bel⟩
  · go_enter Ybaf.func3, Ybaf.ntmps3
    go_wp2
    go_ret
    exact ⟨rfl, Below.refl _ _⟩
end Go.Proofs.YbulkbjqyFmt
