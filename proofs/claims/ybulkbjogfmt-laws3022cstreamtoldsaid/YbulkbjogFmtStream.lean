import Derived.Test.YbulkbjogFmtLw
namespace Go.Proofs.YbulkbjogFmt
open Go.RowKit

/-- WHAT THE WALK IS TOLD OF THE TWO SLICES THAT CAME IN. -/
structure Came (w : World) (da : Option Addr) (db doff dl : Nat) (D : Nat → Int) (pa : Option Addr) (pb poff pl : Nat) (A : Nat → Option Addr) (L C : Nat → Nat) (B : Nat → List Int) : Prop where
  ds : ∀ i, i < dl → da = some ⟨db, doff, none⟩ ∧ db < w.heap.size ∧ w.cell? ⟨db, doff + i, none⟩ = some (.int .i64 (D i))
  ps : ∀ i, i < pl → pa = some ⟨pb, poff, none⟩ ∧ pb < w.heap.size ∧ w.cell? ⟨pb, poff + i, none⟩ = some (.slice (A i) (L i) (C i)) ∧ Src w (A i) (L i) (C i) (cb (B i)) ∧ (0 < L i → ∀ ad, A i = some ad → ad.block < w.heap.size)

theorem Src.below {w w' : World} {ap : Option Addr} {m cap : Nat} {cs : List Value} (h : Src w ap m cap cs) (hb : Below w.heap.size w w') : Src w' ap m cap cs := by
  rcases h with h | ⟨ad, rfl, hl, hc, h1⟩
  · exact .inl h
  · exact .inr ⟨ad, rfl, hl, fun j u hu => (hb.cell (World.block_lt_of_cell? w (ad.add j) (hc j u hu))).trans (hc j u hu), h1⟩

theorem cb_at (T : List Int) (j : Nat) (hj : j < T.length) : (cb T)[j]? = some (.int .u8 (T.getD j 0)) := by
  unfold cb
  rw [List.getElem?_map, List.getElem?_eq_getElem hj, List.getD_eq_getElem?_getD, List.getElem?_eq_getElem hj]
  rfl

theorem wrap64_lo (x : Int) : -9223372036854775808 ≤ wrap64 x := by unfold wrap64; omega
theorem wrap64_hi (x : Int) : wrap64 x ≤ 9223372036854775807 := by unfold wrap64; omega

theorem blk3 {w : World} {b : Nat} {x y z : Value} {t : TypeId} (h : Blk w b [x, y, z] t) : w.cell? ⟨b, 0, none⟩ = some x ∧ w.cell? ⟨b, 1, none⟩ = some y ∧ w.cell? ⟨b, 2, none⟩ = some z :=
  ⟨by simpa using h.cell 0, by simpa using h.cell 1, by simpa using h.cell 2⟩

theorem LW.owns {w0 w : World} {wb c g s recs : Nat} {T1 T2 : List Int} {v : Value} (h : LW w0 wb c g s recs T1 T2 v w) : w.ownsRow w0.heap.size 5 1 v T2.length (cb T2) := by
  obtain ⟨_, _, _, _, _, _, _, ho, _⟩ := h
  exact ho

/-- A round's end: both lists have grown by one record. -/
theorem LW.close {w0 a b : World} {wb c g s0 recs m n gv cv : Nat} {T P : List Int} {s u s' u' : Int} {v : Value} (h : LW w0 wb c g s0 recs (T ++ recB s u m P) ((((T ++ le32 s') ++ le32 u') ++ le32 m) ++ le32 m) v a)
    (hn : ((((T ++ le32 s') ++ le32 u') ++ le32 m) ++ le32 m).length = n) (hP : P.length = m) (hs : s' = s) (hu : u' = u)
    (h1 : b.ownsRow w0.heap.size 5 1 (.slice (some ⟨gv, 0, none⟩) (n + m) cv) (n + m) (cb ((((T ++ le32 s') ++ le32 u') ++ le32 m) ++ le32 m) ++ cb P)) (h2 : Fr v.ownBlock.toList a b) (h3 : v.ownBlock = some gv ∨ a.heap.size ≤ gv) :
    LW w0 wb c g s0 recs (T ++ recB s u m P) (T ++ recB s u m P) (.slice (some ⟨gv, 0, none⟩) (T ++ recB s u m P).length cv) b := by
  subst hs hu hn
  have e : ((((T ++ le32 s') ++ le32 u') ++ le32 m) ++ le32 m) ++ P = T ++ recB s' u' m P := by simp [recB, List.append_assoc]
  have k := h.want (n' := (T ++ recB s' u' m P).length) (by rw [← e, List.length_append (bs := P), hP]) hP h1 h2 h3
  rw [e] at k
  exact k

set_option maxRecDepth 100000 in
set_option maxHeartbeats 3200000 in
theorem cstream_any (lt : Int) (da : Option Addr) (db doff dl dc : Nat) (D : Nat → Int) (pa : Option Addr) (pb poff pl pc : Nat) (A : Nat → Option Addr) (L C : Nat → Nat) (B : Nat → List Int) (w : World) (hl0 : 0 ≤ lt) (hl1 : lt < 4294967296) (hdl : dl ≤ maxLen) (hpl : pl ≤ maxLen)
    (hL : ∀ i, i < pl → L i ≤ maxLen) (h : Came w da db doff dl D pa pb poff pl A L C B) :
    Calls Ybaf.prog 5 #[.int .u32 lt, .slice da dl dc, .slice pa pl pc] w fun e w' => e = .returned (.bool true) ∧ Below w.heap.size w w' := by
  have HC : Hid (Came w da db doff dl D pa pb poff pl A L C B) := h
  have HL : Hid (∀ i, i < pl → L i ≤ 9223372036854775807) := hL
  unfold maxLen at hdl hpl
  clear h hL
  by_cases hp : pl ≤ 1024
  · have hpd : decide ((1024 : Int) < (pl : Int)) = false := decide_eq_false (by omega)
    go_enter Ybaf.func5, Ybaf.ntmps5
    go_wp2
    go_loop [7] (fun i => ∃ k : Nat, k ≤ pl ∧ i = .int .i64 k ∧ Hid (∀ j, j < k → L j ≤ 65535)) (fun i => pl - (intOf i).toNat)
    case atStart => exact ⟨0, Nat.zero_le _, rfl, fun j hj => by omega⟩
    case round =>
      obtain ⟨k, hk, rfl, hall⟩ := hrel
      by_cases hlt : k < pl
      · obtain ⟨rfl, hpw, hcell, _⟩ := HC.out.ps k hlt
        have hLk := HL.out k hlt
        by_cases hbig : L k ≤ 65535
        · go_wp2
          go_round
          case rel => exact ⟨k + 1, by omega, by go_num, fun j hj => by by_cases e : j = k; rw [e]; exact hbig; exact hall.out j (by omega)⟩
          case measure => simp [intOf]; omega
        · go_wp2
          go_ret
          exact ⟨rfl, Below.refl _ _⟩
      · have HA : Hid (∀ j, j < pl → L j ≤ 65535) := fun j hj => hall.out j (by omega)
        clear hall HL
        go_wp2_with fail
        refine (newWriter_any 30 (.inl rfl) ⟨w.heap.size, 0, none⟩ lt _ hl0 hl1).mono ?_
        rintro e w1 ⟨wb, c, g, zs, rfl, hwb, hB, hz, hF, h1, h2, h3⟩
        have L1 : Hid (LW w wb c g w.heap.size 0 (hdr lt) [] (.slice none 0 0) w1) := LW.start hwb hB hz hF h1 h2 h3
        clear hwb hB hz hF h1 h2 h3
        go_wp2_with fail
        refine (lw_le32 (n' := 4) _ L1.out rfl (by omega) (by omega) (by omega)).mono ?_
        rintro e w2 ⟨g2, c2, rfl, L2'⟩
        have L2 : Hid (LW w wb c g w.heap.size 0 (hdr lt) ([] ++ le32 2712847316) (.slice (some ⟨g2, 0, none⟩) 4 c2) w2) := L2'
        clear L1 L2'
        have hb2 := L2.out.bel.size
        go_wp2_with (at_builtin; refine wpList_append_src rfl (.tmp 41) (.tmp 42) rfl w.heap.size (.slice (some ⟨g2, 0, none⟩) 4 c2) 4 (cb ([] ++ le32 2712847316)) (by rfl) (L2.out.fr0 ((Fr.refl [] w2).alloc _)).owns (some ⟨w2.heap.size, 0, none⟩) 4 4 (cb [2, 0, 4, 0]) (by rfl) (.inr ⟨_, rfl, rfl, news_new (cb [2, 0, 4, 0]) 5 rfl, cb_one _⟩) (by omega) (by omega) (by simp; omega) ?_; intro g3 c3 w3 hown3 hfr3 hat3)
        have L3 : Hid (LW w wb c g w.heap.size 0 (hdr lt) (([] ++ le32 2712847316) ++ [2, 0, 4, 0]) (.slice (some ⟨g3, 0, none⟩) 8 c3) w3) := (L2.out.fr0 ((Fr.refl [] w2).alloc _)).want rfl rfl hown3 hfr3 hat3
        clear L2 hown3 hfr3 hat3 hb2
        go_wp2_with fail
        refine (lw_le32 (n' := 12) _ L3.out rfl (by omega) (by omega) (by omega)).mono ?_
        rintro e w4 ⟨g4, c4, rfl, L4'⟩
        have L4 : Hid (LW w wb c g w.heap.size 0 (hdr lt) ((([] ++ le32 2712847316) ++ [2, 0, 4, 0]) ++ le32 0) (.slice (some ⟨g4, 0, none⟩) 12 c4) w4) := L4'
        clear L3 L4'
        go_wp2_with fail
        refine (lw_le32 (n' := 16) _ L4.out rfl (by omega) (by omega) (by omega)).mono ?_
        rintro e w5 ⟨g5, c5, rfl, L5'⟩
        have L5 : Hid (LW w wb c g w.heap.size 0 (hdr lt) (((([] ++ le32 2712847316) ++ [2, 0, 4, 0]) ++ le32 0) ++ le32 0) (.slice (some ⟨g5, 0, none⟩) 16 c5) w5) := L5'
        clear L4 L5'
        go_wp2_with fail
        refine (lw_le32 (n' := 20) _ L5.out rfl (by omega) (by omega) (by omega)).mono ?_
        rintro e w6 ⟨g6, c6, rfl, L6'⟩
        have L6 : Hid (LW w wb c g w.heap.size 0 (hdr lt) ((((([] ++ le32 2712847316) ++ [2, 0, 4, 0]) ++ le32 0) ++ le32 0) ++ le32 65535) (.slice (some ⟨g6, 0, none⟩) 20 c6) w6) := L6'
        clear L5 L6'
        go_wp2_with fail
        refine (lw_le32 (n' := 24) lt L6.out rfl (by omega) hl0 hl1).mono ?_
        rintro e w7 ⟨g7, c7, rfl, L7'⟩
        have L7 : Hid (LW w wb c g w.heap.size 0 (hdr lt) (((((([] ++ le32 2712847316) ++ [2, 0, 4, 0]) ++ le32 0) ++ le32 0) ++ le32 65535) ++ le32 lt) (.slice (some ⟨g7, 0, none⟩) 24 c7) w7) := L7'
        clear L6 L7'
        have L8 : Hid (LW w wb c g w.heap.size 0 (hdr lt) (hdr lt) (.slice (some ⟨g7, 0, none⟩) 24 c7) w7) := L7.out
        clear L7
        go_wp2
        go_loopw [10, 11] (fun v i wr => ∃ (k : Nat) (T : List Int) (gv cv : Nat), k ≤ pl ∧ i = .int .i64 k ∧ Hid (24 ≤ T.length ∧ T.length ≤ 24 + k * 65551) ∧ v = .slice (some ⟨gv, 0, none⟩) T.length cv ∧ Hid (LW w wb c g w.heap.size k T T (.slice (some ⟨gv, 0, none⟩) T.length cv) wr)) (fun _ i _ => pl - (intOf i).toNat)
        case atStart => exact ⟨0, hdr lt, g7, c7, Nat.zero_le _, rfl, ⟨Nat.le_refl 24, Nat.le_refl 24⟩, rfl, L8.out⟩
        case round =>
          clear L8
          obtain ⟨k, T, gv, cv, hk, rfl, hTl, rfl, HLW⟩ := hrel
          by_cases hlt : k < pl
          · obtain ⟨hpa, hpw, hpc, hsrc, hblk⟩ := HC.out.ps k hlt
            subst hpa
            have hLk : L k ≤ 65535 := HA.out k hlt
            have hPl : (B k).length = L k := by have := hsrc.length; rwa [cb_length] at this
            have hTb : 24 ≤ T.length ∧ T.length ≤ 24 + k * 65551 := hTl.out
            have hT1 : T.length ≤ 70000000 := by omega
            have HQ : Hid (Src w (A k) (L k) (C k) (cb (B k)) ∧ (0 < L k → ∀ ad, A k = some ad → ad.block < w.heap.size) ∧ (B k).length = L k ∧ 24 ≤ T.length ∧ T.length ≤ 24 + k * 65551 ∧ w.cell? ⟨pb, poff + k, none⟩ = some (.slice (A k) (L k) (C k))) := ⟨hsrc, hblk, hPl, hTb.1, hTb.2, hpc⟩
            have hcp : wr.cell? ⟨pb, poff + k, none⟩ = some (.slice (A k) (L k) (C k)) := (HLW.out.bel.cell (by exact hpw)).trans hpc
            clear hsrc hblk hPl hTb hpc hTl
            by_cases hkd : k < dl
            · obtain ⟨hda, hdw, hdc⟩ := HC.out.ds k hkd
              subst hda
              have hcd : wr.cell? ⟨db, doff + k, none⟩ = some (.int .i64 (D k)) := (HLW.out.bel.cell (by exact hdw)).trans hdc
              clear hdc
              obtain ⟨d, hdx, hd0, hd1⟩ : ∃ d, wrap64 (D k * 123456789) = d ∧ -9223372036854775808 ≤ d ∧ d ≤ 9223372036854775807 := ⟨_, rfl, wrap64_lo _, wrap64_hi _⟩
              obtain ⟨t, sx, q, r, ht, hs, ht0, ht1, hs0, hs1, hqr⟩ := time_parts d hd0 hd1
              have HAdd : Hid (∀ wx, Calls Ybaf.prog 13 #[.agg #[.int .u64 0, .int .i64 0, .pointer none], .int .i64 d] wx fun e w' => e = .returned (.agg #[.int .u64 r, .int .i64 q, .pointer none]) ∧ Fr [] wx w') := fun wx => add_any d t sx r q wx hd0 hd1 ht hs ht0 ht1 hs0 hs1 hqr
              rcases hqr with ⟨hneg, rfl, hr⟩ | ⟨hneg, rfl, hr⟩
              · have hr9 : r < 1000000000 := by omega
                have HR : Hid ((r : Int) = sx + 1000000000) := hr
                clear hr hd0 hd1
                go_wp2_with fail
                refine (HAdd.out _).mono ?_
                rintro e wa ⟨rfl, hfa⟩
                have LA : Hid (LW w wb c g w.heap.size k T T (.slice (some ⟨gv, 0, none⟩) T.length cv) (wa.alloc (.cells #[.int .u64 r, .int .i64 (t - 1), .pointer none] 40))) := (HLW.out.fr0 hfa).fr0 ((Fr.refl [] wa).alloc _)
                have TB : Hid (Blk (wa.alloc (.cells #[.int .u64 r, .int .i64 (t - 1), .pointer none] 40)) wa.heap.size [.int .u64 r, .int .i64 (t - 1), .pointer none] 40) := Blk.new wa _ _
                clear hfa hcp hcd HLW
                go_wp2_with fail
                generalize wa.alloc (.cells #[.int .u64 r, .int .i64 (t - 1), .pointer none] 40) = W at *
                generalize wa.heap.size = tb at *
                obtain ⟨t0, t1, t2⟩ := blk3 TB.out
                have hcW : W.cell? ⟨pb, poff + k, none⟩ = some (.slice (A k) (L k) (C k)) := (LA.out.bel.cell (by exact hpw)).trans HQ.out.2.2.2.2.2
                have hlI : (k : Int) < (pl : Int) := by omega
                have h0I : (0 : Int) ≤ (k : Int) := by omega
                go_region_held3 (fun w' => w'.cell? ⟨tb, 0, none⟩ = some (.int .u64 r) ∧ w'.cell? ⟨tb, 1, none⟩ = some (.int .i64 (t - 1)) ∧ w'.cell? ⟨tb, 2, none⟩ = some (.pointer none) ∧ w'.cell? ⟨pb, poff + k, none⟩ = some (.slice (A k) (L k) (C k))) (first | go_keep | exact ⟨(blk3 (hkeep tb _ TB.out)).1, (blk3 (hkeep tb _ TB.out)).2.1, (blk3 (hkeep tb _ TB.out)).2.2, (hLP.bel.cell (by exact hpw)).trans HQ.out.2.2.2.2.2⟩) ((go_at_call 14; refine (lw_packet (LA.out.fr0 ((Fr.refl [] W).drew)) r (L k) (C k) (t - 1) _ _ (A k) (B k) rfl rfl hr9 (by omega) (by omega) hLk (by omega) (HQ.out.1.below (LA.out.fr0 ((Fr.refl [] W).drew)).bel) HQ.out.2.1 (by omega)).mono ?_; rintro e wp ⟨rfl, hLP, hkeep⟩))
                have LP : Hid (LW w wb c g w.heap.size (k + 1) (T ++ recB ((t - 1 + -62135596800) % 4294967296) ((r / 1000 : Nat) : Int) (L k) (B k)) T (.slice (some ⟨gv, 0, none⟩) T.length cv) wp) := hLP
                clear hLP hkeep t0 t1 t2 hcW LA TB
                go_wp2_with fail
                refine (lw_le32 (n' := T.length + 4) _ LP.out rfl (by omega) (by omega) (by omega)).mono ?_
                rintro e v1 ⟨gv1, cv1, rfl, M1'⟩
                have M1 : Hid (LW w wb c g w.heap.size (k + 1) _ _ (.slice (some ⟨gv1, 0, none⟩) (T.length + 4) cv1) v1) := M1'
                clear LP M1'
                go_wp2_with fail
                refine (lw_le32 (n' := T.length + 8) _ M1.out (by simp [le32]) (by omega) (by omega) (by omega)).mono ?_
                rintro e v2 ⟨gv2, cv2, rfl, M2'⟩
                have M2 : Hid (LW w wb c g w.heap.size (k + 1) _ _ (.slice (some ⟨gv2, 0, none⟩) (T.length + 8) cv2) v2) := M2'
                clear M1 M2'
                have hc2 : v2.cell? ⟨pb, poff + k, none⟩ = some (.slice (A k) (L k) (C k)) := (M2.out.bel.cell (by exact hpw)).trans HQ.out.2.2.2.2.2
                go_wp2_with fail
                refine (lw_le32 (n' := T.length + 12) _ M2.out (by simp [le32]) (by omega) (by omega) (by omega)).mono ?_
                rintro e v3 ⟨gv3, cv3, rfl, M3'⟩
                have M3 : Hid (LW w wb c g w.heap.size (k + 1) _ _ (.slice (some ⟨gv3, 0, none⟩) (T.length + 12) cv3) v3) := M3'
                clear M2 M3' hc2
                have hc3 : v3.cell? ⟨pb, poff + k, none⟩ = some (.slice (A k) (L k) (C k)) := (M3.out.bel.cell (by exact hpw)).trans HQ.out.2.2.2.2.2
                go_wp2_with fail
                refine (lw_le32 (n' := T.length + 16) _ M3.out (by simp [le32]) (by omega) (by omega) (by omega)).mono ?_
                rintro e v4 ⟨gv4, cv4, rfl, M4'⟩
                have M4 : Hid (LW w wb c g w.heap.size (k + 1) _ _ (.slice (some ⟨gv4, 0, none⟩) (T.length + 16) cv4) v4) := M4'
                clear M3 M4' hc3
                have hc4 : v4.cell? ⟨pb, poff + k, none⟩ = some (.slice (A k) (L k) (C k)) := (M4.out.bel.cell (by exact hpw)).trans HQ.out.2.2.2.2.2
                have hls : ((((T ++ le32 ((t - 1 - 62135596800) % 4294967296)) ++ le32 ((sx + 1000000000) / 1000)) ++ le32 ↑(L k)) ++ le32 ↑(L k)).length = T.length + 16 := by simp [le32]
                have ho4 := M4.out.owns
                rw [hls] at ho4
                have hb4 := M4.out.bel.size
                go_wp2_with (at_builtin; refine wpList_append_src rfl (.tmp 117) (.tmp 121) rfl w.heap.size (.slice (some ⟨gv4, 0, none⟩) (T.length + 16) cv4) (T.length + 16) _ (by rfl) ho4 (A k) (L k) (C k) (cb (B k)) (by rfl) (HQ.out.1.below M4.out.bel) (by omega) (by omega) hb4 ?_; intro g5 c5 v5 hown5 hfr5 hat5)
                have M5 : Hid (LW w wb c g w.heap.size (k + 1) (T ++ recB ((t - 1 + -62135596800) % 4294967296) ((r / 1000 : Nat) : Int) (L k) (B k)) (T ++ recB ((t - 1 + -62135596800) % 4294967296) ((r / 1000 : Nat) : Int) (L k) (B k)) (.slice (some ⟨g5, 0, none⟩) (T ++ recB ((t - 1 + -62135596800) % 4294967296) ((r / 1000 : Nat) : Int) (L k) (B k)).length c5) v5) :=
                  LW.close (s := (t - 1 + -62135596800) % 4294967296) (u := ((r / 1000 : Nat) : Int)) M4.out hls HQ.out.2.2.1 (by omega) (by have := HR.out; omega) hown5 hfr5 hat5
                have hlen : (T ++ recB ((t - 1 + -62135596800) % 4294967296) ((r / 1000 : Nat) : Int) (L k) (B k)).length = T.length + 16 + L k := by rw [List.length_append, recB_length', HQ.out.2.2.1]; omega
                have hTn : 24 ≤ T.length + 16 + L k ∧ T.length + 16 + L k ≤ 24 + (k + 1) * 65551 := by have := HQ.out.2.2.2.2.1; have := HQ.out.2.2.2.1; omega
                rw [← hlen] at hTn
                clear M4 hown5 hfr5 hat5 ho4 hls
                go_roundw
                case rel => exact ⟨k + 1, _, g5, c5, by omega, by go_num, hTn, by rw [hlen], M5.out⟩
                case measure => simp [intOf]; omega
              · have hr9 : r < 1000000000 := by omega
                have HR : Hid ((r : Int) = sx) := hr
                clear hr hd0 hd1
                go_wp2_with fail
                refine (HAdd.out _).mono ?_
                rintro e wa ⟨rfl, hfa⟩
                have LA : Hid (LW w wb c g w.heap.size k T T (.slice (some ⟨gv, 0, none⟩) T.length cv) (wa.alloc (.cells #[.int .u64 r, .int .i64 q, .pointer none] 40))) := (HLW.out.fr0 hfa).fr0 ((Fr.refl [] wa).alloc _)
                have TB : Hid (Blk (wa.alloc (.cells #[.int .u64 r, .int .i64 q, .pointer none] 40)) wa.heap.size [.int .u64 r, .int .i64 q, .pointer none] 40) := Blk.new wa _ _
                clear hfa hcp hcd HLW
                go_wp2_with fail
                generalize wa.alloc (.cells #[.int .u64 r, .int .i64 q, .pointer none] 40) = W at *
                generalize wa.heap.size = tb at *
                obtain ⟨t0, t1, t2⟩ := blk3 TB.out
                have hcW : W.cell? ⟨pb, poff + k, none⟩ = some (.slice (A k) (L k) (C k)) := (LA.out.bel.cell (by exact hpw)).trans HQ.out.2.2.2.2.2
                have hlI : (k : Int) < (pl : Int) := by omega
                have h0I : (0 : Int) ≤ (k : Int) := by omega
                go_region_held3 (fun w' => w'.cell? ⟨tb, 0, none⟩ = some (.int .u64 r) ∧ w'.cell? ⟨tb, 1, none⟩ = some (.int .i64 q) ∧ w'.cell? ⟨tb, 2, none⟩ = some (.pointer none) ∧ w'.cell? ⟨pb, poff + k, none⟩ = some (.slice (A k) (L k) (C k))) (first | go_keep | exact ⟨(blk3 (hkeep tb _ TB.out)).1, (blk3 (hkeep tb _ TB.out)).2.1, (blk3 (hkeep tb _ TB.out)).2.2, (hLP.bel.cell (by exact hpw)).trans HQ.out.2.2.2.2.2⟩) ((go_at_call 14; refine (lw_packet (LA.out.fr0 ((Fr.refl [] W).drew)) r (L k) (C k) q _ _ (A k) (B k) rfl rfl hr9 (by omega) (by omega) hLk (by omega) (HQ.out.1.below (LA.out.fr0 ((Fr.refl [] W).drew)).bel) HQ.out.2.1 (by omega)).mono ?_; rintro e wp ⟨rfl, hLP, hkeep⟩))
                have LP : Hid (LW w wb c g w.heap.size (k + 1) (T ++ recB ((q + -62135596800) % 4294967296) ((r / 1000 : Nat) : Int) (L k) (B k)) T (.slice (some ⟨gv, 0, none⟩) T.length cv) wp) := hLP
                clear hLP hkeep t0 t1 t2 hcW LA TB
                go_wp2_with fail
                refine (lw_le32 (n' := T.length + 4) _ LP.out rfl (by omega) (by omega) (by omega)).mono ?_
                rintro e v1 ⟨gv1, cv1, rfl, M1'⟩
                have M1 : Hid (LW w wb c g w.heap.size (k + 1) _ _ (.slice (some ⟨gv1, 0, none⟩) (T.length + 4) cv1) v1) := M1'
                clear LP M1'
                go_wp2_with fail
                refine (lw_le32 (n' := T.length + 8) _ M1.out (by simp [le32]) (by omega) (by omega) (by omega)).mono ?_
                rintro e v2 ⟨gv2, cv2, rfl, M2'⟩
                have M2 : Hid (LW w wb c g w.heap.size (k + 1) _ _ (.slice (some ⟨gv2, 0, none⟩) (T.length + 8) cv2) v2) := M2'
                clear M1 M2'
                have hc2 : v2.cell? ⟨pb, poff + k, none⟩ = some (.slice (A k) (L k) (C k)) := (M2.out.bel.cell (by exact hpw)).trans HQ.out.2.2.2.2.2
                go_wp2_with fail
                refine (lw_le32 (n' := T.length + 12) _ M2.out (by simp [le32]) (by omega) (by omega) (by omega)).mono ?_
                rintro e v3 ⟨gv3, cv3, rfl, M3'⟩
                have M3 : Hid (LW w wb c g w.heap.size (k + 1) _ _ (.slice (some ⟨gv3, 0, none⟩) (T.length + 12) cv3) v3) := M3'
                clear M2 M3' hc2
                have hc3 : v3.cell? ⟨pb, poff + k, none⟩ = some (.slice (A k) (L k) (C k)) := (M3.out.bel.cell (by exact hpw)).trans HQ.out.2.2.2.2.2
                go_wp2_with fail
                refine (lw_le32 (n' := T.length + 16) _ M3.out (by simp [le32]) (by omega) (by omega) (by omega)).mono ?_
                rintro e v4 ⟨gv4, cv4, rfl, M4'⟩
                have M4 : Hid (LW w wb c g w.heap.size (k + 1) _ _ (.slice (some ⟨gv4, 0, none⟩) (T.length + 16) cv4) v4) := M4'
                clear M3 M4' hc3
                have hc4 : v4.cell? ⟨pb, poff + k, none⟩ = some (.slice (A k) (L k) (C k)) := (M4.out.bel.cell (by exact hpw)).trans HQ.out.2.2.2.2.2
                have hls : ((((T ++ le32 ((q - 62135596800) % 4294967296)) ++ le32 (sx / 1000)) ++ le32 ↑(L k)) ++ le32 ↑(L k)).length = T.length + 16 := by simp [le32]
                have ho4 := M4.out.owns
                rw [hls] at ho4
                have hb4 := M4.out.bel.size
                go_wp2_with (at_builtin; refine wpList_append_src rfl (.tmp 117) (.tmp 121) rfl w.heap.size (.slice (some ⟨gv4, 0, none⟩) (T.length + 16) cv4) (T.length + 16) _ (by rfl) ho4 (A k) (L k) (C k) (cb (B k)) (by rfl) (HQ.out.1.below M4.out.bel) (by omega) (by omega) hb4 ?_; intro g5 c5 v5 hown5 hfr5 hat5)
                have M5 : Hid (LW w wb c g w.heap.size (k + 1) (T ++ recB ((q + -62135596800) % 4294967296) ((r / 1000 : Nat) : Int) (L k) (B k)) (T ++ recB ((q + -62135596800) % 4294967296) ((r / 1000 : Nat) : Int) (L k) (B k)) (.slice (some ⟨g5, 0, none⟩) (T ++ recB ((q + -62135596800) % 4294967296) ((r / 1000 : Nat) : Int) (L k) (B k)).length c5) v5) :=
                  LW.close (s := (q + -62135596800) % 4294967296) (u := ((r / 1000 : Nat) : Int)) M4.out hls HQ.out.2.2.1 (by omega) (by have := HR.out; omega) hown5 hfr5 hat5
                have hlen : (T ++ recB ((q + -62135596800) % 4294967296) ((r / 1000 : Nat) : Int) (L k) (B k)).length = T.length + 16 + L k := by rw [List.length_append, recB_length', HQ.out.2.2.1]; omega
                have hTn : 24 ≤ T.length + 16 + L k ∧ T.length + 16 + L k ≤ 24 + (k + 1) * 65551 := by have := HQ.out.2.2.2.2.1; have := HQ.out.2.2.2.1; omega
                rw [← hlen] at hTn
                clear M4 hown5 hfr5 hat5 ho4 hls
                go_roundw
                case rel => exact ⟨k + 1, _, g5, c5, by omega, by go_num, hTn, by rw [hlen], M5.out⟩
                case measure => simp [intOf]; omega
            · have hkd' : decide ((k : Int) < (dl : Int)) = false := decide_eq_false (by omega)
              have HAdd : Hid (∀ wx, Calls Ybaf.prog 13 #[.agg #[.int .u64 0, .int .i64 0, .pointer none], .int .i64 0] wx fun e w' => e = .returned (.agg #[.int .u64 0, .int .i64 0, .pointer none]) ∧ Fr [] wx w') := fun wx => add_any 0 0 0 0 0 wx (by omega) (by omega) rfl rfl (by omega) (by omega) (by omega) (by omega) (.inr ⟨by omega, rfl, rfl⟩)
              go_wp2_with fail
              refine (HAdd.out _).mono ?_
              rintro e wa ⟨rfl, hfa⟩
              have LA : Hid (LW w wb c g w.heap.size k T T (.slice (some ⟨gv, 0, none⟩) T.length cv) (wa.alloc (.cells #[.int .u64 0, .int .i64 0, .pointer none] 40))) := (HLW.out.fr0 hfa).fr0 ((Fr.refl [] wa).alloc _)
              have TB : Hid (Blk (wa.alloc (.cells #[.int .u64 0, .int .i64 0, .pointer none] 40)) wa.heap.size [.int .u64 0, .int .i64 0, .pointer none] 40) := Blk.new wa _ _
              clear hfa hcp HLW
              go_wp2_with fail
              generalize wa.alloc (.cells #[.int .u64 0, .int .i64 0, .pointer none] 40) = W at *
              generalize wa.heap.size = tb at *
              obtain ⟨t0, t1, t2⟩ := blk3 TB.out
              have hcW : W.cell? ⟨pb, poff + k, none⟩ = some (.slice (A k) (L k) (C k)) := (LA.out.bel.cell (by exact hpw)).trans HQ.out.2.2.2.2.2
              have hlI : (k : Int) < (pl : Int) := by omega
              have h0I : (0 : Int) ≤ (k : Int) := by omega
              go_region_held3 (fun w' => w'.cell? ⟨tb, 0, none⟩ = some (.int .u64 0) ∧ w'.cell? ⟨tb, 1, none⟩ = some (.int .i64 0) ∧ w'.cell? ⟨tb, 2, none⟩ = some (.pointer none) ∧ w'.cell? ⟨pb, poff + k, none⟩ = some (.slice (A k) (L k) (C k))) (first | go_keep | exact ⟨(blk3 (hkeep tb _ TB.out)).1, (blk3 (hkeep tb _ TB.out)).2.1, (blk3 (hkeep tb _ TB.out)).2.2, (hLP.bel.cell (by exact hpw)).trans HQ.out.2.2.2.2.2⟩) ((go_at_call 14; refine (lw_packet (LA.out.fr0 ((Fr.refl [] W).drew)) 0 (L k) (C k) 0 _ _ (A k) (B k) rfl rfl (by omega) (by omega) (by omega) hLk (by omega) (HQ.out.1.below (LA.out.fr0 ((Fr.refl [] W).drew)).bel) HQ.out.2.1 (by omega)).mono ?_; rintro e wp ⟨rfl, hLP, hkeep⟩))
              have LP : Hid (LW w wb c g w.heap.size (k + 1) (T ++ recB ((0 + -62135596800) % 4294967296) ((0 / 1000 : Nat) : Int) (L k) (B k)) T (.slice (some ⟨gv, 0, none⟩) T.length cv) wp) := hLP
              clear hLP hkeep t0 t1 t2 hcW LA TB
              go_wp2_with fail
              refine (lw_le32 (n' := T.length + 4) _ LP.out rfl (by omega) (by omega) (by omega)).mono ?_
              rintro e v1 ⟨gv1, cv1, rfl, M1'⟩
              have M1 : Hid (LW w wb c g w.heap.size (k + 1) _ _ (.slice (some ⟨gv1, 0, none⟩) (T.length + 4) cv1) v1) := M1'
              clear LP M1'
              go_wp2_with fail
              refine (lw_le32 (n' := T.length + 8) _ M1.out (by simp [le32]) (by omega) (by omega) (by omega)).mono ?_
              rintro e v2 ⟨gv2, cv2, rfl, M2'⟩
              have M2 : Hid (LW w wb c g w.heap.size (k + 1) _ _ (.slice (some ⟨gv2, 0, none⟩) (T.length + 8) cv2) v2) := M2'
              clear M1 M2'
              have hc2 : v2.cell? ⟨pb, poff + k, none⟩ = some (.slice (A k) (L k) (C k)) := (M2.out.bel.cell (by exact hpw)).trans HQ.out.2.2.2.2.2
              go_wp2_with fail
              refine (lw_le32 (n' := T.length + 12) _ M2.out (by simp [le32]) (by omega) (by omega) (by omega)).mono ?_
              rintro e v3 ⟨gv3, cv3, rfl, M3'⟩
              have M3 : Hid (LW w wb c g w.heap.size (k + 1) _ _ (.slice (some ⟨gv3, 0, none⟩) (T.length + 12) cv3) v3) := M3'
              clear M2 M3' hc2
              have hc3 : v3.cell? ⟨pb, poff + k, none⟩ = some (.slice (A k) (L k) (C k)) := (M3.out.bel.cell (by exact hpw)).trans HQ.out.2.2.2.2.2
              go_wp2_with fail
              refine (lw_le32 (n' := T.length + 16) _ M3.out (by simp [le32]) (by omega) (by omega) (by omega)).mono ?_
              rintro e v4 ⟨gv4, cv4, rfl, M4'⟩
              have M4 : Hid (LW w wb c g w.heap.size (k + 1) _ _ (.slice (some ⟨gv4, 0, none⟩) (T.length + 16) cv4) v4) := M4'
              clear M3 M4' hc3
              have hc4 : v4.cell? ⟨pb, poff + k, none⟩ = some (.slice (A k) (L k) (C k)) := (M4.out.bel.cell (by exact hpw)).trans HQ.out.2.2.2.2.2
              have hls : ((((T ++ le32 2288912640) ++ le32 0) ++ le32 ↑(L k)) ++ le32 ↑(L k)).length = T.length + 16 := by simp [le32]
              have ho4 := M4.out.owns
              rw [hls] at ho4
              have hb4 := M4.out.bel.size
              go_wp2_with (at_builtin; refine wpList_append_src rfl (.tmp 117) (.tmp 121) rfl w.heap.size (.slice (some ⟨gv4, 0, none⟩) (T.length + 16) cv4) (T.length + 16) _ (by rfl) ho4 (A k) (L k) (C k) (cb (B k)) (by rfl) (HQ.out.1.below M4.out.bel) (by omega) (by omega) hb4 ?_; intro g5 c5 v5 hown5 hfr5 hat5)
              have M5 : Hid (LW w wb c g w.heap.size (k + 1) (T ++ recB ((0 + -62135596800) % 4294967296) ((0 / 1000 : Nat) : Int) (L k) (B k)) (T ++ recB ((0 + -62135596800) % 4294967296) ((0 / 1000 : Nat) : Int) (L k) (B k)) (.slice (some ⟨g5, 0, none⟩) (T ++ recB ((0 + -62135596800) % 4294967296) ((0 / 1000 : Nat) : Int) (L k) (B k)).length c5) v5) :=
                LW.close (s := (0 + -62135596800) % 4294967296) (u := ((0 / 1000 : Nat) : Int)) M4.out hls HQ.out.2.2.1 (by omega) (by rfl) hown5 hfr5 hat5
              have hlen : (T ++ recB ((0 + -62135596800) % 4294967296) ((0 / 1000 : Nat) : Int) (L k) (B k)).length = T.length + 16 + L k := by rw [List.length_append, recB_length', HQ.out.2.2.1]; omega
              have hTn : 24 ≤ T.length + 16 + L k ∧ T.length + 16 + L k ≤ 24 + (k + 1) * 65551 := by have := HQ.out.2.2.2.2.1; have := HQ.out.2.2.2.1; omega
              rw [← hlen] at hTn
              clear M4 hown5 hfr5 hat5 ho4 hls
              go_roundw
              case rel => exact ⟨k + 1, _, g5, c5, by omega, by go_num, hTn, by rw [hlen], M5.out⟩
              case measure => simp [intOf]; omega
          · have hwr := HLW.out.wr
            have hTb : 24 ≤ T.length ∧ T.length ≤ 24 + k * 65551 := hTl.out
            have hT0 : 0 < T.length := by omega
            have hT1 : T.length ≤ 100000000 := by omega
            clear hTb
            go_wp2_with fail
            refine (lw_flush HLW.out (by omega)).mono ?_
            rintro e w8 ⟨rfl, hbel, hown, sv, hsc, hsown⟩
            obtain ⟨gs, cs, rfl, _, _⟩ := hsown.form hT0
            have HB8 : Hid (Below w.heap.size w w8) := hbel
            have HW8 : Hid (∀ j, j < T.length → w8.cell? ⟨gv, j, none⟩ = some (.int .u8 (T.getD j 0))) := fun j hj => by
              rw [hown.cellAt j (by omega), cb_at T j hj]
            have HS8 : Hid (∀ j, j < T.length → w8.cell? ⟨gs, j, none⟩ = some (.int .u8 (T.getD j 0))) := fun j hj => by
              rw [hsown.cellAt j (by omega), cb_at T j hj]
            clear hbel hown hsown hwr HLW
            go_wp2
            go_loopw [17] (fun i wx => ∃ j q : Nat, j ≤ T.length ∧ i = .int .i64 j ∧ wx = w8.drewN q) (fun i _ => T.length - (intOf i).toNat)
            case atStart => exact ⟨0, 0, Nat.zero_le _, rfl, rfl⟩
            case round =>
              obtain ⟨j, q, hj, rfl, rfl⟩ := hrel
              by_cases hjl : j < T.length
              · have a1 := HW8.out j hjl
                have a2 := HS8.out j hjl
                have hlI : (j : Int) < (T.length : Int) := by omega
                have h0I : (0 : Int) ≤ (j : Int) := by omega
                go_wp2
                go_quiet (fail)
                go_wp2
                go_roundw
                case rel => exact ⟨j + 1, q + nq, by omega, by go_num, rfl⟩
                case measure => simp [intOf]; omega
              · go_wp2
                go_ret
                exact ⟨rfl, HB8.out.os, HB8.out.tape, HB8.out.output, HB8.out.size, HB8.out.block⟩
  · go_enter Ybaf.func5, Ybaf.ntmps5
    go_wp2
    go_ret
    exact ⟨rfl, Below.refl _ _⟩
end Go.Proofs.YbulkbjogFmt
