import Derived.Test.YbulkbjneCheck
namespace Go.Proofs.Ybulkbjne
open Go.RowKit

theorem below_drewN {B : Nat} {a w : World} (h : Below B a w) (q : Nat) : Below B a (w.drewN q) := ⟨h.os, h.tape, h.output, h.size, h.block⟩

/-- LawS3020BFirst answers true, and writes nothing that was there. -/
theorem first_any (a : Option Addr) (b off len cap : Nat) (S : Nat → ByteArray) (name : ByteArray) (w : World) (hm : len ≤ maxLen)
    (hc : ∀ j, j < len → a = some ⟨b, off, none⟩ ∧ b < w.heap.size ∧ w.cell? ⟨b, off + j, none⟩ = some (.string (S j))) :
    Calls Yba.prog 3 #[.slice a len cap, .string name] w fun e w' => e = .returned (.bool true) ∧ Below w.heap.size w w' := by
  unfold maxLen at hm
  by_cases hlen : len ≤ 1024
  · go_enter Yba.func3, Yba.ntmps3
    go_wp2_with fail
    refine (build_any a b off len cap S _ hlen hc).mono ?_
    rintro e w1 ⟨c, g, rfl, hcell, hrow, hb⟩
    go_wp2_with fail
    refine (metric_any c g len S name _ hlen hcell hrow.name).mono ?_
    rintro e w2 ⟨⟨v, rfl, hF⟩, rfl⟩
    have hc1 : ∀ j, j < len → a = some ⟨b, off, none⟩ ∧ w2.cell? ⟨b, off + j, none⟩ = some (.string (S j)) := fun j hj => by
      obtain ⟨h1, h2, h3⟩ := hc j hj
      exact ⟨h1, (hb.cell (by exact h2)).trans h3⟩
    rcases hF with ⟨t, ht, rfl, heq, hno⟩ | ⟨rfl, hno⟩
    · have H1 : Hid _ := heq
      have H2 : Hid _ := hno
      clear heq hno
      go_wp2_with fail
      refine (check_hit c g len cap b off a S name _ hlen hcell hrow.name hc1 t ht H1.out H2.out).mono ?_
      rintro e w3 ⟨rfl, q, rfl⟩
      go_wp2
      go_ret
      exact ⟨rfl, below_drewN hb q⟩
    · have H2 : Hid _ := hno
      clear hno
      go_wp2_with fail
      refine (check_miss c g len cap b off a S name _ hlen hcell hrow.name hc1 H2.out).mono ?_
      rintro e w3 ⟨rfl, q, rfl⟩
      go_wp2
      go_ret
      exact ⟨rfl, below_drewN hb q⟩
  · go_enter Yba.func3, Yba.ntmps3
    go_wp2
    go_ret
    exact ⟨rfl, Below.refl _ _⟩

/-- LawS3020BHit answers true, and writes nothing that was there. -/
theorem hit_any (a : Option Addr) (b off len cap : Nat) (S : Nat → ByteArray) (sel : Int) (w : World) (hm : len ≤ maxLen) (hs0 : 0 ≤ sel) (hs1 : sel ≤ 65535)
    (hc : ∀ j, j < len → a = some ⟨b, off, none⟩ ∧ b < w.heap.size ∧ w.cell? ⟨b, off + j, none⟩ = some (.string (S j))) :
    Calls Yba.prog 4 #[.slice a len cap, .int .u16 sel] w fun e w' => e = .returned (.bool true) ∧ Below w.heap.size w w' := by
  unfold maxLen at hm
  by_cases hlen : len ≤ 1024
  · by_cases hz : len = 0
    · subst hz
      go_enter Yba.func4, Yba.ntmps4
      go_wp2_with fail
      refine (build_any a b off 0 cap S _ hlen hc).mono ?_
      rintro e w1 ⟨c, g, rfl, hcell, hrow, hb⟩
      go_wp2_with fail
      refine (metric_any c g 0 S ⟨#[]⟩ _ hlen hcell hrow.name).mono ?_
      rintro e w2 ⟨⟨v, rfl, hF⟩, rfl⟩
      rcases hF with ⟨t, ht, _⟩ | ⟨rfl, _⟩
      · omega
      · go_wp2
        go_ret
        exact ⟨rfl, hb⟩
    · obtain ⟨n, rfl⟩ : ∃ n : Nat, sel = n := ⟨sel.toNat, by omega⟩
      have hmod : n % len < len := Nat.mod_lt _ (by omega)
      have hne : ((len : Int) == 0) = false := by simp; omega
      obtain ⟨rfl, hbw, hcm⟩ := hc (n % len) hmod
      have HC : Hid (∀ j, j < len → True ∧ b < w.heap.size ∧ w.cell? ⟨b, off + j, none⟩ = some (.string (S j))) := fun j hj => ⟨trivial, (hc j hj).2⟩
      clear hc
      go_enter Yba.func4, Yba.ntmps4
      go_wp2_with fail
      refine (build_any _ b off len cap S _ hlen (fun j hj => ⟨rfl, (HC.out j hj).2⟩)).mono ?_
      rintro e w1 ⟨c, g, rfl, hcell, hrow, hb⟩
      have hcm1 : w1.cell? ⟨b, off + n % len, none⟩ = some (.string (S (n % len))) := (hb.cell (by exact hbw)).trans hcm
      go_wp2_with fail
      refine (metric_any c g len S (S (n % len)) _ hlen hcell hrow.name).mono ?_
      rintro e w2 ⟨⟨v, rfl, hF⟩, rfl⟩
      rcases hF with ⟨t, ht, rfl, heq, hno⟩ | ⟨_, hno⟩
      · have H2 : Hid _ := hno
        have hct := hrow.name t ht
        clear hno
        go_wp2_with fail
        refine (check_hit c g len cap b off _ S (S (n % len)) _ hlen hcell hrow.name (fun j hj => ?_) t ht heq H2.out).mono ?_
        · obtain ⟨_, h2, h3⟩ := HC.out j hj
          exact ⟨rfl, (hb.cell (by exact h2)).trans h3⟩
        rintro e w3 ⟨rfl, q, rfl⟩
        go_wp2
        go_ret
        exact ⟨rfl, below_drewN hb q⟩
      · have := hno _ hmod
        simp at this
  · go_enter Yba.func4, Yba.ntmps4
    go_wp2
    go_ret
    exact ⟨rfl, Below.refl _ _⟩
end Go.Proofs.Ybulkbjne
