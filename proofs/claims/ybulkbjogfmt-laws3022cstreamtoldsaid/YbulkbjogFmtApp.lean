import Derived.Test.YbulkbjogFmtFrame
import Derived.Maps.AppendAt
namespace Go.Proofs.YbulkbjogFmt
open Go.RowKit

/-- WHAT A SLICE OF BYTES READS AS: it is nil and holds nothing; or its cells hold the bytes P. -/
def Src (w : World) (ap : Option Addr) (m cap : Nat) (cs : List Value) : Prop :=
  (ap = none ∧ m = 0 ∧ cap = 0 ∧ cs = []) ∨ (∃ ad, ap = some ad ∧ cs.length = m ∧ (∀ j u, cs[j]? = some u → w.cell? (ad.add j) = some u) ∧ ∀ u ∈ cs, u.oneCell' = true)

theorem Src.length {w : World} {ap : Option Addr} {m cap : Nat} {cs : List Value} (h : Src w ap m cap cs) : cs.length = m := by
  rcases h with ⟨_, rfl, _, rfl⟩ | ⟨_, _, h, _⟩
  · rfl
  · exact h

/-- append(v, p...), v the call's own: it may grow, or stay. -/
theorem run_append_src (w : World) (ty : TypeId) (base : Nat) (v : Value) (n : Nat) (xs : List Value) (hown : w.ownsRow base 5 1 v n xs) (ap : Option Addr) (m cap : Nat) (cs : List Value) (hsrc : Src w ap m cap cs)
    (hpos : 0 < n + m) (hle : n + m ≤ 1099511627776) (hbase : base ≤ w.heap.size) :
    ∃ g cap' w', (Builtin.append_ #[22, 22] ty #[v, .slice ap m cap]).run Ybaf.prog w = .ok (.slice (some ⟨g, 0, none⟩) (n + m) cap') w' ∧
      w'.ownsRow base 5 1 (.slice (some ⟨g, 0, none⟩) (n + m) cap') (n + m) (xs ++ cs) ∧ Fr v.ownBlock.toList w w' ∧ (v.ownBlock = some g ∨ w.heap.size ≤ g) := by
  obtain ⟨i0, hi, hz0, hz1, hz2⟩ := info_parts Ybaf.info5
  rcases hsrc with ⟨rfl, rfl, rfl, rfl⟩ | ⟨ad, rfl, hl, hc, h1⟩
  · have hr := run_append_owned_none (P := Ybaf.prog) (w := w) base 22 ty 5 i0 1 Ybaf.underlying22 hi v n xs hown
    obtain ⟨g, cap', rfl, _, _⟩ := hown.form (by omega)
    exact ⟨g, cap', w, hr, by simpa using hown, Fr.refl _ _, .inl rfl⟩
  · obtain ⟨v', w', hr, ho, hg, _, hat⟩ := run_append_own_at (P := Ybaf.prog) w base 22 ty 5 i0 (.int .u8 0) 1 1 Ybaf.underlying22 hi hz0 hz1 hz2 rfl (by decide) v n xs hown ad m cap cs (by omega) hc h1 (by unfold maxLen; omega) (by omega) hbase
    obtain ⟨g, cap', rfl, _, _⟩ := ho.form (by omega)
    refine ⟨g, cap', w', hr, ho, (Fr.refl _ w).grown hg (fun k hk => .inl (by simp [hk])), ?_⟩
    rcases hat with h | h
    · exact .inl h.symm
    · exact .inr (by simp [Value.ownBlock] at h; omega)

theorem wp_append_src {o : Oper} {a : Act} {w : World} {K : Act → World → Prop} {Q : Exit → Act → World → Prop} (s x : Operand)
    (ho : o.op = .call { callee := .builtin .append, args := #[s, x], argTypes := #[22, 22] })
    (base : Nat) (v : Value) (n : Nat) (xs : List Value) (hs : a.eval s = v) (hown : w.ownsRow base 5 1 v n xs) (ap : Option Addr) (m cap : Nat) (cs : List Value) (hx : a.eval x = .slice ap m cap) (hsrc : Src w ap m cap cs)
    (hpos : 0 < n + m) (hle : n + m ≤ 1099511627776) (hbase : base ≤ w.heap.size)
    (h : ∀ g cap' w', w'.ownsRow base 5 1 (.slice (some ⟨g, 0, none⟩) (n + m) cap') (n + m) (xs ++ cs) → Fr v.ownBlock.toList w w' → (v.ownBlock = some g ∨ w.heap.size ≤ g) → K (a.put o.dst (.slice (some ⟨g, 0, none⟩) (n + m) cap')) w') : o.wp Ybaf.prog a w K Q := by
  obtain ⟨g, cap', w', hr, h2, h3, h4⟩ := run_append_src w o.type base v n xs hown ap m cap cs hsrc hpos hle hbase
  unfold Oper.wp execOp
  simp only [ho, resolve, invoke, builtin, Sem.run_bind, Sem.run_pure, Result.andThen_ok, List.map_toArray, List.map_cons, List.map_nil, hs, hx, hr]
  exact h g cap' w' h2 h3 h4

theorem wpList_append_src {ops : Array Oper} {rest : List Oper} {o : Oper} {a : Act} {w : World} {Q : Exit → Act → World → Prop} (hgd : o.guard = none) (s x : Operand)
    (ho : o.op = .call { callee := .builtin .append, args := #[s, x], argTypes := #[22, 22] })
    (base : Nat) (v : Value) (n : Nat) (xs : List Value) (hs : a.eval s = v) (hown : w.ownsRow base 5 1 v n xs) (ap : Option Addr) (m cap : Nat) (cs : List Value) (hx : a.eval x = .slice ap m cap) (hsrc : Src w ap m cap cs)
    (hpos : 0 < n + m) (hle : n + m ≤ 1099511627776) (hbase : base ≤ w.heap.size)
    (h : ∀ g cap' w', w'.ownsRow base 5 1 (.slice (some ⟨g, 0, none⟩) (n + m) cap') (n + m) (xs ++ cs) → Fr v.ownBlock.toList w w' → (v.ownBlock = some g ∨ w.heap.size ≤ g) → wpList Ybaf.prog ops Q rest (a.put o.dst (.slice (some ⟨g, 0, none⟩) (n + m) cap')) w') : wpList Ybaf.prog ops Q (o :: rest) a w :=
  wpList_plain hgd fun _ hK => wp_append_src s x ho base v n xs hs hown ap m cap cs hx hsrc hpos hle hbase fun g cap' w' h2 h3 h4 => hK _ _ (h g cap' w' h2 h3 h4)

theorem step_append_src {ops : Array Oper} {o : Oper} {a : Act} {w : World} {K : Act → World → Prop} {Q : Exit → Act → World → Prop} {E : Prop} (hgd : o.guard = none) (s x : Operand)
    (ho : o.op = .call { callee := .builtin .append, args := #[s, x], argTypes := #[22, 22] })
    (base : Nat) (v : Value) (n : Nat) (xs : List Value) (hs : a.eval s = v) (hown : w.ownsRow base 5 1 v n xs) (ap : Option Addr) (m cap : Nat) (cs : List Value) (hx : a.eval x = .slice ap m cap) (hsrc : Src w ap m cap cs)
    (hpos : 0 < n + m) (hle : n + m ≤ 1099511627776) (hbase : base ≤ w.heap.size)
    (h : ∀ g cap' w', w'.ownsRow base 5 1 (.slice (some ⟨g, 0, none⟩) (n + m) cap') (n + m) (xs ++ cs) → Fr v.ownBlock.toList w w' → (v.ownBlock = some g ∨ w.heap.size ≤ g) → K (a.put o.dst (.slice (some ⟨g, 0, none⟩) (n + m) cap')) w') :
    if Region.wanted o (yielded ops a.tmps) = true then Oper.wp Ybaf.prog o a w K Q else E := by
  have hw : Region.wanted o (yielded ops a.tmps) = true := by simp [Region.wanted, hgd]
  rw [if_pos hw]
  exact wp_append_src s x ho base v n xs hs hown ap m cap cs hx hsrc hpos hle hbase h

theorem Src.fr {S : List Nat} {w w' : World} {ap : Option Addr} {m cap : Nat} {cs : List Value} (h : Src w ap m cap cs) (hf : Fr S w w') (hS : 0 < m → ∀ ad, ap = some ad → ad.block ∉ S) : Src w' ap m cap cs := by
  rcases h with h | ⟨ad, rfl, hl, hc, h1⟩
  · exact .inl h
  · refine .inr ⟨ad, rfl, hl, fun j u hu => ?_, h1⟩
    have hb : (ad.add j).block = ad.block := by unfold Addr.add; split <;> rfl
    have hlt : (ad.add j).block < w.heap.size := World.block_lt_of_cell? w (ad.add j) (hc j u hu)
    have hm : 0 < m := by have := (List.getElem?_eq_some_iff.1 hu).1; omega
    exact (hf.cell hlt (by rw [hb]; exact hS hm ad rfl)).trans (hc j u hu)
end Go.Proofs.YbulkbjogFmt
