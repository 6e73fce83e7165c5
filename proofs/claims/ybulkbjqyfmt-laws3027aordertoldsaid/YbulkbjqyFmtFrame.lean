import Derived.Test.YbulkbjqyFmtRows
import Derived.WalkKit
import Derived.WalkSpells
import Derived.WalkLawsBesides
import Derived.Deep.AppendLies
import Derived.Laws.CopyOwn
import Derived.Deep.Draws
namespace Go.Proofs.YbulkbjqyFmt
open Go.RowKit

/-- w' is w but for the blocks S and new ones. -/
structure Fr (S : List Nat) (w w' : World) : Prop where
  os : w'.os = w.os
  tape : w'.tape = w.tape
  output : w'.output = w.output
  size : w.heap.size ≤ w'.heap.size
  block : ∀ k, k < w.heap.size → k ∉ S → w'.heap[k]? = w.heap[k]?

theorem Fr.refl (S : List Nat) (w : World) : Fr S w w := ⟨rfl, rfl, rfl, Nat.le_refl _, fun _ _ _ => rfl⟩

theorem Fr.andThen {S T : List Nat} {a b c : World} (h : Fr S a b) (k : Fr T b c) (hT : ∀ x, x ∈ T → x ∈ S ∨ a.heap.size ≤ x) : Fr S a c :=
  ⟨k.os.trans h.os, k.tape.trans h.tape, k.output.trans h.output, Nat.le_trans h.size k.size, fun i hi hS =>
    (k.block i (Nat.lt_of_lt_of_le hi h.size) (fun hm => by rcases hT i hm with h1 | h1; exact hS h1; omega)).trans (h.block i hi hS)⟩

theorem Fr.trans {S : List Nat} {a b c : World} (h : Fr S a b) (k : Fr S b c) : Fr S a c := h.andThen k fun _ hx => .inl hx

theorem Fr.mono {S T : List Nat} {a b : World} (h : Fr S a b) (hT : ∀ x, x ∈ S → x ∈ T) : Fr T a b :=
  ⟨h.os, h.tape, h.output, h.size, fun i hi hS => h.block i hi (fun hm => hS (hT i hm))⟩

theorem Fr.drew {S : List Nat} {a w : World} (h : Fr S a w) : Fr S a w.drew := ⟨h.os, h.tape, h.output, h.size, h.block⟩
theorem Fr.drewN {S : List Nat} {a w : World} (h : Fr S a w) (n : Nat) : Fr S a (w.drewN n) := ⟨h.os, h.tape, h.output, h.size, h.block⟩
theorem Fr.ofDrew {S : List Nat} {a w : World} (h : Fr S a.drew w) : Fr S a w := ⟨h.os, h.tape, h.output, h.size, h.block⟩

theorem Fr.alloc {S : List Nat} {a w : World} (h : Fr S a w) (o : Obj) : Fr S a (w.alloc o) :=
  h.andThen (T := []) ⟨rfl, rfl, rfl, by simp, fun k hk _ => Below.heap_alloc _ _ _ hk⟩ (fun _ hx => by cases hx)

theorem Fr.setCell {S : List Nat} {a w : World} (h : Fr S a w) {p : Addr} (hp : p.block ∈ S ∨ a.heap.size ≤ p.block) (u : Value) : Fr S a (w.setCell p u) :=
  h.andThen (T := [p.block]) ⟨rfl, rfl, rfl, by simp [World.setCell], fun k _ hk => Below.heap_setCell _ _ _ _ (by simpa using hk)⟩ (fun x hx => by simp at hx; subst hx; exact hp)

theorem Fr.setRow {S : List Nat} {a w : World} (h : Fr S a w) {g : Nat} (hp : g ∈ S ∨ a.heap.size ≤ g) (cs : Array Value) : Fr S a (w.setRow g cs) :=
  h.andThen (T := [g]) ⟨rfl, rfl, rfl, by simp [World.setRow], fun k _ hk => setRow_other w g k cs (by simpa using hk)⟩ (fun x hx => by simp at hx; subst hx; exact hp)

theorem Fr.grown {S : List Nat} {a w w' : World} {row : Option Nat} (h : Fr S a w) (hg : w.grownBy w' row) (hr : ∀ k, row = some k → k ∈ S ∨ a.heap.size ≤ k) : Fr S a w' :=
  h.andThen (T := row.toList) ⟨hg.os, hg.tape, hg.output, hg.size, fun k hk hm => hg.block k hk (fun e => hm (by simp [← e]))⟩ (fun x hx => hr x (by simpa using hx))

theorem Fr.grownBy {w w' : World} {row : Option Nat} (h : Fr row.toList w w') : w.grownBy w' row :=
  ⟨h.os, h.tape, h.output, h.size, fun k hk hm => h.block k hk (fun e => hm (by simpa using (Option.mem_toList.1 e).symm))⟩

theorem Fr.below {S : List Nat} {w w' : World} (h : Fr S w w') {B : Nat} (hB : B ≤ w.heap.size) (hS : ∀ x, x ∈ S → B ≤ x) : Below B w w' :=
  ⟨h.os, h.tape, h.output, h.size, fun k hk => h.block k (by omega) (fun hm => by have := hS k hm; omega)⟩

theorem Fr.cell {S : List Nat} {w w' : World} (h : Fr S w w') {p : Addr} (hp : p.block < w.heap.size) (hS : p.block ∉ S) : w'.cell? p = w.cell? p := World.cell?_of_block (w := w) (h.block p.block hp hS)

theorem Fr.owns {S : List Nat} {w w' : World} (h : Fr S w w') {base n : Nat} {e : TypeId} {size : Nat} {v : Value} {xs : List Value} (ho : w.ownsRow base e size v n xs) (hS : ∀ k, v.ownBlock = some k → k ∉ S) : w'.ownsRow base e size v n xs := by
  refine ⟨ho.1, ?_⟩
  rcases ho.2 with hn | ⟨g, cap, cur, rfl, hb, hgg, rest⟩
  · exact .inl hn
  · refine .inr ⟨g, cap, cur, rfl, hb, ?_, rest⟩
    rw [h.block g (Array.getElem?_eq_some_iff.1 hgg).1 (hS g rfl)]
    exact hgg

/-- Block b is a row of the cells cs, none frozen. -/
def Blk (w : World) (b : Nat) (cs : List Value) (t : TypeId) : Prop := w.heap[b]? = some (.cells cs.toArray t (0, 0))

theorem Blk.lt {w : World} {b : Nat} {cs : List Value} {t : TypeId} (h : Blk w b cs t) : b < w.heap.size := (Array.getElem?_eq_some_iff.1 h).1
theorem Blk.cell {w : World} {b : Nat} {cs : List Value} {t : TypeId} (h : Blk w b cs t) (i : Nat) : w.cell? ⟨b, i, none⟩ = cs[i]? := by
  rw [cell_of_row w b i cs.toArray t (0, 0) h]; simp
theorem Blk.free {w : World} {b : Nat} {cs : List Value} {t : TypeId} (h : Blk w b cs t) (i : Nat) : w.frozen? ⟨b, i, none⟩ = false := frozen_of_row w b i cs.toArray t h
theorem Blk.fr {S : List Nat} {w w' : World} {b : Nat} {cs : List Value} {t : TypeId} (h : Blk w b cs t) (hf : Fr S w w') (hS : b ∉ S) : Blk w' b cs t := by
  unfold Blk; rw [hf.block b h.lt hS]; exact h
theorem Blk.new (w : World) (cs : List Value) (t : TypeId) : Blk (w.alloc (.cells cs.toArray t)) w.heap.size cs t := heap_alloc_new w _
theorem Blk.alloc {w : World} {b : Nat} {cs : List Value} {t : TypeId} (h : Blk w b cs t) (o : Obj) : Blk (w.alloc o) b cs t := h.fr ((Fr.refl [] w).alloc o) (by simp)
theorem Blk.drew {w : World} {b : Nat} {cs : List Value} {t : TypeId} (h : Blk w b cs t) : Blk w.drew b cs t := h
theorem Blk.drewN {w : World} {b : Nat} {cs : List Value} {t : TypeId} (h : Blk w b cs t) (n : Nat) : Blk (w.drewN n) b cs t := h
theorem Blk.set {w : World} {b : Nat} {cs : List Value} {t : TypeId} (h : Blk w b cs t) (i : Nat) (u : Value) : Blk (w.setCell ⟨b, i, none⟩ u) b (cs.set i u) t := by
  have hlt := h.lt
  have h' : w.heap[b] = .cells cs.toArray t (0, 0) := (Array.getElem?_eq_some_iff.1 h).2
  show (w.heap.modify b _)[b]? = _
  rw [Array.getElem?_eq_getElem (by simpa using hlt), Array.getElem_modify_self, h']
  simp
theorem Blk.other {w : World} {b : Nat} {cs : List Value} {t : TypeId} (h : Blk w b cs t) {p : Addr} (hp : b ≠ p.block) (u : Value) : Blk (w.setCell p u) b cs t := by
  unfold Blk; rw [Below.heap_setCell _ _ _ _ hp]; exact h
theorem Blk.row {w : World} {b : Nat} {cs : List Value} {t : TypeId} (h : Blk w b cs t) (ds : List Value) : Blk (w.setRow b ds.toArray) b ds t := setRow_heap w b _ _ t _ h
theorem Blk.rowOther {w : World} {b g : Nat} {cs : List Value} {t : TypeId} (h : Blk w b cs t) (hp : b ≠ g) (ds : Array Value) : Blk (w.setRow g ds) b cs t := by
  unfold Blk; rw [setRow_other w g b ds hp]; exact h
theorem Blk.ne {w : World} {b b' : Nat} {cs cs' : List Value} {t t' : TypeId} (h : Blk w b cs t) (h' : Blk w b' cs' t') (ht : t ≠ t') : b ≠ b' := by
  intro e; subst e
  unfold Blk at h h'
  rw [h] at h'
  simp at h'
  exact ht h'.2

/-- The cells of the block that has just been made. -/
theorem news_new {w : World} {b : Nat} (cs : List Value) (t : TypeId) (hb : b = w.heap.size) : ∀ j u, cs[j]? = some u → (w.alloc (.cells cs.toArray t)).cell? ((⟨b, 0, none⟩ : Addr).add j) = some u := by
  subst hb
  intro j u hu
  have hadd : (⟨w.heap.size, 0, none⟩ : Addr).add j = ⟨w.heap.size, j, none⟩ := by unfold Addr.add; split <;> simp_all
  rw [hadd, (Blk.new w cs t).cell j, hu]

theorem Ybaf.info42 : (Ybaf.prog.info? 42).map (fun i => (i.zero, i.size, i.bytes)) = some (some (.pointer none), 1, 8) := by kernel_rfl

end Go.Proofs.YbulkbjqyFmt
