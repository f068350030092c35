import Derived.Test.Qxb6604710aQ4
import Derived.Test.Qxb6604710aHeap
namespace Go.Proofs.Qxb6604710a
open Go.RowKit

/-- Of what was there, only the blocks of X may have turned. -/
structure Kept (X : Nat → Prop) (w w' : World) : Prop where
  os : w'.os = w.os
  tape : w'.tape = w.tape
  output : w'.output = w.output
  size : w.heap.size ≤ w'.heap.size
  block : ∀ k, k < w.heap.size → ¬ X k → w'.heap[k]? = w.heap[k]?

theorem Kept.refl (X : Nat → Prop) (w : World) : Kept X w w := ⟨rfl, rfl, rfl, Nat.le_refl _, fun _ _ _ => rfl⟩
theorem Kept.trans {X : Nat → Prop} {a b c : World} (h : Kept X a b) (k : Kept X b c) : Kept X a c :=
  ⟨k.os.trans h.os, k.tape.trans h.tape, k.output.trans h.output, Nat.le_trans h.size k.size, fun i hi hx => (k.block i (Nat.lt_of_lt_of_le hi h.size) hx).trans (h.block i hi hx)⟩
theorem Kept.mono {X Y : Nat → Prop} {a b : World} (h : Kept X a b) (hxy : ∀ k, k < a.heap.size → X k → Y k) : Kept Y a b :=
  ⟨h.os, h.tape, h.output, h.size, fun k hk hy => h.block k hk (fun hx => hy (hxy k hk hx))⟩
theorem Kept.of_below {X : Nat → Prop} {a b : World} (h : Below a.heap.size a b) : Kept X a b :=
  ⟨h.os, h.tape, h.output, h.size, fun k hk _ => h.block k hk⟩
theorem Kept.setCell {X : Nat → Prop} {a w : World} (h : Kept X a w) {p : Addr} (hp : X p.block) (u : Value) : Kept X a (w.setCell p u) :=
  h.trans ⟨rfl, rfl, rfl, by simp [World.setCell], fun k _ hx => Below.heap_setCell _ _ _ _ (fun e => hx (e ▸ hp))⟩
theorem Kept.alloc {X : Nat → Prop} {a w : World} (h : Kept X a w) (o : Obj) : Kept X a (w.alloc o) :=
  h.trans ⟨rfl, rfl, rfl, by simp, fun k hk _ => Below.heap_alloc _ _ _ hk⟩
theorem Kept.drewN {X : Nat → Prop} {a w : World} (h : Kept X a w) (n : Nat) : Kept X a (w.drewN n) := ⟨h.os, h.tape, h.output, h.size, h.block⟩
theorem Kept.drew {X : Nat → Prop} {a w : World} (h : Kept X a w) : Kept X a w.drew := ⟨h.os, h.tape, h.output, h.size, h.block⟩
theorem Kept.grown {X : Nat → Prop} {a w w' : World} {row : Option Nat} (h : Kept X a w) (hg : w.grownBy w' row) (hr : ∀ k, row = some k → X k) : Kept X a w' :=
  h.trans ⟨hg.os, hg.tape, hg.output, hg.size, fun k hk hx => hg.block k hk (fun e => hx (hr k e.symm))⟩
theorem Kept.below {X : Nat → Prop} {a b : World} (h : Kept X a b) {B : Nat} (hB : B ≤ a.heap.size) (hx : ∀ k, X k → B ≤ k) : Below B a b :=
  ⟨h.os, h.tape, h.output, h.size, fun k hk => h.block k (by omega) (fun e => by have := hx k e; omega)⟩

def Tx.at (x : Tx) (i : Nat) : Tx := { x with index := i }

def LT (T : Nat → Tx) (a b : Nat) : Bool := lessB (T a) (T b)

theorem lessB_at (x y : Tx) (i j : Nat) : lessB (x.at i) (y.at j) = lessB x y := rfl

theorem lessB_iff (x y : Tx) : lessB x y = true ↔ (x.time < y.time ∨ (x.time = y.time ∧ (x.site < y.site ∨ (x.site = y.site ∧ x.n < y.n)))) := by
  unfold lessB tidB
  by_cases e1 : x.time = y.time
  · rw [if_pos e1]
    by_cases e2 : x.site = y.site
    · rw [if_pos e2]; simp; omega
    · rw [if_neg e2]; simp; omega
  · rw [if_neg e1]; simp; omega

theorem lessB_false_iff (x y : Tx) : lessB x y = false ↔ ¬ (x.time < y.time ∨ (x.time = y.time ∧ (x.site < y.site ∨ (x.site = y.site ∧ x.n < y.n)))) := by
  rw [← lessB_iff]; simp

theorem ord_LT (T : Nat → Tx) : Ord (LT T) := by
  constructor
  · intro a b h
    unfold LT at *
    rw [lessB_iff] at h
    rw [lessB_false_iff]
    omega
  · intro a b c h1 h2
    unfold LT at *
    rw [lessB_false_iff] at *
    omega

/-- A queue of transactions, as it lies: the merger's block M, the queue's variable its cell k, the queue's array a row of the call's own (from 'base' on); every transaction of it at its place. -/
structure Que (w : World) (base M k : Nat) (mc : Array Value) (v : Value) (ids : List Nat) (T : Nat → Tx) : Prop where
  mer : w.heap[M]? = some (.cells mc 71 (0, 0))
  var : mc[k]? = some v
  own : w.ownsRow base 30 1 v ids.length (ids.map ptr)
  tx : ∀ i t, ids[i]? = some t → IsTx w t ((T t).at i)

section
variable {w : World} {base M k : Nat} {mc : Array Value} {v : Value} {ids : List Nat} {T : Nat → Tx}

theorem Que.cell (h : Que w base M k mc v ids T) : w.cell? ⟨M, k, none⟩ = some v := by
  unfold World.cell?; simp [h.mer, h.var]
theorem Que.fz (h : Que w base M k mc v ids T) (o : Nat) : w.frozen? ⟨M, o, none⟩ = false := by
  unfold World.frozen?; simp [h.mer]

theorem Que.inj (h : Que w base M k mc v ids T) {i j t : Nat} (hi : ids[i]? = some t) (hj : ids[j]? = some t) : i = j := by
  have h1 := h.tx i t hi
  have h2 := h.tx j t hj
  unfold IsTx at h1 h2
  rw [h1] at h2
  simp [Tx.cells, Tx.at] at h2
  omega

/-- Where it is not empty. -/
theorem Que.arr (h : Que w base M k mc v ids T) (hn : 0 < ids.length) : ∃ g cap cur, v = .slice (some ⟨g, 0, none⟩) ids.length cap ∧ base ≤ g ∧ w.heap[g]? = some (.cells cur 30 (0, 0)) ∧ ids.length ≤ cap ∧ cap ≤ maxLen := by
  rcases h.own.2 with ⟨_, h0⟩ | ⟨g, cap, cur, hv, hg, hh, h1, h2, h3, h4⟩
  · omega
  · exact ⟨g, cap, cur, hv, hg, hh, h1, h2⟩

theorem Que.slot (h : Que w base M k mc v ids T) {g cap : Nat} (hv : v = .slice (some ⟨g, 0, none⟩) ids.length cap) {i t : Nat} (hi : ids[i]? = some t) : w.cell? ⟨g, i, none⟩ = some (.pointer (some ⟨t, 0, none⟩)) := by
  subst hv
  have hlt : i < ids.length := by
    rcases Nat.lt_or_ge i ids.length with h1 | h1
    · exact h1
    · rw [List.getElem?_eq_none h1] at hi; cases hi
  rw [h.own.cellAt i (by omega)]
  simp [hi, ptr]

theorem Que.ne_of (h : Que w base M k mc v ids T) {g : Nat} {cur : Array Value} (hh : w.heap[g]? = some (.cells cur 30 (0, 0))) {i t : Nat} (hi : ids[i]? = some t) : t ≠ g := by
  rintro rfl
  have h1 := h.tx i t hi
  unfold IsTx at h1
  rw [h1] at hh
  simp at hh

theorem Que.ne_mer (h : Que w base M k mc v ids T) {i t : Nat} (hi : ids[i]? = some t) : t ≠ M := by
  rintro rfl
  have h1 := h.tx i t hi
  unfold IsTx at h1
  have := h.mer
  simp [h1] at this

theorem Que.g_ne_mer (h : Que w base M k mc v ids T) {g : Nat} {cur : Array Value} (hh : w.heap[g]? = some (.cells cur 30 (0, 0))) : g ≠ M := by
  rintro rfl
  have := h.mer
  simp [hh] at this
end

/-- What a queue's operations may turn. -/
def QX (v : Value) (ids : List Nat) (b : Nat) : Prop := b ∈ ids ∨ v.ownBlock = some b

theorem IsTx.other {w : World} {t : Nat} {x : Tx} (h : IsTx w t x) {a : Addr} (ha : t ≠ a.block) (u : Value) : IsTx (w.setCell a u) t x := by
  unfold IsTx at *
  rw [Below.heap_setCell _ _ _ _ ha]; exact h

theorem IsTx.reindex {w : World} {t : Nat} {x : Tx} (h : IsTx w t x) (i : Nat) : IsTx (w.setCell ⟨t, 10, none⟩ (.int .i64 i)) t (x.at i) := by
  unfold IsTx at *
  simp only [World.setCell, Array.getElem?_modify, if_true, h]
  simp [Tx.cells, Tx.at]

theorem ownsRow_other {w : World} {base : Nat} {e : TypeId} {size : Nat} {v : Value} {n : Nat} {xs : List Value} (h : w.ownsRow base e size v n xs) {a : Addr} (ha : v.ownBlock ≠ some a.block) (u : Value) : (w.setCell a u).ownsRow base e size v n xs := by
  obtain ⟨h1, h2⟩ := h
  refine ⟨h1, ?_⟩
  rcases h2 with h2 | ⟨g, cap, cur, hv, hg, hh, r⟩
  · exact Or.inl h2
  · refine Or.inr ⟨g, cap, cur, hv, hg, ?_, r⟩
    rw [Below.heap_setCell _ _ _ _ (by intro e; subst hv; exact ha (by simp [Value.ownBlock, e]))]; exact hh

end Go.Proofs.Qxb6604710a
