import Derived.Test.Qxb6604710aPA
import Derived.Test.Qxb6604710aPB
import Derived.Test.Qxb6604710aPC
import Derived.Test.Qxb6604710aOpen
namespace Go.Proofs.Qxb6604710a
open Go.RowKit

def pks : List IntKind := [.i64, .i64, .u64, .u64]

theorem IsRows.p4 {w wr : World} {ao : Option Addr} {n cap : Nat} {Z : Nat → Nat → Int} (h : IsRows pks w ao n cap Z) (hb : Below w.heap.size w wr) {i : Nat} (hi : i < n) :
    ∃ b off, ao = some ⟨b, off, none⟩ ∧ wr.cell? ⟨b, off + i * 4, none⟩ = some (.int .i64 (Z i 0)) ∧ wr.cell? ⟨b, off + i * 4 + 1, none⟩ = some (.int .i64 (Z i 1)) ∧ wr.cell? ⟨b, off + i * 4 + 2, none⟩ = some (.int .u64 (Z i 2)) ∧
      wr.cell? ⟨b, off + i * 4 + 3, none⟩ = some (.int .u64 (Z i 3)) ∧ (Lit.int .i64 (Z i 0)).wf = true ∧ (Lit.int .i64 (Z i 1)).wf = true ∧ (Lit.int .u64 (Z i 2)).wf = true ∧ (Lit.int .u64 (Z i 3)).wf = true := by
  obtain ⟨b, off, rfl, hbl, hc⟩ := h.at hi (by decide)
  refine ⟨b, off, rfl, ?_, ?_, ?_, ?_, (hc i hi 0 .i64 rfl).2, (hc i hi 1 .i64 rfl).2, (hc i hi 2 .u64 rfl).2, (hc i hi 3 .u64 rfl).2⟩
  · rw [hb.cell (p := ⟨b, _, none⟩) hbl]; exact (hc i hi 0 .i64 rfl).1
  · rw [hb.cell (p := ⟨b, _, none⟩) hbl]; exact (hc i hi 1 .i64 rfl).1
  · rw [hb.cell (p := ⟨b, _, none⟩) hbl]; exact (hc i hi 2 .u64 rfl).1
  · rw [hb.cell (p := ⟨b, _, none⟩) hbl]; exact (hc i hi 3 .u64 rfl).1

theorem wf_u64_nonneg {v : Int} (h : (Lit.int .u64 v).wf = true) : 0 ≤ v := by
  simp [Lit.wf] at h
  have e : IntKind.u64.min = 0 := rfl
  omega

set_option maxHeartbeats 400000 in
theorem bytes37 (w : World) (x : Int) (ao : Option Addr) (n cap : Nat) (hn : n ≤ 4096) :
    Calls Try.prog 37 #[.int .i64 x, .slice ao n cap] w fun e w' => e = .returned (.bool true) ∧ w' = w := by
  have h1 : ¬ (1048576 : Int) < (n : Int) := by omega
  go_enter Try.func37, Try.ntmps37
  go_wp2_with fail
  go_ret
  exact ⟨rfl, rfl⟩

/-- The first loop of the law: the newest lsn of each site so far. -/
structure F1 (w : World) (Z : Nat → Nat → Int) (j : Nat) (wr : World) (v5 v6 : Value) (ps pl : List Int) : Prop where
  r5 : Row wr w.heap.size 3 .i64 v5 ps
  r6 : Row wr w.heap.size 23 .u64 v6 pl
  ne : ∀ g, v5.ownBlock = some g → v6.ownBlock ≠ some g
  bel : Below w.heap.size w wr
  len : ps.length = pl.length
  lj : ps.length ≤ j
  nodup : ps.Nodup
  seen : ∀ i, i < j → ∃ a, a < ps.length ∧ nth ps a = Z i 0 ∧ Z i 3 ≤ nth pl a
  inc : ∀ i i', i < i' → i' < j → Z i 0 = Z i' 0 → Z i 3 < Z i' 3

theorem nodup_nth {ps : List Int} (h : ps.Nodup) {a b : Nat} (ha : a < ps.length) (hb : b < ps.length) (e : nth ps a = nth ps b) : a = b := by
  rw [nth_eq ha, nth_eq hb] at e
  have hp := List.pairwise_iff_getElem.1 h
  rcases Nat.lt_trichotomy a b with l | l | l
  · exact absurd e (hp a b ha hb l)
  · exact l
  · exact absurd e.symm (hp b a hb ha l)

section
variable {w : World} {Z : Nat → Nat → Int} {j : Nat} {wr : World} {v5 v6 : Value} {ps pl : List Int}

theorem F1.alloc (h : F1 w Z j wr v5 v6 ps pl) (o : Obj) : F1 w Z j (wr.alloc o) v5 v6 ps pl :=
  ⟨h.r5.alloc o, h.r6.alloc o, h.ne, h.bel.alloc h.bel.size o, h.len, h.lj, h.nodup, h.seen, h.inc⟩

theorem F1.drewN (h : F1 w Z j wr v5 v6 ps pl) (q : Nat) : F1 w Z j (wr.drewN q) v5 v6 ps pl :=
  ⟨h.r5.drewN q, h.r6.drewN q, h.ne, h.bel.trans ⟨rfl, rfl, rfl, Nat.le_refl _, fun _ _ => rfl⟩, h.len, h.lj, h.nodup, h.seen, h.inc⟩

theorem F1.mid (h : F1 w Z j wr v5 v6 ps pl) (o2 : Obj) {w2 : World} (g2 : (wr.alloc o2).grownBy w2 v5.ownBlock) : Row w2 w.heap.size 23 .u64 v6 pl := by
  refine (h.r6.alloc o2).same fun g hg => ?_
  refine g2.block g ?_ ?_
  · have := (h.r6.lt g hg).2
    simp
    omega
  · intro e
    exact h.ne g e.symm hg

theorem F1.new (h : F1 w Z j wr v5 v6 ps pl) (hz : Z j 0 ∉ ps) (o2 o3 : Obj) {w2 w3 : World} {v5' v6' : Value} (r5 : Row w2 w.heap.size 3 .i64 v5' (ps ++ [Z j 0])) (g2 : (wr.alloc o2).grownBy w2 v5.ownBlock)
    (l5 : v5'.ownBlock = v5.ownBlock ∨ v5'.ownBlock = some (wr.alloc o2).heap.size) (r6 : Row w3 w.heap.size 23 .u64 v6' (pl ++ [Z j 3])) (g3 : (w2.alloc o3).grownBy w3 v6.ownBlock)
    (l6 : v6'.ownBlock = v6.ownBlock ∨ v6'.ownBlock = some (w2.alloc o3).heap.size) : F1 w Z (j + 1) w3 v5' v6' (ps ++ [Z j 0]) (pl ++ [Z j 3]) := by
  have s0 := h.bel.size
  have s2 := g2.size
  have s3 := g3.size
  simp at s2 s3 l5 l6
  have hne6 : ∀ g, v5'.ownBlock = some g → v6.ownBlock ≠ some g := by
    intro g e1 e2
    have b6 := (h.r6.lt g e2).2
    rcases l5 with l5 | l5
    · exact h.ne g (l5 ▸ e1) e2
    · rw [l5] at e1; cases e1; omega
  refine ⟨?_, r6, ?_, ?_, by simp [h.len], by have := h.lj; simp; omega, ?_, ?_, ?_⟩
  · refine (r5.alloc o3).same fun g hg => ?_
    refine g3.block g ?_ (fun e => hne6 g hg e.symm)
    have := (r5.lt g hg).2
    simp; omega
  · intro g e1 e2
    rcases l6 with l6 | l6
    · exact hne6 g e1 (l6 ▸ e2)
    · rw [l6] at e2
      cases e2
      have := (r5.lt _ e1).2
      omega
  · refine Below.grown (Below.alloc (Below.grown (h.bel.alloc s0 o2) g2 (by simp; omega) ?_) (by omega) o3) g3 (by simp; omega) ?_
    · intro g e; exact (h.r5.lt g e).1
    · intro g e; exact (h.r6.lt g e).1
  · rw [List.nodup_append]
    refine ⟨h.nodup, by simp, ?_⟩
    intro a ha b hb
    simp at hb
    subst hb
    rintro rfl
    exact hz ha
  · intro i hi
    by_cases e : i = j
    · subst e
      refine ⟨ps.length, by simp, nth_append_at _ _, ?_⟩
      rw [h.len, nth_append_at]
      exact Int.le_refl _
    · obtain ⟨a, h1, h2, h3⟩ := h.seen i (by omega)
      have := h.len
      exact ⟨a, by simp; omega, by rw [nth_append_left h1]; exact h2, by rw [nth_append_left (by omega)]; exact h3⟩
  · intro i i' h1 h2 h3
    by_cases e : i' = j
    · subst e
      obtain ⟨a, x1, x2, _⟩ := h.seen i h1
      exfalso
      apply hz
      rw [← h3, ← x2]
      exact nth_mem x1
    · exact h.inc i i' h1 (by omega) h3

theorem F1.old {g cap : Nat} (h : F1 w Z j wr v5 (.slice (some ⟨g, 0, none⟩) pl.length cap) ps pl) {a : Nat} (ha : a < ps.length) (hz : nth ps a = Z j 0) (hv : ¬ Z j 3 ≤ nth pl a) :
    F1 w Z (j + 1) (wr.setCell ⟨g, a, none⟩ (.int .u64 (Z j 3))) v5 (.slice (some ⟨g, 0, none⟩) pl.length cap) ps (pl.set a (Z j 3)) := by
  have hg6 := h.r6.lt g rfl
  refine ⟨?_, ?_, h.ne, ?_, by simp [h.len], by have := h.lj; omega, h.nodup, ?_, ?_⟩
  · refine h.r5.same fun g' hg' => ?_
    exact Below.heap_setCell _ _ _ _ (by
      intro e
      have := h.ne g' hg'
      simp at e
      exact this (by simp [Value.ownBlock, e]))
  · exact h.r6.set a (Z j 3)
  · exact h.bel.setCell (by show w.heap.size ≤ g; exact hg6.1) _
  · intro i hi
    by_cases e : i = j
    · subst e
      refine ⟨a, ha, hz, ?_⟩
      rw [nth_set _ _ _ _ (by rw [← h.len]; exact ha), if_pos rfl]
      exact Int.le_refl _
    · obtain ⟨b, h1, h2, h3⟩ := h.seen i (by omega)
      refine ⟨b, h1, h2, ?_⟩
      rw [nth_set _ _ _ _ (by rw [← h.len]; exact ha)]
      split
      · rename_i e2
        subst e2
        omega
      · exact h3
  · intro i i' h1 h2 h3
    by_cases e : i' = j
    · subst e
      obtain ⟨b, x1, x2, x3⟩ := h.seen i h1
      have : b = a := nodup_nth h.nodup x1 ha (by rw [x2, hz, h3])
      subst this
      omega
    · exact h.inc i i' h1 (by omega) h3

end

end Go.Proofs.Qxb6604710a
