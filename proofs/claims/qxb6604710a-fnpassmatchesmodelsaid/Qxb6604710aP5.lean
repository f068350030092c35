import Derived.Test.Qxb6604710aP4
namespace Go.Proofs.Qxb6604710a
open Go.RowKit Go.Maps

theorem Rep.of_at {D : DataW Unit} {L : List Ent} (h : Rep tidE D L) {k : Int × Int} {c : Int} (hk : tidE.good k) (hat : ∀ z, D.atKey (tidE.ek k) z = .lit (.int .u64 c)) : (k, c) ∈ L := by
  have hh := Maps.has_true_of_atKey hat
  obtain ⟨b, hb⟩ := (h.has hk).1 hh
  have := h.atKey hb (.lit (.int .u64 0))
  rw [hat] at this
  have e : b = c := by
    simp only [tidE, DataW.lit.injEq, Lit.int.injEq] at this
    exact this.2.symm
  subst e
  exact hb

/-- What the second loop has left: what is still to come, and what is not below s. -/
def stay (left : Lit → Bool) (s : Int) (L : List Ent) : List Ent := L.filter fun p => left (tidE.ek p.1) || decide (s ≤ p.2)

theorem stay_start {D : DataW Unit} {L : List Ent} (h : Rep tidE D L) (s : Int) : stay (Maps.has D) s L = L := by
  unfold stay
  rw [List.filter_eq_self]
  intro p hp
  simp [(h.has (h.good p hp)).2 ⟨p.2, hp⟩]

theorem stay_end {left : Lit → Bool} (hl : ∀ kl, left kl = false) (s : Int) (L : List Ent) : stay left s L = L.filter fun p => decide (s ≤ p.2) := by
  unfold stay
  apply List.filter_congr
  intro p _
  simp [hl]

theorem stay_struck {L : List Ent} (hg : ∀ p ∈ L, tidE.good p.1) (hn : (L.map Prod.fst).Nodup) {left : Lit → Bool} {s : Int} {k : Int × Int} {c : Int} (hm : (k, c) ∈ L) (hc : c < s) :
    (stay left s L).filter (fun p => decide (p.1 ≠ k)) = stay (fun z => left z && !z.sameKey (tidE.ek k)) s L := by
  have hk := hg _ hm
  unfold stay
  rw [List.filter_filter]
  apply List.filter_congr
  rintro ⟨a, b⟩ hp
  have hs := same_iff (hg _ hp) hk
  by_cases e : a = k
  · subst e
    have : b = c := nodup_val hn hp hm
    subst this
    have h2 : ¬ s ≤ b := by omega
    simp only at hs
    simp [hs, h2]
  · simp only at hs
    simp [hs, e]

theorem stay_stays {L : List Ent} (hg : ∀ p ∈ L, tidE.good p.1) (hn : (L.map Prod.fst).Nodup) {left : Lit → Bool} {s : Int} {k : Int × Int} {c : Int} (hm : (k, c) ∈ L) (hc : s ≤ c) (hl : left (tidE.ek k) = true) :
    stay left s L = stay (fun z => left z && !z.sameKey (tidE.ek k)) s L := by
  have hk := hg _ hm
  unfold stay
  apply List.filter_congr
  rintro ⟨a, b⟩ hp
  have hs := same_iff (hg _ hp) hk
  by_cases e : a = k
  · subst e
    have : b = c := nodup_val hn hp hm
    subst this
    simp [hc]
  · simp only at hs
    simp [hs, e]

/-- A site's records as they lie: the block, its map, what they hold. -/
structure PR (w : World) (pb mb : Nat) (since : Int) (n : Nat) (D : DataW Unit) (L : List Ent) : Prop where
  blk : w.heap[pb]? = some (.cells #[.map (some mb), .int .u64 since] 87 (0, 0))
  own : w.ownsMap Try.prog 73 (plainElem (H := Unit) Try.prog 23) mb n D
  rep : Rep tidE D L
  wf : ∀ p ∈ L, (Lit.int .u64 p.2).wf = true

theorem PR.ne {w : World} {pb mb : Nat} {since : Int} {n : Nat} {D : DataW Unit} {L : List Ent} (h : PR w pb mb since n D L) : mb ≠ pb := by
  intro e
  obtain ⟨es, clock, hb, _⟩ := h.own
  rw [e, h.blk] at hb
  cases hb

end Go.Proofs.Qxb6604710a
