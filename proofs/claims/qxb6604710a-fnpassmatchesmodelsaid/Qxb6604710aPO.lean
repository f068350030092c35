import Derived.Test.Qxb6604710aPK
namespace Go.Proofs.Qxb6604710a
open Go.RowKit

theorem old_nodup {w : World} {base mp tb qb inf t : Nat} {S : List Int} {st : Int → Sit} (h : PM w base mp tb qb inf t S st) (z : Int) : ((oldL S st z).map Prod.fst).Nodup := by
  unfold oldL
  by_cases hz : z ∈ S
  · simp only [hz, if_true]; exact (h.each z hz).1.rep.nodup
  · simp only [hz, if_false]; exact List.nodup_nil

theorem putL_perm {k : Int × Int} {v : Int} {L L' : List Ent} (h : L.Perm L') : (putL k v L).Perm (putL k v L') := List.Perm.cons _ (h.filter _)

section
variable {j : Nat} {S : List Int} {st : Int → Sit} {ps sn : List Int} {E : List En} {z : Int} {k : Int × Int} {v : Int} {S' : List Int} {x : Sit} {ps' sn' : List Int} {si keep : Nat}

theorem Mod.noted (h : Mod j S st ps sn E) (hnd : ((oldL S st z).map Prod.fst).Nodup) : (ents (noted z k v E) z).Perm (putL k v (oldL S st z)) := by
  have hp := h.old z
  have hnd2 : ((ents E z).map Prod.fst).Nodup := (hp.map _).nodup_iff.1 hnd
  exact (ents_noted hnd2).trans (putL_perm hp.symm)

theorem Mod.inNoted (h : Mod j S st ps sn E) : ∀ e ∈ Qxb6604710a.noted z k v E, e.1 = z ∨ e.1 ∈ S := by
  intro e he
  rcases noted_in he with e1 | ⟨y, hy, e1⟩
  · exact Or.inl e1
  · exact Or.inr (e1 ▸ h.inS y hy)

/-- The site was not cut. -/
theorem Mod.stays (h : Mod j S st ps sn E) (hnd : ((oldL S st z).map Prod.fst).Nodup) (set : (z ∈ S ∧ S' = S) ∨ (z ∉ S ∧ S' = z :: S)) (hst : StepL keep k v (oldL S st z) (oldS S st z) x.L x.since)
    (ha : Added ps sn z ps' sn' si) (hle : (ents (Qxb6604710a.noted z k v E) z).length ≤ 2 * keep) : Mod (j + 1) S' (updS st z x) ps' sn' (Qxb6604710a.noted z k v E) := by
  have hp := h.noted (k := k) (v := v) hnd
  have hl := hp.length_eq
  rcases hst with ⟨_, e1, e2⟩ | ⟨h1, _⟩
  · refine h.next set ha rfl ?_ ?_ (fun y hy => ents_noted_other hy) h.inNoted ?_
    · intro a
      split
      · rename_i e
        rw [e, Added.since h ha, e2]
      · rfl
    · rw [e1]; exact hp.symm
    · have := noted_length z k v E
      have := h.lE
      omega
  · omega

/-- The site was cut. -/
theorem Mod.cuts (h : Mod j S st ps sn E) (hnd : ((oldL S st z).map Prod.fst).Nodup) (set : (z ∈ S ∧ S' = S) ∨ (z ∉ S ∧ S' = z :: S)) (hst : StepL keep k v (oldL S st z) (oldS S st z) x.L x.since)
    (ha : Added ps sn z ps' sn' si) (h0 : 0 < keep) (hgt : 2 * keep < (ents (Qxb6604710a.noted z k v E) z).length) :
    (x.since ∈ (ents (Qxb6604710a.noted z k v E) z).map Prod.snd ∧ gtc ((ents (Qxb6604710a.noted z k v E) z).map Prod.snd) x.since < keep ∧ keep ≤ gec ((ents (Qxb6604710a.noted z k v E) z).map Prod.snd) x.since) ∧
      Mod (j + 1) S' (updS st z x) ps' (sn'.set si x.since) (cutE z x.since (Qxb6604710a.noted z k v E)) := by
  have hp := h.noted (k := k) (v := v) hnd
  have hl := hp.length_eq
  rcases hst with ⟨h1, _⟩ | ⟨_, hc, e1⟩
  · omega
  · refine ⟨hc.counts h0 (by omega) (hp.map _), ?_⟩
    obtain ⟨l1, l2, l3⟩ := Added.length h ha
    have hsi : si < sn'.length := by rw [l1]; exact ha.1
    refine h.next set ha (by simp) (fun a => by rw [nth_set _ _ _ _ hsi]) ?_ ?_ ?_ ?_
    · rw [e1, ents_cutE]
      exact (hp.symm).filter _
    · intro y hy
      rw [ents_cutE_other _ _ hy, ents_noted_other hy]
    · intro e he
      exact h.inNoted e (List.mem_filter.1 he).1
    · have := noted_length z k v E
      have := h.lE
      have := List.length_filter_le (fun y : En => decide (y.1 ≠ z) || decide (x.since ≤ y.2.2)) (Qxb6604710a.noted z k v E)
      unfold cutE
      omega

end

theorem rows_noted {v10 v11 v12 v13 v14 v15 : Value} {ps sn : List Int} {E : List En} {z z1 z2 v : Int} (h : E.any (hit z (z1, z2)) = false) :
    rowsE v10 v11 v12 v13 v14 v15 ps sn (noted z (z1, z2) v E) = [⟨3, .i64, v10, ps⟩, ⟨23, .u64, v11, sn⟩, ⟨3, .i64, v12, E.map eS ++ [z]⟩, ⟨3, .i64, v13, E.map eT ++ [z1]⟩, ⟨23, .u64, v14, E.map eN ++ [z2]⟩, ⟨23, .u64, v15, E.map eV ++ [v]⟩] := by
  unfold rowsE noted
  rw [h]
  simp [eS, eT, eN, eV]

theorem cutE_eq (z s : Int) (E : List En) : cutE z s E = E.filter (fun x => decide (x.1 ≠ z) || decide (s ≤ x.2.2)) := rfl

end Go.Proofs.Qxb6604710a
