import Derived.Test.Qxb6604710aP9
namespace Go.Proofs.Qxb6604710a

theorem mem_putL {k : Int × Int} {v : Int} {L : List Ent} {p : Ent} (h : p ∈ putL k v L) : p = (k, v) ∨ p ∈ L := by
  rcases List.mem_cons.1 h with e | e
  · exact Or.inl e
  · exact Or.inr (List.mem_filter.1 e).1

theorem length_putL (k : Int × Int) (v : Int) (L : List Ent) : (putL k v L).length ≤ L.length + 1 := by
  unfold putL
  rw [List.length_cons]
  have := List.length_filter_le (fun p : Ent => decide (p.1 ≠ k)) L
  omega

theorem nodup_putL {k : Int × Int} {v : Int} {L : List Ent} (h : (L.map Prod.snd).Nodup) (hv : ∀ p ∈ L, p.2 < v) : ((putL k v L).map Prod.snd).Nodup := by
  unfold putL
  rw [List.map_cons, List.nodup_cons]
  constructor
  · intro hm
    obtain ⟨p, hp, e⟩ := List.mem_map.1 hm
    have := hv p (List.mem_filter.1 hp).1
    rw [e] at this
    simp at this
  · exact h.sublist (List.Sublist.map _ List.filter_sublist)

theorem CutAt.mem {keep : Nat} {M : List Ent} {s : Int} (h : CutAt keep M s) (h0 : 0 < keep) (hk : keep ≤ M.length) : ∃ p ∈ M, p.2 = s := by
  obtain ⟨d, hp, _, rfl⟩ := h
  have hs : d.size = M.length := by
    have := hp.length_eq
    simpa using this
  have hi : d.size - keep < d.size := by omega
  have hm : d[d.size - keep]! ∈ d.toList := by
    rw [getElem!_pos d _ hi]
    exact Array.getElem_mem_toList hi
  obtain ⟨p, hp2, e⟩ := List.mem_map.1 (hp.mem_iff.1 hm)
  exact ⟨p, hp2, e⟩

theorem CutAt.few {keep : Nat} {M : List Ent} {s : Int} (h : CutAt keep M s) (h0 : 0 < keep) (hk : keep ≤ M.length) (hn : (M.map Prod.snd).Nodup) : (M.filter fun p => decide (s ≤ p.2)).length ≤ keep := by
  obtain ⟨d, hp, hr, rfl⟩ := h
  have hs : d.size = M.length := by
    have := hp.length_eq
    simpa using this
  have hi : d.size - keep < d.size := by omega
  have hnd : d.toList.Nodup := hp.nodup_iff.2 hn
  have e1 : (M.filter fun p => decide (d[d.size - keep]! ≤ p.2)).length = (d.toList.filter fun x => decide (d[d.size - keep]! ≤ x)).length := by
    rw [(hp.filter _).length_eq, List.filter_map, List.length_map]
    rfl
  rw [e1]
  have e2 : d.toList.filter (fun x => decide (d[d.size - keep]! ≤ x)) = (d.toList.drop (d.size - keep)).filter (fun x => decide (d[d.size - keep]! ≤ x)) := by
    conv => lhs; rw [← List.take_append_drop (d.size - keep) d.toList]
    rw [List.filter_append]
    have : (d.toList.take (d.size - keep)).filter (fun x => decide (d[d.size - keep]! ≤ x)) = [] := by
      rw [List.filter_eq_nil_iff]
      intro x hx
      obtain ⟨i, hi1, rfl⟩ := List.getElem_of_mem hx
      have hi2 : i < d.size - keep := by
        rw [List.length_take] at hi1
        omega
      have hle := hr i (d.size - keep) hi2 hi
      have hne : d[i]'(by omega) ≠ d[d.size - keep]'hi := by
        have := (List.pairwise_iff_getElem.1 hnd) i (d.size - keep) (by simp; omega) (by simpa using hi) hi2
        simpa using this
      rw [List.getElem_take, Array.getElem_toList]
      rw [getElem!_pos d i (by omega), getElem!_pos d (d.size - keep) hi] at hle
      rw [getElem!_pos d (d.size - keep) hi]
      simp
      omega
    rw [this, List.nil_append]
  rw [e2]
  refine Nat.le_trans (List.length_filter_le _ _) ?_
  rw [List.length_drop]
  simp
  omega

/-- What the first law keeps of a site's records: after j records of those that Z tells. -/
structure Inv (Z : Nat → Nat → Int) (keep j : Nat) (z : Int) (L : List Ent) (s : Int) : Prop where
  nodup : (L.map Prod.snd).Nodup
  few : L.length ≤ 2 * keep
  from_ : ∀ p ∈ L, ∃ i, i < j ∧ Z i 0 = z ∧ Z i 3 = p.2
  since : s = 0 ∨ ∃ i, i < j ∧ Z i 0 = z ∧ Z i 3 = s

theorem Inv.empty (Z : Nat → Nat → Int) (keep j : Nat) (z : Int) : Inv Z keep j z [] 0 := ⟨by simp, by simp, by simp, Or.inl rfl⟩

theorem Inv.later {Z : Nat → Nat → Int} {keep j : Nat} {z : Int} {L : List Ent} {s : Int} (h : Inv Z keep j z L s) : Inv Z keep (j + 1) z L s :=
  ⟨h.nodup, h.few, fun p hp => by obtain ⟨i, a, b⟩ := h.from_ p hp; exact ⟨i, by omega, b⟩, h.since.imp id (fun ⟨i, a, b⟩ => ⟨i, by omega, b⟩)⟩

theorem Inv.step {Z : Nat → Nat → Int} {keep j : Nat} {k : Int × Int} {L : List Ent} {s : Int} {L' : List Ent} {s' : Int} (h : Inv Z keep j (Z j 0) L s) (hst : StepL keep k (Z j 3) L s L' s') (h0 : 0 < keep) (hv : 0 ≤ Z j 3)
    (hinc : ∀ i, i < j → Z i 0 = Z j 0 → Z i 3 < Z j 3) : Inv Z keep (j + 1) (Z j 0) L' s' ∧ (k, Z j 3) ∈ L' ∧ s' ≤ Z j 3 := by
  have hlt : ∀ p ∈ L, p.2 < Z j 3 := by
    intro p hp
    obtain ⟨i, hi, e1, e2⟩ := h.from_ p hp
    rw [← e2]
    exact hinc i hi e1
  have hfrom : ∀ p ∈ putL k (Z j 3) L, ∃ i, i < j + 1 ∧ Z i 0 = Z j 0 ∧ Z i 3 = p.2 := by
    intro p hp
    rcases mem_putL hp with rfl | hp
    · exact ⟨j, by omega, rfl, rfl⟩
    · obtain ⟨i, hi, e⟩ := h.from_ p hp
      exact ⟨i, by omega, e⟩
  have hnd := nodup_putL (k := k) h.nodup hlt
  have hle : ∀ p ∈ putL k (Z j 3) L, p.2 ≤ Z j 3 := by
    intro p hp
    rcases mem_putL hp with rfl | hp
    · simp
    · have := hlt p hp
      omega
  rcases hst with ⟨hl, rfl, rfl⟩ | ⟨hl, hc, rfl⟩
  · refine ⟨⟨hnd, hl, hfrom, h.since.imp id (fun ⟨i, a, b⟩ => ⟨i, by omega, b⟩)⟩, List.mem_cons_self .., ?_⟩
    rcases h.since with e | ⟨i, hi, e1, e2⟩
    · omega
    · have := hinc i hi e1
      omega
  · obtain ⟨p, hp, e⟩ := hc.mem h0 (by omega)
    have hs : s' ≤ Z j 3 := by
      have := hle p hp
      omega
    refine ⟨⟨hnd.sublist (List.Sublist.map _ List.filter_sublist), ?_, fun q hq => hfrom q (List.mem_filter.1 hq).1, ?_⟩, ?_, hs⟩
    · have := hc.few h0 (by omega) hnd
      omega
    · right
      obtain ⟨i, hi, e1, e2⟩ := hfrom p hp
      exact ⟨i, hi, e1, by rw [e2, e]⟩
    · rw [List.mem_filter]
      exact ⟨List.mem_cons_self .., by simpa using hs⟩

end Go.Proofs.Qxb6604710a
