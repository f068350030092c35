import Derived.Test.Qxb6604710aPB
import Derived.Test.Qxb6604710aPC
namespace Go.Proofs.Qxb6604710a

/-- An entry of the law's own model: a site and what is kept of it. -/
abbrev En : Type := Int × Ent

def ents (E : List En) (z : Int) : List Ent := (E.filter fun x => decide (x.1 = z)).map Prod.snd

def hit (z : Int) (k : Int × Int) (x : En) : Bool := decide (x.1 = z) && decide (x.2.1 = k)

def upd (z : Int) (k : Int × Int) (v : Int) (x : En) : En := if hit z k x = true then (z, (k, v)) else x

/-- The model's entries once the record is noted. -/
def noted (z : Int) (k : Int × Int) (v : Int) (E : List En) : List En := if E.any (hit z k) = true then E.map (upd z k v) else E ++ [(z, (k, v))]

theorem upd_fst (z : Int) (k : Int × Int) (v : Int) (x : En) : (upd z k v x).1 = x.1 := by
  unfold upd
  split
  · rename_i h
    simp [hit] at h
    exact h.1.symm
  · rfl

theorem upd_tid (z : Int) (k : Int × Int) (v : Int) (x : En) : (upd z k v x).2.1 = x.2.1 := by
  unfold upd
  split
  · rename_i h
    simp [hit] at h
    exact h.2.symm
  · rfl

theorem upd_none {z : Int} {k : Int × Int} {v : Int} {E : List En} (h : E.any (hit z k) = false) : E.map (upd z k v) = E := by
  conv => rhs; rw [← List.map_id E]
  apply List.map_congr_left
  intro x hx
  have : hit z k x = false := by
    cases hh : hit z k x with
    | false => rfl
    | true => rw [List.any_eq_false] at h; exact absurd hh (h x hx)
  simp [upd, this]

theorem ents_append (E F : List En) (z : Int) : ents (E ++ F) z = ents E z ++ ents F z := by simp [ents]

theorem ents_map_upd (z y : Int) (k : Int × Int) (v : Int) (E : List En) : ents (E.map (upd z k v)) y = (ents E y).map fun p => if y = z ∧ p.1 = k then (k, v) else p := by
  induction E with
  | nil => rfl
  | cons x r ih =>
    have e1 : ∀ (a : En) (l : List En), ents (a :: l) y = (if a.1 = y then [a.2] else []) ++ ents l y := by
      intro a l
      unfold ents
      by_cases h : a.1 = y <;> simp [h]
    rw [List.map_cons, e1, e1, ih, upd_fst, List.map_append]
    congr 1
    by_cases h : x.1 = y
    · simp only [h, if_true, List.map_cons, List.map_nil]
      unfold upd hit
      rw [h]
      by_cases h1 : y = z <;> by_cases h2 : x.2.1 = k <;> simp [h1, h2]
    · simp [h]

theorem map_put {k : Int × Int} {v : Int} {L : List Ent} (hn : (L.map Prod.fst).Nodup) (hm : ∃ p ∈ L, p.1 = k) : (L.map fun p => if p.1 = k then (k, v) else p).Perm (putL k v L) := by
  unfold putL
  induction L with
  | nil => obtain ⟨p, hp, _⟩ := hm; cases hp
  | cons p r ih =>
    rw [List.map_cons, List.nodup_cons] at hn
    by_cases e : p.1 = k
    · have hno : ∀ q ∈ r, q.1 ≠ k := fun q hq e2 => hn.1 (List.mem_map.2 ⟨q, hq, e2.trans e.symm⟩)
      have e1 : (r.map fun p => if p.1 = k then (k, v) else p) = r := by
        conv => rhs; rw [← List.map_id r]
        apply List.map_congr_left
        intro q hq
        simp [hno q hq]
      have e2 : r.filter (fun p => decide (p.1 ≠ k)) = r := by
        rw [List.filter_eq_self]
        intro q hq
        simpa using hno q hq
      rw [List.map_cons, e1, if_pos e, List.filter_cons_of_neg (by simp [e]), e2]
    · have hm' : ∃ p ∈ r, p.1 = k := by
        obtain ⟨q, hq, e2⟩ := hm
        rcases List.mem_cons.1 hq with rfl | hq
        · exact absurd e2 e
        · exact ⟨q, hq, e2⟩
      rw [List.map_cons, if_neg e, List.filter_cons_of_pos (by simp [e])]
      exact (List.Perm.cons p (ih hn.2 hm')).trans (List.Perm.swap _ _ _)

theorem mem_ents {E : List En} {z : Int} {p : Ent} : p ∈ ents E z ↔ (z, p) ∈ E := by
  unfold ents
  rw [List.mem_map]
  constructor
  · rintro ⟨⟨a, b⟩, hx, rfl⟩
    rw [List.mem_filter] at hx
    have : a = z := by simpa using hx.2
    rw [← this]
    exact hx.1
  · intro h
    exact ⟨(z, p), List.mem_filter.2 ⟨h, by simp⟩, rfl⟩

theorem ents_noted {z : Int} {k : Int × Int} {v : Int} {E : List En} (hn : ((ents E z).map Prod.fst).Nodup) : (ents (noted z k v E) z).Perm (putL k v (ents E z)) := by
  unfold noted
  split
  · rename_i h
    rw [ents_map_upd]
    simp only [true_and]
    refine map_put hn ?_
    rw [List.any_eq_true] at h
    obtain ⟨⟨a, b⟩, hx, hh⟩ := h
    simp [hit] at hh
    refine ⟨b, mem_ents.2 ?_, hh.2⟩
    rw [← hh.1]
    exact hx
  · rename_i h
    have hno : ∀ p ∈ ents E z, p.1 ≠ k := by
      intro p hp e
      apply h
      rw [List.any_eq_true]
      exact ⟨(z, p), mem_ents.1 hp, by simp [hit, e]⟩
    rw [ents_append]
    unfold putL
    rw [List.filter_eq_self.2 (fun p hp => by simpa using hno p hp)]
    have : ents [(z, (k, v))] z = [(k, v)] := by simp [ents]
    rw [this]
    exact List.perm_append_comm

theorem ents_noted_other {z y : Int} {k : Int × Int} {v : Int} {E : List En} (hy : y ≠ z) : ents (noted z k v E) y = ents E y := by
  unfold noted
  split
  · rw [ents_map_upd]
    conv => rhs; rw [← List.map_id (ents E y)]
    apply List.map_congr_left
    intro p _
    simp [hy]
  · rw [ents_append]
    have : ents [(z, (k, v))] y = [] := by simp [ents, Ne.symm hy]
    rw [this, List.append_nil]

theorem noted_in {z : Int} {k : Int × Int} {v : Int} {E : List En} {x : En} (h : x ∈ noted z k v E) : x.1 = z ∨ ∃ y ∈ E, y.1 = x.1 := by
  unfold noted at h
  split at h
  · obtain ⟨y, hy, rfl⟩ := List.mem_map.1 h
    exact Or.inr ⟨y, hy, (upd_fst _ _ _ _).symm⟩
  · rcases List.mem_append.1 h with h | h
    · exact Or.inr ⟨x, h, rfl⟩
    · simp at h
      left
      rw [h]

theorem noted_length (z : Int) (k : Int × Int) (v : Int) (E : List En) : (noted z k v E).length ≤ E.length + 1 := by
  unfold noted
  split <;> simp

/-- How many the law counts. -/
theorem count_noted (z : Int) (k : Int × Int) (v : Int) (E : List En) : (ents (noted z k v E) z).length = (ents E z).length + if E.any (hit z k) = true then 0 else 1 := by
  unfold noted
  split
  · rw [ents_map_upd]; simp
  · rw [ents_append]; simp [ents]

/-- The model's entries once the site is cut at s. -/
def cutE (z s : Int) (E : List En) : List En := E.filter fun x => decide (x.1 ≠ z) || decide (s ≤ x.2.2)

theorem ents_cutE (z s : Int) (E : List En) : ents (cutE z s E) z = (ents E z).filter fun p => decide (s ≤ p.2) := by
  unfold ents cutE
  rw [List.filter_filter, List.filter_map, List.filter_filter]
  congr 1
  apply List.filter_congr
  intro x _
  by_cases h : x.1 = z <;> simp [h]

theorem ents_cutE_other {z y : Int} (s : Int) (E : List En) (hy : y ≠ z) : ents (cutE z s E) y = ents E y := by
  unfold ents cutE
  rw [List.filter_filter]
  congr 1
  apply List.filter_congr
  intro x _
  by_cases h : x.1 = y
  · have : x.1 ≠ z := fun e => hy (h.symm.trans e)
    simp [h, hy]
  · simp [h]

/-- How the law's model and the merger lie to each other after j records. -/
structure Mod (j : Nat) (S : List Int) (st : Int → Sit) (ps sn : List Int) (E : List En) : Prop where
  nd : ps.Nodup
  len : sn.length = ps.length
  mem : ∀ z, z ∈ ps ↔ z ∈ S
  since : ∀ a, a < ps.length → nth sn a = (st (nth ps a)).since
  inS : ∀ x ∈ E, x.1 ∈ S
  ent : ∀ z ∈ S, (st z).L.Perm (ents E z)
  lp : ps.length ≤ j
  lE : E.length ≤ j

/-- The site of the record among the model's. -/
def Added (ps sn : List Int) (z : Int) (ps' sn' : List Int) (si : Nat) : Prop :=
  si < ps'.length ∧ nth ps' si = z ∧ ((z ∈ ps ∧ ps' = ps ∧ sn' = sn) ∨ (z ∉ ps ∧ ps' = ps ++ [z] ∧ sn' = sn ++ [0]))

theorem nodup_nth' {ps : List Int} (h : ps.Nodup) {a b : Nat} (ha : a < ps.length) (hb : b < ps.length) (e : nth ps a = nth ps b) : a = b := by
  rw [nth_eq ha, nth_eq hb] at e
  have hp := List.pairwise_iff_getElem.1 h
  rcases Nat.lt_trichotomy a b with l | l | l
  · exact absurd e (hp a b ha hb l)
  · exact l
  · exact absurd e.symm (hp b a hb ha l)

section
variable {j : Nat} {S : List Int} {st : Int → Sit} {ps sn : List Int} {E : List En}

theorem Mod.old (h : Mod j S st ps sn E) (z : Int) : (oldL S st z).Perm (ents E z) := by
  unfold oldL
  by_cases hz : z ∈ S
  · simp only [hz, if_true]; exact h.ent z hz
  · simp only [hz, if_false]
    have : ents E z = [] := by
      rw [List.eq_nil_iff_forall_not_mem]
      intro p hp
      exact hz (h.inS _ (mem_ents.1 hp))
    rw [this]

theorem Added.length (h : Mod j S st ps sn E) {z : Int} {ps' sn' : List Int} {si : Nat} (ha : Added ps sn z ps' sn' si) : sn'.length = ps'.length ∧ ps'.length ≤ j + 1 ∧ ps'.Nodup := by
  have := h.len
  have := h.lp
  rcases ha.2.2 with ⟨_, rfl, rfl⟩ | ⟨hz, rfl, rfl⟩
  · exact ⟨h.len, by omega, h.nd⟩
  · refine ⟨by simp; omega, by simp; omega, ?_⟩
    rw [List.nodup_append]
    refine ⟨h.nd, by simp, ?_⟩
    intro a ha2 b hb
    simp at hb
    subst hb
    rintro rfl
    exact hz ha2

theorem Added.since (h : Mod j S st ps sn E) {z : Int} {ps' sn' : List Int} {si : Nat} (ha : Added ps sn z ps' sn' si) : nth sn' si = oldS S st z := by
  obtain ⟨h1, h2, h3⟩ := ha
  unfold oldS
  rcases h3 with ⟨hz, rfl, rfl⟩ | ⟨hz, rfl, rfl⟩
  · rw [if_pos ((h.mem z).1 hz), h.since si h1, h2]
  · rw [if_neg (fun e => hz ((h.mem z).2 e))]
    have e : si = ps.length := by
      rcases Nat.lt_or_ge si ps.length with hl | hl
      · rw [nth_append_left hl] at h2
        exact absurd (h2 ▸ nth_mem hl) hz
      · simp at h1; omega
    rw [e, ← h.len, nth_append_at]

/-- The record has been passed, and noted in the model. -/
theorem Mod.next (h : Mod j S st ps sn E) {z : Int} {S' : List Int} {x : Sit} (set : (z ∈ S ∧ S' = S) ∨ (z ∉ S ∧ S' = z :: S)) {ps' sn' sn2 : List Int} {si : Nat} (ha : Added ps sn z ps' sn' si) {E2 : List En}
    (hl2 : sn2.length = sn'.length) (hs2 : ∀ a, nth sn2 a = if a = si then x.since else nth sn' a) (hx : x.L.Perm (ents E2 z)) (hy : ∀ y, y ≠ z → ents E2 y = ents E y) (hin : ∀ e ∈ E2, e.1 = z ∨ e.1 ∈ S) (hlE : E2.length ≤ j + 1) :
    Mod (j + 1) S' (updS st z x) ps' sn2 E2 := by
  have hmS : ∀ y, y ∈ S' ↔ y = z ∨ y ∈ S := by
    intro y
    rcases set with ⟨hz, rfl⟩ | ⟨hz, rfl⟩
    · constructor
      · exact Or.inr
      · rintro (rfl | e)
        · exact hz
        · exact e
    · simp
  obtain ⟨l1, l2, l3⟩ := Added.length h ha
  obtain ⟨a1, a2, a3⟩ := ha
  refine ⟨l3, by omega, ?_, ?_, ?_, ?_, l2, hlE⟩
  · intro y
    rw [hmS]
    rcases a3 with ⟨hz, rfl, rfl⟩ | ⟨hz, rfl, rfl⟩
    · rw [h.mem y]
      constructor
      · exact Or.inr
      · rintro (rfl | e)
        · exact (h.mem y).1 hz
        · exact e
    · rw [List.mem_append, h.mem y]
      simp
      exact Or.comm
  · intro a hal
    rw [hs2]
    by_cases e : a = si
    · rw [if_pos e, e, a2, updS_same]
    · rw [if_neg e]
      have hne : nth ps' a ≠ z := by
        intro e2
        exact e (nodup_nth' l3 hal a1 (e2.trans a2.symm))
      rw [updS_other hne]
      rcases a3 with ⟨hz, rfl, rfl⟩ | ⟨hz, rfl, rfl⟩
      · exact h.since a hal
      · have hal' : a < ps.length := by
          rcases Nat.lt_or_ge a ps.length with hl | hl
          · exact hl
          · exfalso
            have : a = ps.length := by simp at hal; omega
            rw [this, nth_append_at] at hne
            exact hne rfl
        rw [nth_append_left hal', nth_append_left (by rw [h.len]; exact hal')]
        exact h.since a hal'
  · intro e he
    rw [hmS]
    exact hin e he
  · intro y hyS
    by_cases e : y = z
    · subst e; rw [updS_same]; exact hx
    · rw [updS_other e, hy y e]
      rcases (hmS y).1 hyS with e2 | h2
      · exact absurd e2 e
      · exact h.ent y h2

end

/-! the k-th largest -/

def gtc (xs : List Int) (x : Int) : Nat := (xs.filter fun y => decide (x < y)).length
def gec (xs : List Int) (x : Int) : Nat := (xs.filter fun y => decide (x ≤ y)).length

theorem gec_le_gtc {x y : Int} (h : x < y) (xs : List Int) : gec xs y ≤ gtc xs x := by
  unfold gec gtc
  induction xs with
  | nil => simp
  | cons a r ih =>
    by_cases h1 : y ≤ a
    · rw [List.filter_cons_of_pos (by simpa using h1), List.filter_cons_of_pos (by simp; omega)]
      simpa using ih
    · rw [List.filter_cons_of_neg (by simpa using h1)]
      by_cases h2 : x < a
      · rw [List.filter_cons_of_pos (by simpa using h2)]
        simp
        omega
      · rw [List.filter_cons_of_neg (by simpa using h2)]
        exact ih

theorem kth_unique {xs : List Int} {k : Nat} {x y : Int} (h1 : gtc xs x < k) (h2 : k ≤ gec xs x) (h3 : gtc xs y < k) (h4 : k ≤ gec xs y) : x = y := by
  rcases Int.lt_trichotomy x y with e | e | e
  · have := gec_le_gtc e xs; omega
  · exact e
  · have := gec_le_gtc e xs; omega

theorem CutAt.counts {keep : Nat} {M : List Ent} {s : Int} (h : CutAt keep M s) (h0 : 0 < keep) (hk : keep ≤ M.length) {xs : List Int} (hp : xs.Perm (M.map Prod.snd)) : s ∈ xs ∧ gtc xs s < keep ∧ keep ≤ gec xs s := by
  refine ⟨?_, ?_⟩
  · obtain ⟨p, hm, e⟩ := h.mem h0 hk
    exact hp.mem_iff.2 (List.mem_map.2 ⟨p, hm, e⟩)
  · obtain ⟨d, hd, hr, rfl⟩ := h
    have hs : d.size = M.length := by simpa using hd.length_eq
    have hxd : xs.Perm d.toList := hp.trans hd.symm
    have hi : d.size - keep < d.size := by omega
    unfold gtc gec
    rw [(hxd.filter _).length_eq, (hxd.filter _).length_eq]
    have le : ∀ i j (hi : i < d.size) (hj : j < d.size), i ≤ j → d[i] ≤ d[j] := by
      intro i j hi hj hij
      rcases Nat.eq_or_lt_of_le hij with e | e
      · subst e; exact Int.le_refl _
      · have := hr i j e hj
        rwa [getElem!_pos d i hi, getElem!_pos d j hj] at this
    rw [getElem!_pos d _ hi]
    constructor
    · have e2 : d.toList.filter (fun x => decide (d[d.size - keep] < x)) = (d.toList.drop (d.size - keep + 1)).filter (fun x => decide (d[d.size - keep] < x)) := by
        conv => lhs; rw [← List.take_append_drop (d.size - keep + 1) d.toList]
        rw [List.filter_append]
        have : (d.toList.take (d.size - keep + 1)).filter (fun x => decide (d[d.size - keep] < x)) = [] := by
          rw [List.filter_eq_nil_iff]
          intro x hx
          obtain ⟨i, hi1, rfl⟩ := List.getElem_of_mem hx
          have hi2 : i < d.size - keep + 1 := by
            rw [List.length_take] at hi1
            omega
          rw [List.getElem_take, Array.getElem_toList]
          have := le i (d.size - keep) (by omega) hi (by omega)
          simp
          omega
        rw [this, List.nil_append]
      rw [e2]
      refine Nat.lt_of_le_of_lt (List.length_filter_le _ _) ?_
      rw [List.length_drop]
      simp
      omega
    · have e1 : (d.toList.drop (d.size - keep)).filter (fun x => decide (d[d.size - keep] ≤ x)) = d.toList.drop (d.size - keep) := by
        rw [List.filter_eq_self]
        intro x hx
        obtain ⟨i, hi1, rfl⟩ := List.getElem_of_mem hx
        rw [List.getElem_drop, Array.getElem_toList]
        rw [List.length_drop] at hi1
        simp at hi1
        have := le (d.size - keep) (d.size - keep + i) hi (by omega) (by omega)
        simpa using this
      have e2 : (d.toList.drop (d.size - keep)).length = keep := by
        rw [List.length_drop]
        simp
        omega
      have e3 := (List.Sublist.filter (fun x => decide (d[d.size - keep] ≤ x)) (List.drop_sublist (d.size - keep) d.toList)).length_le
      rw [e1, e2] at e3
      exact e3

end Go.Proofs.Qxb6604710a
