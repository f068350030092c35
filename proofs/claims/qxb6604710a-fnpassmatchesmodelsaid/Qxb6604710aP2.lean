import Derived.Test.Qxb6604710aP1
namespace Go.Proofs.Qxb6604710a
open Go.RowKit Go.Maps

/-- How keys and elements of a map are told. -/
structure Enc (α β : Type) where
  good : α → Prop
  ek : α → Lit
  ev : β → DataW Unit
  inj : ∀ {a b : α}, good a → good b → ek a = ek b → a = b
  isk : ∀ a, WideAt.IsKeyLit (ek a)

set_option linter.unusedSectionVars false
variable {α β : Type} [DecidableEq α]

def Enc.en (E : Enc α β) (p : α × β) : Lit × DataW Unit := (E.ek p.1, E.ev p.2)

/-- The datum D holds just the entries of L, in whatever order. -/
structure Rep (E : Enc α β) (D : DataW Unit) (L : List (α × β)) : Prop where
  es : ∃ es, D = .map es ∧ es.Perm (L.map E.en)
  nodup : (L.map Prod.fst).Nodup
  good : ∀ p ∈ L, E.good p.1

theorem rep_empty (E : Enc α β) : Rep E (.map []) [] := ⟨⟨[], rfl, by simp⟩, by simp, by simp⟩

theorem Rep.perm {E : Enc α β} {D : DataW Unit} {L L' : List (α × β)} (h : Rep E D L) (hp : L.Perm L') : Rep E D L' := by
  obtain ⟨es, hD, hes⟩ := h.es
  exact ⟨⟨es, hD, hes.trans (hp.map _)⟩, (hp.map _).nodup_iff.1 h.nodup, fun p hm => h.good p (hp.mem_iff.2 hm)⟩

theorem Rep.size {E : Enc α β} {D : DataW Unit} {L : List (α × β)} (h : Rep E D L) : Maps.size D = L.length := by
  obtain ⟨es, rfl, hes⟩ := h.es
  rw [Maps.size_eq, hes.length_eq]; simp

theorem same_iff {E : Enc α β} {a b : α} (ha : E.good a) (hb : E.good b) : (E.ek a).sameKey (E.ek b) = decide (a = b) := by
  by_cases h : a = b
  · subst h; rw [WideAt.sameKey_self (E.isk a)]; simp
  · rw [Maps.sameKey_ne (fun e => h (E.inj ha hb e))]; simp [h]

theorem Rep.isMap {E : Enc α β} {D : DataW Unit} {L : List (α × β)} (h : Rep E D L) : Maps.IsMap D := by
  obtain ⟨es, rfl, _⟩ := h.es; exact ⟨es, rfl⟩

theorem Rep.has {E : Enc α β} {D : DataW Unit} {L : List (α × β)} (h : Rep E D L) {a : α} (ha : E.good a) : Maps.has D (E.ek a) = true ↔ ∃ b, (a, b) ∈ L := by
  obtain ⟨es, rfl, hes⟩ := h.es
  rw [Maps.has_eq, List.any_eq_true]
  constructor
  · rintro ⟨p, hp, hs⟩
    have := hes.mem_iff.1 hp
    rw [List.mem_map] at this
    obtain ⟨⟨x, b⟩, hx, rfl⟩ := this
    have hg := h.good _ hx
    have e : x = a := by
      have := same_iff hg ha
      simp only [Enc.en] at hs
      rw [hs] at this
      exact of_decide_eq_true this.symm
    subst e
    exact ⟨b, hx⟩
  · rintro ⟨b, hb⟩
    exact ⟨E.en (a, b), hes.mem_iff.2 (List.mem_map_of_mem hb), WideAt.sameKey_self (E.isk a)⟩

theorem Rep.has_false {E : Enc α β} {D : DataW Unit} {L : List (α × β)} (h : Rep E D L) {a : α} (ha : E.good a) (hn : ∀ b, (a, b) ∉ L) : Maps.has D (E.ek a) = false := by
  cases hh : Maps.has D (E.ek a) with
  | false => rfl
  | true => obtain ⟨b, hb⟩ := (h.has ha).1 hh; exact absurd hb (hn b)

theorem nodup_val {L : List (α × β)} (h : (L.map Prod.fst).Nodup) {a : α} {b c : β} (hb : (a, b) ∈ L) (hc : (a, c) ∈ L) : b = c := by
  induction L with
  | nil => cases hb
  | cons p r ih =>
    rw [List.map_cons, List.nodup_cons] at h
    rcases List.mem_cons.1 hb with e | hb'
    · rcases List.mem_cons.1 hc with e' | hc'
      · rw [← e] at e'; cases e'; rfl
      · subst e; exact absurd (List.mem_map_of_mem (f := Prod.fst) hc') h.1
    · rcases List.mem_cons.1 hc with e' | hc'
      · subst e'; exact absurd (List.mem_map_of_mem (f := Prod.fst) hb') h.1
      · exact ih h.2 hb' hc'

theorem Rep.atKey {E : Enc α β} {D : DataW Unit} {L : List (α × β)} (h : Rep E D L) {a : α} {b : β} (hb : (a, b) ∈ L) (z : DataW Unit) : D.atKey (E.ek a) z = E.ev b := by
  have ha := h.good _ hb
  obtain ⟨es, rfl, hes⟩ := h.es
  unfold DataW.atKey
  cases hf : es.find? (fun p => p.1.sameKey (E.ek a)) with
  | none =>
    have := List.find?_eq_none.1 hf (E.en (a, b)) (hes.mem_iff.2 (List.mem_map_of_mem hb))
    exact absurd (WideAt.sameKey_self (E.isk a)) this
  | some p =>
    have hp := List.mem_of_find?_eq_some hf
    have hs := List.find?_some hf
    have := hes.mem_iff.1 hp
    rw [List.mem_map] at this
    obtain ⟨⟨x, c⟩, hx, rfl⟩ := this
    have e : x = a := by
      have := same_iff (h.good _ hx) ha
      simp only [Enc.en] at hs
      rw [hs] at this
      exact of_decide_eq_true this.symm
    subst e
    have := nodup_val h.nodup hb hx
    subst this
    simp only [hf]
    rfl

theorem filter_enc {E : Enc α β} {L : List (α × β)} (hg : ∀ p ∈ L, E.good p.1) {a : α} (ha : E.good a) :
    (L.map E.en).filter (fun p => !p.1.sameKey (E.ek a)) = (L.filter (fun p => decide (p.1 ≠ a))).map E.en := by
  rw [List.filter_map]
  congr 1
  apply List.filter_congr
  intro p hp
  simp only [Function.comp, Enc.en]
  rw [same_iff (hg p hp) ha]
  simp

theorem Rep.del {E : Enc α β} {D : DataW Unit} {L : List (α × β)} (h : Rep E D L) {a : α} (ha : E.good a) : Rep E (D.del (E.ek a)) (L.filter (fun p => decide (p.1 ≠ a))) := by
  obtain ⟨es, rfl, hes⟩ := h.es
  refine ⟨⟨_, rfl, ?_⟩, ?_, fun p hp => h.good p (List.mem_filter.1 hp).1⟩
  · rw [← filter_enc h.good ha]
    exact hes.filter _
  · exact h.nodup.sublist (List.Sublist.map _ List.filter_sublist)

theorem Rep.put {E : Enc α β} {D : DataW Unit} {L : List (α × β)} (h : Rep E D L) {a : α} (ha : E.good a) (b : β) : Rep E (D.put (E.ek a) (E.ev b)) ((a, b) :: L.filter (fun p => decide (p.1 ≠ a))) := by
  have hd := h.del ha
  obtain ⟨es, rfl, hes⟩ := h.es
  refine ⟨⟨_, rfl, (WideShapes.insert_perm _ _).trans ?_⟩, ?_, ?_⟩
  · rw [List.map_cons]
    refine List.Perm.cons _ ?_
    rw [← filter_enc h.good ha]
    exact hes.filter _
  · rw [List.map_cons, List.nodup_cons]
    refine ⟨?_, hd.nodup⟩
    intro hm
    obtain ⟨p, hp, e⟩ := List.mem_map.1 hm
    have := (List.mem_filter.1 hp).2
    simp at this
    exact this e
  · intro p hp
    rcases List.mem_cons.1 hp with rfl | hp
    · exact ha
    · exact h.good p (List.mem_filter.1 hp).1

end Go.Proofs.Qxb6604710a
