import Derived.Test.Qxb6604710aP2
import Derived.Test.Qxb6604710aQ5
import Derived.Test.Qxb6604710aApp
import Derived.BigRegion
namespace Go.Proofs.Qxb6604710a
open Go.RowKit Go.Maps

def tidE : Enc (Int × Int) Int where
  good k := (Lit.int .i64 k.1).wf = true ∧ (Lit.int .u64 k.2).wf = true
  ek k := tk k.1 k.2
  ev v := .lit (.int .u64 v)
  inj := fun {a b} ha hb h => by
    obtain ⟨e1, e2⟩ := tk_inj ha.1 ha.2 hb.1 hb.2 h
    exact Prod.ext e1 e2
  isk := fun _ => trivial

abbrev Ent : Type := (Int × Int) × Int

theorem zero23 (w : World) : (zeroValue 23).run Try.prog w = .ok (.int .u64 0) w := by kernel_rfl

/-- The values whose keys are no longer to come. -/
def gone (left : Lit → Bool) (L : List Ent) : List Int := (L.filter fun p => !left (tidE.ek p.1)).map Prod.snd

theorem gone_start {D : DataW Unit} {L : List Ent} (h : Rep tidE D L) : gone (Maps.has D) L = [] := by
  unfold gone
  rw [List.map_eq_nil_iff, List.filter_eq_nil_iff]
  intro p hp
  have := (h.has (h.good p hp)).2 ⟨p.2, hp⟩
  simp [this]

theorem gone_end {left : Lit → Bool} (hl : ∀ kl, left kl = false) (L : List Ent) : gone left L = L.map Prod.snd := by
  unfold gone
  congr 1
  rw [List.filter_eq_self]
  intro p _
  simp [hl]

theorem gone_step {D : DataW Unit} {L : List Ent} (h : Rep tidE D L) {left : Lit → Bool} {k : Int × Int} {v : Int} (hm : (k, v) ∈ L) (hl : left (tidE.ek k) = true) :
    (gone (fun z => left z && !z.sameKey (tidE.ek k)) L).Perm (gone left L ++ [v]) := by
  have hg := h.good
  have hn := h.nodup
  clear h
  induction L with
  | nil => cases hm
  | cons p r ih =>
    rw [List.map_cons, List.nodup_cons] at hn
    have hk : tidE.good k := hg _ hm
    rcases List.mem_cons.1 hm with e | hm'
    · subst e
      have e1 : gone (fun z => left z && !z.sameKey (tidE.ek k)) r = gone left r := by
        unfold gone
        congr 1
        apply List.filter_congr
        intro q hq
        have hne : q.1 ≠ k := fun e => hn.1 (List.mem_map.2 ⟨q, hq, e⟩)
        have hs := same_iff (hg q (List.mem_cons_of_mem _ hq)) hk
        simp [hs, hne]
      have e2 : gone (fun z => left z && !z.sameKey (tidE.ek k)) ((k, v) :: r) = v :: gone left r := by
        rw [← e1]
        unfold gone
        rw [List.filter_cons_of_pos]
        · rfl
        · simp [same_iff hk hk]
      have e3 : gone left ((k, v) :: r) = gone left r := by
        unfold gone
        rw [List.filter_cons_of_neg]
        simp [hl]
      rw [e2, e3]
      exact List.perm_append_comm (l₁ := [v])
    · have ih' := ih hm' (fun q hq => hg q (List.mem_cons_of_mem _ hq)) hn.2
      have hne : p.1 ≠ k := fun e => hn.1 (List.mem_map.2 ⟨_, hm', e.symm⟩)
      have hs : (tidE.ek p.1).sameKey (tidE.ek k) = false := by
        rw [same_iff (hg p (List.mem_cons_self ..)) hk]; simp [hne]
      unfold gone at *
      by_cases hp : left (tidE.ek p.1) = true
      · rw [List.filter_cons_of_neg (by simp [hp, hs]), List.filter_cons_of_neg (by simp [hp])]
        exact ih'
      · rw [List.filter_cons_of_pos (by simp [hp]), List.filter_cons_of_pos (by simp [hp])]
        exact List.Perm.cons _ ih'

end Go.Proofs.Qxb6604710a
