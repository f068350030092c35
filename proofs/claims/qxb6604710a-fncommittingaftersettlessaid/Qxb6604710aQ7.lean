import Derived.Test.Qxb6604710aQ6
namespace Go.Proofs.Qxb6604710a
open Go.RowKit
attribute [local go_sem] m_len0 m_less0 m_swap0 m_push m_pop

def gd (l : List Nat) (i : Nat) : Nat := l.getD i 0

/-- What 'up' keeps from round to round. -/
structure UpRel (w : World) (base M k : Nat) (mc : Array Value) (v : Value) (ids : List Nat) (T : Nat → Tx) (n j0 : Nat) (j : Nat) (wr : World) (ids' : List Nat) : Prop where
  q : Que wr base M k mc v ids' T
  perm : ids'.Perm ids
  le : j ≤ j0
  out : ∀ i, j0 < i → ids'[i]? = ids[i]?
  inv : UpInv (LT T) n (gd ids') j
  kept : Kept (QX v ids) w wr

set_option maxRecDepth 100000 in
set_option maxHeartbeats 1000000 in
theorem up_any (w : World) (base M k : Nat) (mc : Array Value) (v : Value) (ids : List Nat) (T : Nat → Tx) (n j : Nat) (hq : Que w base M k mc v ids T)
    (hj : j < n) (hn : n ≤ ids.length) (hbig : ids.length ≤ 1000000) (hinv : UpInv (LT T) n (gd ids) j) :
    Calls Try.prog 50 #[.iface 89 (.pointer (some ⟨M, k, none⟩)), .int .i64 j] w fun e w' => e = .returned (.tuple #[]) ∧
      ∃ ids', Que w' base M k mc v ids' T ∧ ids'.Perm ids ∧ (∀ i, j < i → ids'[i]? = ids[i]?) ∧ HeapOK (LT T) n (gd ids') ∧ Kept (QX v ids) w w' := by
  have h0 : UpRel w base M k mc v ids T n j j w ids := ⟨hq, List.Perm.refl _, Nat.le_refl _, fun _ _ => rfl, hinv, Kept.refl _ _⟩
  clear hq hinv
  go_enter Try.func50, Try.ntmps50
  go_wp2_with fail
  go_loopw [1] (fun t wr => ∃ (jj : Nat) (ids' : List Nat), t = .int .i64 jj ∧ UpRel w base M k mc v ids T n j jj wr ids') (fun t _ => (intOf t).toNat)
  case atStart => exact ⟨j, ids, rfl, h0⟩
  case round =>
    obtain ⟨jj, ids', rfl, hr⟩ := hrel
    have hle := hr.le
    have hcell := hr.q.cell
    have hlen : ids'.length = ids.length := hr.perm.length_eq
    by_cases hz : jj = 0
    · subst hz
      go_wp2_with fail
      go_end0
      exact ⟨rfl, ids', hr.q, hr.perm, hr.out, up_stop0 hr.inv, hr.kept⟩
    · have hlt : (0 : Int) < (jj : Int) := by omega
      have hpar : ((jj : Int) - 1) / 2 = ((par jj : Nat) : Int) := by unfold par; omega
      have Hp := hide hpar
      have hne : ((((jj : Int) - 1) / 2) == (jj : Int)) = false := by rw [beq_eq_false_iff_ne]; omega
      have hpl := par_lt (show 0 < jj by omega)
      obtain ⟨a, ha⟩ : ∃ a, ids'[jj]? = some a := ⟨_, List.getElem?_eq_getElem (by omega)⟩
      obtain ⟨b, hb⟩ : ∃ b, ids'[par jj]? = some b := ⟨_, List.getElem?_eq_getElem (by omega)⟩
      have ga : gd ids' jj = a := by simp [gd, List.getD_eq_getElem?_getD, ha]
      have gb : gd ids' (par jj) = b := by simp [gd, List.getD_eq_getElem?_getD, hb]
      have hless := hide (hr.q.less ha hb)
      have Ga := hide ga
      have Gb := hide gb
      clear hpar ha hb ga gb h0
      by_cases hl : LT T a b = true
      · have Hl := hide hl
        rw [hl] at hless
        clear hl
        go_wp2_with fail
        rw [unhide Hp]
        refine (unhide hless).mono ?_
        rintro e w1 ⟨rfl, hb1⟩
        have hq1 := hr.q.below hb1
        have hcell1 := hq1.cell
        have hsw := hide (hq1.swap (i := par jj) (j := jj) (by omega) (by omega) (by omega))
        clear hcell
        go_wp2_with fail
        refine (unhide hsw).mono ?_
        rintro e w2 ⟨rfl, hq2, hk2⟩
        go_wp2_with fail
        go_roundw
        case rel =>
          refine ⟨par jj, sw ids' (par jj) jj, rfl, hq2, (sw_perm _ (by omega) (by omega)).trans hr.perm, by omega, ?_, ?_, ?_⟩
          · intro i hi
            rw [sw_getElem? _ (by omega) (by omega), if_neg (by omega), if_neg (by omega)]
            exact hr.out i hi
          · have hst := up_step (ord_LT T) hr.inv (by omega) (by rw [unhide Ga, unhide Gb]; exact unhide Hl) (by omega)
            have e : gd (sw ids' (par jj) jj) = swapF (gd ids') (par jj) jj := funext fun k => sw_getD ids' (by omega) (by omega) k
            rw [e]
            exact hst
          · exact hr.kept.trans ((Kept.of_below hb1).trans (hk2.mono fun b _ hb => hb.elim (fun h => Or.inl (hr.perm.mem_iff.1 h)) Or.inr))
        case measure => simp [intOf]; omega
      · have hl' : LT T a b = false := by simpa using hl
        have Hl := hide hl'
        rw [hl'] at hless
        clear hl hl'
        go_wp2_with fail
        rw [unhide Hp]
        refine (unhide hless).mono ?_
        rintro e w1 ⟨rfl, hb1⟩
        go_wp2_with fail
        go_end0
        exact ⟨rfl, ids', hr.q.below hb1, hr.perm, hr.out, up_stop hr.inv (by rw [unhide Ga, unhide Gb]; exact unhide Hl), hr.kept.trans (Kept.of_below hb1)⟩

end Go.Proofs.Qxb6604710a
