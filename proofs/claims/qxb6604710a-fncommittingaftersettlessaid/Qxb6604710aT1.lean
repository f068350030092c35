import Derived.Test.Qxb6604710aS1
namespace Go.Proofs.Qxb6604710a
open Go.RowKit
attribute [local go_sem] m_len0 m_less0 m_swap0 m_push m_pop

set_option maxRecDepth 100000 in
set_option maxHeartbeats 1000000 in
theorem fix_any (w : World) (base M k : Nat) (mc : Array Value) (v : Value) (ids : List Nat) (T : Nat → Tx) (i : Nat) (hq : Que w base M k mc v ids T)
    (hi : i < ids.length) (hbig : ids.length ≤ 1000000) (hinv : Hole (LT T) ids.length (gd ids) i) :
    Calls Try.prog 44 #[.iface 89 (.pointer (some ⟨M, k, none⟩)), .int .i64 i] w fun e w' => e = .returned (.tuple #[]) ∧
      ∃ ids', Que w' base M k mc v ids' T ∧ ids'.Perm ids ∧ HeapOK (LT T) ids.length (gd ids') ∧ Kept (QX v ids) w w' := by
  have hcell := hq.cell
  have hlen := hide hq.len
  have hd := hide (down_any w base M k mc v ids T ids.length i hq hi (Nat.le_refl _) hbig hinv)
  clear hq hinv
  go_enter Try.func44, Try.ntmps44
  go_wp2_with fail
  refine (unhide hlen).mono ?_
  rintro e w ⟨rfl, rfl⟩
  go_wp2_with fail
  refine (unhide hd).mono ?_
  rintro e w1 ⟨b, rfl, ids', hq1, hperm, hout, ht, hf, hk⟩
  cases b with
  | true =>
    have Hq1 := hide hq1
    have Hperm := hide hperm
    have Ht := hide (ht rfl)
    have Hk := hide hk
    clear hq1 hperm hout ht hf hk hd hlen hcell
    go_wp2_with fail
    go_end0
    exact ⟨rfl, ids', unhide Hq1, unhide Hperm, unhide Ht, unhide Hk⟩
  | false =>
    have hl : ids'.length = ids.length := hperm.length_eq
    have hu := hide (up_any w1 base M k mc v ids' T ids.length i hq1 hi (by omega) (by omega) (hf rfl))
    have Hperm := hide hperm
    have Hk := hide hk
    clear hq1 hperm hout ht hf hk hd hlen hcell hl
    go_wp2_with fail
    refine (unhide hu).mono ?_
    rintro e w2 ⟨rfl, ids2, hq2, hperm2, hout2, hh2, hk2⟩
    have Hq2 := hide hq2
    have Hperm2 := hide hperm2
    have Hh2 := hide hh2
    have Hk2 := hide hk2
    clear hq2 hperm2 hout2 hh2 hk2 hu
    go_wp2_with fail
    go_end0
    have hp := unhide Hperm
    exact ⟨rfl, ids2, unhide Hq2, (unhide Hperm2).trans hp, unhide Hh2, (unhide Hk).trans ((unhide Hk2).mono fun b _ hb => hb.elim (fun h => Or.inl (hp.mem_iff.1 h)) Or.inr)⟩

theorem Que.popped {w : World} {base M k : Nat} {mc : Array Value} {ids : List Nat} {T : Nat → Tx} {g cap n : Nat} (h : Que w base M k mc (.slice (some ⟨g, 0, none⟩) ids.length cap) ids T) (hn : ids.length = n + 1) :
    Que ((w.setCell ⟨g, n, none⟩ (.pointer none)).setCell ⟨M, k, none⟩ (.slice (some ⟨g, 0, none⟩) n cap)) base M k (mc.setIfInBounds k (.slice (some ⟨g, 0, none⟩) n cap)) (.slice (some ⟨g, 0, none⟩) n cap) (ids.take n) T := by
  obtain ⟨g', cap', cur, hv, hg, hh, hcap, hmx⟩ := h.arr (by omega)
  cases hv
  have hgM := h.g_ne_mer hh
  have hk : k < mc.size := by
    rcases Nat.lt_or_ge k mc.size with h1 | h1
    · exact h1
    · have := h.var; rw [Array.getElem?_eq_none h1] at this; cases this
  refine ⟨?_, ?_, ?_, ?_⟩
  · have e : (w.setCell ⟨g, n, none⟩ (.pointer none)).heap[M]? = some (.cells mc 71 (0, 0)) := by
      rw [Below.heap_setCell _ _ _ _ (Ne.symm hgM)]; exact h.mer
    have e2 : ∀ W : World, W.heap[M]? = some (.cells mc 71 (0, 0)) → (W.setCell ⟨M, k, none⟩ (.slice (some ⟨g, 0, none⟩) n cap)).heap[M]? = some (.cells (mc.setIfInBounds k (.slice (some ⟨g, 0, none⟩) n cap)) 71 (0, 0)) := by
      intro W hW
      simp only [World.setCell, Array.getElem?_modify, if_true, hW]
      simp
    exact e2 _ e
  · simp [hk]
  · have hl : (ids.take n).length = n := by simp; omega
    rw [hl]
    refine ownsRow_other (a := ⟨M, k, none⟩) ?_ (by simpa [Value.ownBlock] using hgM) _
    have hst := (h.own.stored n (.pointer none)).1
    obtain ⟨h1, h2⟩ := hst
    refine ⟨by simp; omega, ?_⟩
    rcases h2 with ⟨h2, _⟩ | ⟨g2, cap2, cur2, hv2, hg2, hh2, hn2, hm2, hs2, ht2⟩
    · cases h2
    · cases hv2
      refine Or.inr ⟨g, cap, cur2, rfl, hg2, hh2, by omega, hm2, hs2, ?_⟩
      have ht3 := congrArg (List.take n) ht2
      rw [List.take_take, hn] at ht3
      simp only [Nat.mul_one] at ht3 ⊢
      rw [show min n (n + 1) = n by omega] at ht3
      rw [ht3, List.take_set_of_le (Nat.le_refl _), List.map_take]
  · intro i t hi
    rw [List.getElem?_take] at hi
    split at hi
    · have tt := h.tx i t hi
      exact (tt.other (a := ⟨g, n, none⟩) (h.ne_of hh hi) _).other (a := ⟨M, k, none⟩) (h.ne_mer hi) _
    · cases hi

set_option maxRecDepth 100000 in
set_option maxHeartbeats 1000000 in
theorem qpop_any (w : World) (base M k : Nat) (mc : Array Value) (ids : List Nat) (T : Nat → Tx) (g cap n t : Nat) (hq : Que w base M k mc (.slice (some ⟨g, 0, none⟩) ids.length cap) ids T)
    (hn : ids.length = n + 1) (ht : ids[n]? = some t) (hbig : ids.length ≤ 1000000) :
    Calls Try.prog 106 #[.pointer (some ⟨M, k, none⟩)] w fun e w' => e = .returned (.iface 30 (.pointer (some ⟨t, 0, none⟩))) ∧
      w' = (w.setCell ⟨g, n, none⟩ (.pointer none)).setCell ⟨M, k, none⟩ (.slice (some ⟨g, 0, none⟩) n cap) := by
  obtain ⟨g', cap', cur, hv, hg, hh, hcap, hmx⟩ := hq.arr (by omega)
  cases hv
  have hslot := hq.slot rfl ht
  have hgM := hq.g_ne_mer hh
  have hcell := hq.cell
  have hfz := hq.fz k
  have hfg : w.frozen? ⟨g, n, none⟩ = false := by unfold World.frozen?; simp [hh]
  have hn' : ((ids.length : Nat) : Int) - 1 = (n : Int) := by omega
  clear hq hh ht
  generalize ids.length = L at *
  subst hn
  clear hn'
  go_enter Try.func106, Try.ntmps106
  go_wp2_with fail
  go_ret
  exact ⟨rfl, rfl⟩


/-- What 'Remove' leaves. -/
def RemPost (w : World) (base M k : Nat) (mc : Array Value) (v : Value) (ids : List Nat) (T : Nat → Tx) (n t : Nat) (w' : World) : Prop :=
  ∃ v' ids', Que w' base M k (mc.setIfInBounds k v') v' ids' T ∧ (ids' ++ [t]).Perm ids ∧ HeapOK (LT T) n (gd ids') ∧ v'.ownBlock = v.ownBlock ∧ IsTx w' t ((T t).at n) ∧ Kept (fun b => b = M ∨ QX v ids b) w w'

theorem heapOK_ext {L : Nat → Nat → Bool} {n : Nat} {f g : Nat → Nat} (h : HeapOK L n f) (hg : ∀ k, k < n → g k = f k) : HeapOK L n g := by
  intro i h0 hn
  have hp := par_lt h0
  rw [hg i hn, hg (par i) (by omega)]
  exact h i h0 hn

theorem rem_finish {w w2 : World} {base M k : Nat} {mc : Array Value} {g cap : Nat} {ids ids2 : List Nat} {T : Nat → Tx} {n t : Nat} (hq2 : Que w2 base M k mc (.slice (some ⟨g, 0, none⟩) ids2.length cap) ids2 T)
    (hn : ids2.length = n + 1) (ht : ids2[n]? = some t) (hperm : ids2.Perm ids) (hh : HeapOK (LT T) n (gd ids2)) (hk : Kept (QX (.slice (some ⟨g, 0, none⟩) ids2.length cap) ids) w w2) :
    RemPost w base M k mc (.slice (some ⟨g, 0, none⟩) ids2.length cap) ids T n t ((w2.setCell ⟨g, n, none⟩ (.pointer none)).setCell ⟨M, k, none⟩ (.slice (some ⟨g, 0, none⟩) n cap)) := by
  obtain ⟨g', cap', cur, hv, hg, hhh, hcap, hmx⟩ := hq2.arr (by omega)
  cases hv
  refine ⟨_, _, hq2.popped hn, ?_, ?_, rfl, ?_, ?_⟩
  · have e : ids2.take n ++ [t] = ids2 := by
      have := List.take_add_one (l := ids2) (i := n)
      rw [ht] at this
      rw [List.take_of_length_le (by omega)] at this
      simpa using this.symm
    rw [e]; exact hperm
  · refine heapOK_ext hh fun k hk => ?_
    simp [gd, List.getD_eq_getElem?_getD, hk]
  · exact ((hq2.tx n t ht).other (a := ⟨g, n, none⟩) (hq2.ne_of hhh ht) _).other (a := ⟨M, k, none⟩) (hq2.ne_mer ht) _
  · exact Kept.setCell (X := fun b => b = M ∨ QX (.slice (some ⟨g, 0, none⟩) ids2.length cap) ids b) (Kept.setCell (hk.mono fun b _ hb => Or.inr hb) (p := ⟨g, n, none⟩) (Or.inr (Or.inr rfl)) _) (p := ⟨M, k, none⟩) (Or.inl rfl) _

set_option maxRecDepth 100000 in
set_option maxHeartbeats 2000000 in
theorem remove_any (w : World) (base M k : Nat) (mc : Array Value) (v : Value) (ids : List Nat) (T : Nat → Tx) (i n t : Nat) (hq : Que w base M k mc v ids T)
    (hn : ids.length = n + 1) (hi : i ≤ n) (ht : ids[i]? = some t) (hbig : ids.length ≤ 1000000)
    (hA : i < n → ∀ g : Nat → Nat, (∀ k, k ≠ i → k < n → g k = gd ids k) → Hole (LT T) n g i) (hB : i = n → HeapOK (LT T) n (gd ids)) :
    Calls Try.prog 51 #[.iface 89 (.pointer (some ⟨M, k, none⟩)), .int .i64 i] w fun e w' => (∃ x, e = .returned x) ∧ RemPost w base M k mc v ids T n t w' := by
  obtain ⟨g, cap, cur, rfl, hg, hhh, hcap, hmx⟩ := hq.arr (by omega)
  have hcell := hq.cell
  have hlen : Hid (Calls Try.prog 100 #[.slice (some ⟨g, 0, none⟩) ids.length cap] w fun e w' => e = .returned (.int .i64 ((n : Int) + 1)) ∧ w' = w) :=
    hq.len.mono (by rintro e w' ⟨rfl, hw⟩; exact ⟨by rw [hn]; simp, hw⟩)
  have hnb : (n : Int) ≤ 1000000 := by omega
  by_cases hin : i = n
  · subst hin
    have hpop := hide (qpop_any w base M k mc ids T g cap i t hq hn ht hbig)
    have hfin := hide (rem_finish (w := w) hq hn ht (List.Perm.refl _) (hB rfl) (Kept.refl _ _))
    have hne : ((i : Int) != (i : Int)) = false := by simp
    clear hq hA hB ht hhh
    have Hn := hide hn
    clear hn
    go_enter Try.func51, Try.ntmps51
    go_wp2_with fail
    refine (unhide hlen).mono ?_
    rintro e w ⟨rfl, rfl⟩
    go_wp2_with fail
    refine (unhide hpop).mono ?_
    rintro e w1 ⟨rfl, rfl⟩
    go_wp2_with fail
    go_ret
    exact ⟨⟨_, rfl⟩, unhide hfin⟩
  · have hilt : i < n := by omega
    have hne : ((n : Int) != (i : Int)) = true := by rw [bne_iff_ne]; omega
    have hsw := hide (hq.swap (i := i) (j := n) (by omega) (by omega) hin)
    have e1 : ∀ k, k ≠ i → k < n → gd (sw ids i n) k = gd ids k := by
      intro k h1 h2
      have := sw_getD ids (i := i) (j := n) (by omega) (by omega) k
      rw [swapF_other _ h1 (by omega)] at this
      exact this
    have hhole := hide (hA hilt _ e1)
    have hswn : (sw ids i n)[n]? = some t := by
      rw [sw_getElem? _ (by omega) (by omega), if_neg (Ne.symm hin), if_pos rfl]; exact ht
    have hswl : (sw ids i n).length = n + 1 := by rw [sw_length]; exact hn
    have hswp := sw_perm ids (i := i) (j := n) (by omega) (by omega)
    have Hswn := hide hswn
    have Hswl := hide hswl
    have Hswp := hide hswp
    have Hn := hide hn
    clear hq hA hB ht hhh e1 hswn hswl hswp hn
    go_enter Try.func51, Try.ntmps51
    go_wp2_with fail
    refine (unhide hlen).mono ?_
    rintro e w ⟨rfl, rfl⟩
    go_wp2_with fail
    refine (unhide hsw).mono ?_
    rintro e w1 ⟨rfl, hq1, hk1⟩
    have hcell1 := hq1.cell
    have hd := hide (down_any w1 base M k mc _ (sw ids i n) T n i hq1 hilt (by have := unhide Hswl; omega) (by have := unhide Hswl; have := unhide Hn; omega) (unhide hhole))
    have Hk1 := hide hk1
    clear hq1 hk1 hsw hhole
    go_wp2_with fail
    refine (unhide hd).mono ?_
    rintro e w2 ⟨b, rfl, ids2, hq2, hperm2, hout2, ht2, hf2, hk2⟩
    have hl2 : ids2.length = n + 1 := by rw [hperm2.length_eq]; exact unhide Hswl
    have hn2 : ids2[n]? = some t := by rw [hout2 n (Nat.le_refl _)]; exact unhide Hswn
    have hlids : ids.length = ids2.length := by have := unhide Hn; omega
    have hk12 := (unhide Hk1).trans (hk2.mono fun b _ hb => hb.elim (fun h => Or.inl ((unhide Hswp).mem_iff.1 h)) Or.inr)
    have hp2 := hperm2.trans (unhide Hswp)
    cases b with
    | true =>
      rw [hlids] at hq2 hk12
      have hcell2 := hq2.cell
      have hpop := hide (qpop_any w2 base M k mc ids2 T g cap n t hq2 hl2 hn2 (by omega))
      have hfin := hide (rem_finish (w := w) hq2 hl2 hn2 hp2 (ht2 rfl) hk12)
      rw [← hlids] at hfin
      clear hq2 hk12 hp2 hperm2 hout2 ht2 hf2 hk2 hd hcell hcell1 hn2 hl2 hcell2 hlids
      go_wp2_with fail
      refine (unhide hpop).mono ?_
      rintro e w3 ⟨rfl, rfl⟩
      go_wp2_with fail
      go_ret
      exact ⟨⟨_, rfl⟩, unhide hfin⟩
    | false =>
      have hu := hide (up_any w2 base M k mc _ ids2 T n i hq2 hilt (by omega) (by omega) (hf2 rfl))
      have Hl2 := hide hl2
      have Hn2 := hide hn2
      have Hlids := hide hlids
      have Hk12 := hide hk12
      have Hp2 := hide hp2
      clear hq2 hk12 hp2 hperm2 hout2 ht2 hf2 hk2 hd hcell hcell1 hn2 hl2 hlids
      go_wp2_with fail
      refine (unhide hu).mono ?_
      rintro e w3 ⟨rfl, ids3, hq3, hperm3, hout3, hh3, hk3⟩
      have hl3 : ids3.length = n + 1 := by rw [hperm3.length_eq]; exact unhide Hl2
      have hn3 : ids3[n]? = some t := by rw [hout3 n hilt]; exact unhide Hn2
      have hlids3 : ids.length = ids3.length := by have := unhide Hn; omega
      have hk123 := (unhide Hk12).trans (hk3.mono fun b _ hb => hb.elim (fun h => Or.inl ((unhide Hp2).mem_iff.1 h)) Or.inr)
      rw [hlids3] at hq3 hk123
      have hpop := hide (qpop_any w3 base M k mc ids3 T g cap n t hq3 hl3 hn3 (by omega))
      have hfin := hide (rem_finish (w := w) hq3 hl3 hn3 (hperm3.trans (unhide Hp2)) hh3 hk123)
      rw [← hlids3] at hfin
      clear hq3 hperm3 hout3 hh3 hk3 hl3 hn3 hlids3 hk123 hu
      go_wp2_with fail
      refine (unhide hpop).mono ?_
      rintro e w4 ⟨rfl, rfl⟩
      go_wp2_with fail
      go_ret
      exact ⟨⟨_, rfl⟩, unhide hfin⟩

end Go.Proofs.Qxb6604710a
