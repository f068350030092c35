import Derived.Test.Qxb6604710aT3
namespace Go.Proofs.Qxb6604710a
open Go.RowKit

/-- From the world behind the push onto 'complete' to the merger's. -/
theorem MgQ.complete_push {w w2 : World} {base M : Nat} {mc : Array Value} {vp vc v' : Value} {P C C' : List Nat} {T : Nat → Tx} {t j : Nat} (h : MgQ w base M mc vp vc P C T) (hp : HeapOK (LT T) P.length (gd P)) (hqt : (T t).queued = false) (htP : t ∉ P) (htb : base ≤ t) (ht : IsTx w t ((T t).at j))
    (hq2 : Que w2 base M 4 (mc.setIfInBounds 4 v') v' C' T) (hperm : C'.Perm (C ++ [t])) (hheap : HeapOK (LT T) (C.length + 1) (gd C')) (hk2 : Kept (HX M vc C t) w w2)
    (hv : v'.ownBlock = vc.ownBlock ∨ ∃ h, v'.ownBlock = some h ∧ w.heap.size ≤ h) : ∃ mc', Mg w2 base M mc' vp v' P C' T ∧ Kept (fun b => MX M vp vc P C b ∨ b = t) w w2 := by
  have hlen : C'.length = C.length + 1 := by rw [hperm.length_eq]; simp
  have hmem : ∀ u, u ∈ C' → u ∈ C ∨ u = t := fun u hu => by
    have := hperm.mem_iff.1 hu
    simpa using this
  refine ⟨_, ⟨⟨?_, hq2, ?_, ?_, h.fp, ?_, h.bp, ?_, ?_, h.hM⟩, hp, ?_⟩, ?_⟩
  · refine h.p.kept hk2 hq2.mer ?_ ?_ ?_
    · rw [Array.getElem?_setIfInBounds_ne (by omega)]
      exact h.p.var
    · rintro u hu (e | e | e | e)
      · obtain ⟨i, hi, _⟩ := h.p.memTx hu
        exact h.p.ne_mer hi e
      · exact htP (e ▸ hu)
      · exact h.dj u hu e
      · obtain ⟨i, hi, tt⟩ := h.p.memTx hu
        exact h.c.own_ne tt (by decide) e
    · rintro b hb (e | e | e | e)
      · exact h.p.own_ne h.p.mer (by decide) (e ▸ hb)
      · exact h.p.own_ne ht (by decide) (e ▸ hb)
      · obtain ⟨i, hi, tt⟩ := h.c.memTx e
        exact h.p.own_ne tt (by decide) hb
      · exact h.ar b hb e
  · intro u hu hu'
    rcases hmem u hu' with e | e
    · exact h.dj u hu e
    · exact htP (e ▸ hu)
  · intro b hb
    rcases hv with e | ⟨g, e, hg⟩
    · rw [e]; exact h.ar b hb
    · rw [e]
      intro hx
      cases hx
      have := (h.p.own_lt hb).2
      omega
  · intro u hu
    rcases hmem u hu with e | e
    · exact h.fc u e
    · exact e ▸ hqt
  · intro u hu
    rcases hmem u hu with e | e
    · exact h.bc u e
    · exact e ▸ htb
  · exact Nat.le_trans h.hb hk2.size
  · rw [hlen]; exact hheap
  · refine hk2.mono ?_
    rintro b _ (e | e | e | e)
    · exact Or.inl (Or.inl e)
    · exact Or.inr e
    · exact Or.inl (Or.inr (Or.inr (Or.inl e)))
    · exact Or.inl (Or.inr (Or.inr (Or.inr (Or.inr e))))

theorem pushComplete (w : World) (base M : Nat) (mc : Array Value) (vp vc : Value) (P C : List Nat) (T : Nat → Tx) (t j : Nat) (h : Mg w base M mc vp vc P C T)
    (ht : IsTx w t ((T t).at j)) (hq : (T t).queued = false) (htP : t ∉ P) (htC : t ∉ C) (htb : base ≤ t) (hbig : C.length < 1000000) :
    Calls Try.prog 45 #[.iface 89 (.pointer (some ⟨M, 4, none⟩)), .iface 30 (.pointer (some ⟨t, 0, none⟩))] w fun e w' => e = .returned (.tuple #[]) ∧
      ∃ mc' vc' C', Mg w' base M mc' vp vc' P C' T ∧ C'.Perm (C ++ [t]) ∧ Kept (fun b => MX M vp vc P C b ∨ b = t) w w' := by
  refine (hpush_any w base M 4 mc vc C T t j h.c ht htC hbig h.hb h.hc).mono ?_
  rintro e w2 ⟨he, v', C', hq2, hperm, hheap, hk2, hv⟩
  obtain ⟨mc', hm, hk⟩ := h.toMgQ.complete_push h.hp hq htP htb ht hq2 hperm hheap hk2 hv
  exact ⟨he, mc', v', C', hm, hperm, hk⟩

/-- Behind 'Remove' from 'placed'. -/
theorem MgQ.removed {w w1 : World} {base M : Nat} {mc : Array Value} {vp vc : Value} {P C : List Nat} {T : Nat → Tx} {n t : Nat} (h : MgQ w base M mc vp vc P C T) (hn : P.length = n + 1) (hr : RemPost w base M 3 mc vp P T n t w1) :
    ∃ mc1 vp1 P1, MgQ w1 base M mc1 vp1 vc P1 C T ∧ (P1 ++ [t]).Perm P ∧ HeapOK (LT T) P1.length (gd P1) ∧ IsTx w1 t ((T t).at n) ∧ Kept (MX M vp vc P C) w w1 ∧ t ∉ P1 ∧ vp1.ownBlock = vp.ownBlock := by
  obtain ⟨v', P1, hq1, hperm, hheap, hv, ht1, hk⟩ := hr
  have hlen : P1.length = n := by have := hperm.length_eq; simp at this; omega
  have hmem : ∀ u, u ∈ P1 → u ∈ P := fun u hu => hperm.mem_iff.1 (List.mem_append.2 (Or.inl hu))
  have htP1 : t ∉ P1 := by
    have hnd : P.Nodup := by
      unfold List.Nodup
      rw [List.pairwise_iff_getElem]
      intro a b ha hb hab e
      have := h.p.inj (i := a) (j := b) (t := P[a]) (List.getElem?_eq_getElem ha) (by rw [List.getElem?_eq_getElem hb]; exact congrArg some e.symm)
      omega
    have hnd2 := (hperm.nodup_iff).2 hnd
    rw [List.nodup_append] at hnd2
    intro hu
    exact hnd2.2.2 t hu t (by simp) rfl
  refine ⟨_, v', P1, ⟨hq1, ?_, ?_, ?_, ?_, h.fc, ?_, h.bc, ?_, h.hM⟩, hperm, ?_, ht1, ?_, htP1, hv⟩
  · refine h.c.kept hk hq1.mer ?_ ?_ ?_
    · rw [Array.getElem?_setIfInBounds_ne (by omega)]
      exact h.c.var
    · rintro u hu (e | e | e)
      · obtain ⟨i, hi, _⟩ := h.c.memTx hu
        exact h.c.ne_mer hi e
      · exact h.dj u e hu
      · obtain ⟨i, hi, tt⟩ := h.c.memTx hu
        exact h.p.own_ne tt (by decide) e
    · rintro b hb (e | e | e)
      · exact h.c.own_ne h.c.mer (by decide) (e ▸ hb)
      · obtain ⟨i, hi, tt⟩ := h.p.memTx e
        exact h.c.own_ne tt (by decide) hb
      · exact h.ar b e hb
  · intro u hu
    exact h.dj u (hmem u hu)
  · intro b hb
    exact h.ar b (hv ▸ hb)
  · intro u hu
    exact h.fp u (hmem u hu)
  · intro u hu
    exact h.bp u (hmem u hu)
  · exact Nat.le_trans h.hb hk.size
  · rw [hlen]; exact hheap
  · refine hk.mono ?_
    rintro b _ (e | e | e)
    · exact Or.inl e
    · exact Or.inr (Or.inl e)
    · exact Or.inr (Or.inr (Or.inr (Or.inl e)))

/-- Behind 'Fix' of 'placed'. -/
theorem MgQ.fixed {w w1 : World} {base M : Nat} {mc : Array Value} {vp vc : Value} {P C P' : List Nat} {T : Nat → Tx} (h : MgQ w base M mc vp vc P C T) (hc : HeapOK (LT T) C.length (gd C))
    (hq1 : Que w1 base M 3 mc vp P' T) (hperm : P'.Perm P) (hheap : HeapOK (LT T) P.length (gd P')) (hk : Kept (QX vp P) w w1) : Mg w1 base M mc vp vc P' C T ∧ Kept (MX M vp vc P C) w w1 := by
  have hlen : P'.length = P.length := hperm.length_eq
  have hmem : ∀ u, u ∈ P' → u ∈ P := fun u hu => hperm.mem_iff.1 hu
  refine ⟨⟨⟨hq1, ?_, ?_, h.ar, ?_, h.fc, ?_, h.bc, ?_, h.hM⟩, ?_, hc⟩, ?_⟩
  · refine h.c.kept hk hq1.mer h.c.var ?_ ?_
    · rintro u hu (e | e)
      · exact h.dj u e hu
      · obtain ⟨i, hi, tt⟩ := h.c.memTx hu
        exact h.p.own_ne tt (by decide) e
    · rintro b hb (e | e)
      · obtain ⟨i, hi, tt⟩ := h.p.memTx e
        exact h.c.own_ne tt (by decide) hb
      · exact h.ar b e hb
  · intro u hu
    exact h.dj u (hmem u hu)
  · intro u hu
    exact h.fp u (hmem u hu)
  · intro u hu
    exact h.bp u (hmem u hu)
  · exact Nat.le_trans h.hb hk.size
  · rw [hlen]; exact hheap
  · refine hk.mono ?_
    rintro b _ (e | e)
    · exact Or.inr (Or.inl e)
    · exact Or.inr (Or.inr (Or.inr (Or.inl e)))

set_option maxRecDepth 100000 in
set_option maxHeartbeats 1000000 in
/-- 'place' of a transaction that is in 'placed': 'Fix'. -/
theorem place_queued (w : World) (base M : Nat) (mc : Array Value) (vp vc : Value) (P C : List Nat) (T : Nat → Tx) (t i : Nat) (h : MgQ w base M mc vp vc P C T) (hc : HeapOK (LT T) C.length (gd C))
    (hi : P[i]? = some t) (hhole : Hole (LT T) P.length (gd P) i) (hbig : P.length ≤ 1000000) :
    Calls Try.prog 38 #[.pointer (some ⟨M, 0, none⟩), .pointer (some ⟨t, 0, none⟩)] w fun e w' => e = .returned (.tuple #[]) ∧
      ∃ P', Mg w' base M mc vp vc P' C T ∧ P'.Perm P ∧ Kept (MX M vp vc P C) w w' := by
  have htx := h.p.tx i t hi
  have hq := h.fp t (List.mem_of_getElem? hi)
  have c9 : w.cell? ⟨t, 9, none⟩ = some (.bool true) := by have := htx.c9; simpa [Tx.at, hq] using this
  have c10 : w.cell? ⟨t, 10, none⟩ = some (.int .i64 i) := htx.c10
  have hfix := hide (fun m => fix_any (w.drewN m) base M 3 mc vp P T i (h.p.drewN m) (lt_of_some hi) hbig hhole)
  have Hh := hide h
  have Hc := hide hc
  clear h hc hi hhole htx hq
  go_enter Try.func38, Try.ntmps38
  go_wp2_with fail
  go_region_with (go_at_call 44; refine (unhide hfix 1).mono ?_; rintro e w1 ⟨rfl, P', hq1, hperm, hheap, hk⟩)
  all_goals
    obtain ⟨hmg, hkk⟩ := (unhide Hh).fixed (unhide Hc) hq1 hperm hheap ((Kept.refl _ w).drewN 1 |>.trans hk)
    have H1 := hide hmg
    have H2 := hide hkk
    have H3 := hide hperm
    clear hmg hkk hperm hq1 hheap hk
    go_wp2_with fail
    refine bodyPost_ret (results_none rfl _ _ _) rfl ?_
    exact ⟨rfl, P', unhide H1, unhide H3, unhide H2⟩

end Go.Proofs.Qxb6604710a
