import Derived.Test.Qxb6604710aT5
namespace Go.Proofs.Qxb6604710a
open Go.RowKit

theorem MgQ.drewN {w : World} {base M : Nat} {mc : Array Value} {vp vc : Value} {P C : List Nat} {T : Nat → Tx} (h : MgQ w base M mc vp vc P C T) (n : Nat) : MgQ (w.drewN n) base M mc vp vc P C T := h.below (below_drewN _ _ _)
theorem Mg.drewN {w : World} {base M : Nat} {mc : Array Value} {vp vc : Value} {P C : List Nat} {T : Nat → Tx} (h : Mg w base M mc vp vc P C T) (n : Nat) : Mg (w.drewN n) base M mc vp vc P C T := h.below (below_drewN _ _ _)
theorem Kept.pre {X : Nat → Prop} {w w' : World} {n : Nat} (h : Kept X (w.drewN n) w') : Kept X w w' := ((Kept.refl _ w).drewN n).trans h

/-- What 'settle' is handed: the queues as they lie; the order of 'placed' as it was by T0, which parts from T at t alone. -/
structure SetPre (w : World) (base M : Nat) (mc : Array Value) (vp vc : Value) (P C : List Nat) (T T0 : Nat → Tx) (t : Nat) (parts : Int) : Prop where
  q : MgQ w base M mc vp vc P C T
  hc : HeapOK (LT T) C.length (gd C)
  hp0 : HeapOK (LT T0) P.length (gd P)
  hag : ∀ b, b ≠ t → T b = T0 b
  htC : t ∉ C
  htb : base ≤ t
  pa : IsParts parts (T t).parts
  c0 : 0 ≤ (T t).commits
  c1 : (T t).commits ≤ 536870912
  v0 : 0 ≤ (T t).votes
  v1 : (T t).votes ≤ 536870912
  lp : P.length < 100000
  lc : C.length < 100000

set_option maxRecDepth 100000 in
set_option maxHeartbeats 1000000 in
theorem settle_queued_not (w : World) (base M : Nat) (mc : Array Value) (vp vc : Value) (P C : List Nat) (T T0 : Nat → Tx) (t : Nat) (parts : Int) (h : SetPre w base M mc vp vc P C T T0 t parts) (ht : t ∈ P)
    (hd : doneB (T t).commits (T t).votes parts = false) :
    Calls Try.prog 39 #[.pointer (some ⟨M, 0, none⟩), .pointer (some ⟨t, 0, none⟩)] w fun e w' => e = .returned (.tuple #[]) ∧ SettlePost w base M vp vc P C T t false w' := by
  obtain ⟨i, hi, htx⟩ := h.q.p.memTx ht
  have hil := lt_of_some hi
  have hhole : Hole (LT T) P.length (gd P) i := hole_turned (ord_LT T0) h.hp0 (turned h.q hi h.hag) hil
  have hcm := hide (complete46 w t _ parts htx h.pa h.c0 h.c1 h.v0 h.v1)
  simp only [Tx.at, hd] at hcm
  have hpl := hide (fun m => place_queued (w.drewN m) base M mc vp vc P C T t i (h.q.drewN m) h.hc hi hhole (by have := h.lp; omega))
  have hT : (T t).queued = true := h.q.fp t ht
  have hTT : updT T t { T t with queued := !false } = T := by
    have : ({ T t with queued := !false } : Tx) = T t := by cases hx : T t; simp [hx] at hT ⊢; exact hT
    rw [this]; exact updT_self T t
  have hperm : ∀ P' : List Nat, P'.Perm P → P'.Perm (P.erase t ++ [t]) := fun P' hp => by
    refine hp.trans ?_
    exact (List.perm_cons_erase ht).trans (List.perm_append_comm (l₁ := [t]) (l₂ := P.erase t))
  have hfin : ∀ w' P', Mg w' base M mc vp vc P' C T → P'.Perm P → Kept (MX M vp vc P C) w w' → SettlePost w base M vp vc P C T t false w' := by
    intro w' P' hm hp hk
    refine ⟨mc, vp, vc, P', C, ?_, hperm P' hp, List.Perm.refl _, hk.mono fun b _ e => Or.inl e⟩
    rw [hTT]; exact hm
  have Hfin := hide hfin
  clear h ht hd hi htx hhole hT hTT hperm hfin
  go_enter Try.func39, Try.ntmps39
  go_wp2_with fail
  refine (unhide hcm).mono ?_
  rintro e w1 ⟨rfl, m, rfl⟩
  go_wp2_with fail
  refine (unhide hpl m).mono ?_
  rintro e w2 ⟨rfl, P', hmg, hp, hk⟩
  have H := hide (unhide Hfin w2 P' hmg hp hk.pre)
  clear hmg hp hk Hfin hcm hpl
  go_wp2_with fail
  go_end0
  exact ⟨rfl, unhide H⟩

set_option maxRecDepth 100000 in
set_option maxHeartbeats 1000000 in
theorem settle_new_not (w : World) (base M : Nat) (mc : Array Value) (vp vc : Value) (P C : List Nat) (T T0 : Nat → Tx) (t j : Nat) (parts : Int) (h : SetPre w base M mc vp vc P C T T0 t parts) (htP : t ∉ P) (hq : (T t).queued = false) (htx : IsTx w t ((T t).at j))
    (hd : doneB (T t).commits (T t).votes parts = false) :
    Calls Try.prog 39 #[.pointer (some ⟨M, 0, none⟩), .pointer (some ⟨t, 0, none⟩)] w fun e w' => e = .returned (.tuple #[]) ∧ SettlePost w base M vp vc P C T t false w' := by
  have hcm := hide (complete46 w t _ parts htx h.pa h.c0 h.c1 h.v0 h.v1)
  simp only [Tx.at, hd] at hcm
  have hmg : Mg w base M mc vp vc P C T := ⟨h.q, heapOK_congr h.hp0 (fun b hb => h.hag b (fun e => htP (e ▸ hb))), h.hc⟩
  have hpl := hide (fun m => place_new (w.drewN m) base M mc vp vc P C T t j (hmg.drewN m) (htx.drewN m) hq htP h.htC h.htb (by have := h.lp; omega))
  have hfin : ∀ m w', PlacePost (w.drewN m) base M vp vc P C (updT T t { T t with queued := true }) t w' → SettlePost w base M vp vc P C T t false w' := by
    rintro m w' ⟨mc', vp', P', hm, hp, hk, _⟩
    refine ⟨mc', vp', vc, P', C, hm, ?_, List.Perm.refl _, hk.pre⟩
    rw [List.erase_of_not_mem htP]; exact hp
  have Hfin := hide hfin
  clear h hd htx hmg hfin hq
  go_enter Try.func39, Try.ntmps39
  go_wp2_with fail
  refine (unhide hcm).mono ?_
  rintro e w1 ⟨rfl, m, rfl⟩
  go_wp2_with fail
  refine (unhide hpl m).mono ?_
  rintro e w2 ⟨rfl, hpp⟩
  have H := hide (unhide Hfin m w2 hpp)
  clear hpp Hfin hcm hpl
  go_wp2_with fail
  go_end0
  exact ⟨rfl, unhide H⟩

set_option maxRecDepth 100000 in
set_option maxHeartbeats 1000000 in
theorem settle_new_done (w : World) (base M : Nat) (mc : Array Value) (vp vc : Value) (P C : List Nat) (T T0 : Nat → Tx) (t j : Nat) (parts : Int) (h : SetPre w base M mc vp vc P C T T0 t parts) (htP : t ∉ P) (hq : (T t).queued = false) (htx : IsTx w t ((T t).at j))
    (hd : doneB (T t).commits (T t).votes parts = true) :
    Calls Try.prog 39 #[.pointer (some ⟨M, 0, none⟩), .pointer (some ⟨t, 0, none⟩)] w fun e w' => e = .returned (.tuple #[]) ∧ SettlePost w base M vp vc P C T t true w' := by
  have hcm := hide (complete46 w t _ parts htx h.pa h.c0 h.c1 h.v0 h.v1)
  simp only [Tx.at, hd] at hcm
  have hmg : Mg w base M mc vp vc P C T := ⟨h.q, heapOK_congr h.hp0 (fun b hb => h.hag b (fun e => htP (e ▸ hb))), h.hc⟩
  have hun := hide (fun m => unplace_no (w.drewN m) M t _ (htx.drewN m) hq)
  have hpu := hide (fun m => pushComplete (w.drewN m) base M mc vp vc P C T t j (hmg.drewN m) (htx.drewN m) hq htP h.htC h.htb (by have := h.lc; omega))
  have hTT : updT T t { T t with queued := !true } = T := by
    have : ({ T t with queued := !true } : Tx) = T t := by cases hx : T t; simp [hx] at hq ⊢; exact hq
    rw [this]; exact updT_self T t
  have hfin : ∀ m w' mc' vc' C', Mg w' base M mc' vp vc' P C' T → C'.Perm (C ++ [t]) → Kept (fun b => MX M vp vc P C b ∨ b = t) (w.drewN m) w' → SettlePost w base M vp vc P C T t true w' := by
    intro m w' mc' vc' C' hm hp hk
    refine ⟨mc', vp, vc', P, C', ?_, ?_, hp, hk.pre⟩
    · rw [hTT]; exact hm
    · rw [List.erase_of_not_mem htP]; exact List.Perm.refl _
  have Hfin := hide hfin
  clear h hd htx hmg hfin hq hTT
  go_enter Try.func39, Try.ntmps39
  go_wp2_with fail
  refine (unhide hcm).mono ?_
  rintro e w1 ⟨rfl, m, rfl⟩
  go_wp2_with fail
  refine (unhide hun m).mono ?_
  rintro e w1 ⟨rfl, rfl⟩
  go_wp2_with fail
  refine (unhide hpu m).mono ?_
  rintro e w2 ⟨rfl, mc', vc', C', hm, hp, hk⟩
  have H := hide (unhide Hfin m w2 mc' vc' C' hm hp hk)
  clear hm hp hk Hfin hcm hpu hun
  go_wp2_with fail
  refine bodyPost_ret (results_none rfl _ _ _) rfl ?_
  exact ⟨rfl, unhide H⟩

set_option maxRecDepth 100000 in
set_option maxHeartbeats 1000000 in
theorem settle_queued_done (w : World) (base M : Nat) (mc : Array Value) (vp vc : Value) (P C : List Nat) (T T0 : Nat → Tx) (t : Nat) (parts : Int) (h : SetPre w base M mc vp vc P C T T0 t parts) (ht : t ∈ P)
    (hd : doneB (T t).commits (T t).votes parts = true) :
    Calls Try.prog 39 #[.pointer (some ⟨M, 0, none⟩), .pointer (some ⟨t, 0, none⟩)] w fun e w' => e = .returned (.tuple #[]) ∧ SettlePost w base M vp vc P C T t true w' := by
  obtain ⟨i, hi, htx⟩ := h.q.p.memTx ht
  have hil := lt_of_some hi
  obtain ⟨n, hn⟩ : ∃ n, P.length = n + 1 := ⟨P.length - 1, by omega⟩
  have hp0 : HeapOK (LT T0) (n + 1) (gd P) := by rw [← hn]; exact h.hp0
  have hA : i < n → ∀ g : Nat → Nat, (∀ k, k ≠ i → k < n → g k = gd P k) → Hole (LT T) n g i := fun hin g hg => hole_removed (ord_LT T0) hp0 (turned h.q hi h.hag) hg hin
  have hB : i = n → HeapOK (LT T) n (gd P) := by
    intro e k h0 hk
    have := par_lt h0
    rw [turned h.q hi h.hag _ _ (by omega) (by omega)]
    exact hp0 k h0 (by omega)
  have hcm := hide (complete46 w t _ parts htx h.pa h.c0 h.c1 h.v0 h.v1)
  simp only [Tx.at, hd] at hcm
  have hun := hide (fun m => unplace_queued (w.drewN m) base M mc vp vc P C T t i n (h.q.drewN m) hi hn h.htC (by have := h.lp; omega) hA hB)
  have hst : ∀ m w1, UnplPost (w.drewN m) base M vp vc P C (updT T t { T t with queued := false }) n t w1 →
      Calls Try.prog 45 #[.iface 89 (.pointer (some ⟨M, 4, none⟩)), .iface 30 (.pointer (some ⟨t, 0, none⟩))] w1 fun e w' => e = .returned (.tuple #[]) ∧ SettlePost w base M vp vc P C T t true w' := by
    rintro m w1 ⟨mc1, vp1, P1, h1, hperm, hheap, ht1, hk, htP1, hvv⟩
    have hmg : Mg w1 base M mc1 vp1 vc P1 C (updT T t { T t with queued := false }) := ⟨h1, hheap, by rw [LT_queued]; exact h.hc⟩
    refine (pushComplete w1 base M mc1 vp1 vc P1 C _ t n hmg ht1 (by rw [updT_same]) htP1 h.htC h.htb (by have := h.lc; omega)).mono ?_
    rintro e w2 ⟨he, mc', vc', C', hm, hp, hk2⟩
    refine ⟨he, mc', vp1, vc', P1, C', hm, perm_erase_of hperm, hp, ?_⟩
    refine Kept.trans2 (hk.pre.mono fun b _ e => Or.inl e) hk2 ?_
    have hmemP : ∀ b, b ∈ P1 → b ∈ P := fun b hb => hperm.mem_iff.1 (List.mem_append.2 (Or.inl hb))
    rintro b _ ((e | e | e | e | e) | e)
    · exact Or.inl (Or.inl e)
    · exact Or.inl (Or.inr (Or.inl (hmemP b e)))
    · exact Or.inl (Or.inr (Or.inr (Or.inl e)))
    · exact Or.inl (Or.inr (Or.inr (Or.inr (Or.inl (hvv ▸ e)))))
    · exact Or.inl (Or.inr (Or.inr (Or.inr (Or.inr e))))
    · exact Or.inr e
  have Hst := hide hst
  clear h hd htx hi hA hB hp0 hst ht
  go_enter Try.func39, Try.ntmps39
  go_wp2_with fail
  refine (unhide hcm).mono ?_
  rintro e w1 ⟨rfl, m, rfl⟩
  go_wp2_with fail
  refine (unhide hun m).mono ?_
  rintro e w1 ⟨rfl, hup⟩
  have Hup := hide hup
  clear hup
  go_wp2_with fail
  refine (unhide Hst m w1 (unhide Hup)).mono ?_
  rintro e w2 ⟨rfl, hpost⟩
  have H := hide hpost
  clear hpost Hst hcm hun Hup
  go_wp2_with fail
  refine bodyPost_ret (results_none rfl _ _ _) rfl ?_
  exact ⟨rfl, unhide H⟩

end Go.Proofs.Qxb6604710a
