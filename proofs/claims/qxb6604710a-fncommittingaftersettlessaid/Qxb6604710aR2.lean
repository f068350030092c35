import Derived.Test.Qxb6604710aR1
namespace Go.Proofs.Qxb6604710a
open Go.RowKit

def updT (T : Nat → Tx) (t : Nat) (x : Tx) : Nat → Tx := fun b => if b = t then x else T b
theorem updT_same (T : Nat → Tx) (t : Nat) (x : Tx) : updT T t x t = x := by simp [updT]
theorem updT_other (T : Nat → Tx) {t b : Nat} (x : Tx) (h : b ≠ t) : updT T t x b = T b := by simp [updT, h]

theorem Que.congr {w : World} {base M k : Nat} {mc : Array Value} {v : Value} {ids : List Nat} {T T' : Nat → Tx} (h : Que w base M k mc v ids T) (hT : ∀ t ∈ ids, T' t = T t) : Que w base M k mc v ids T' :=
  ⟨h.mer, h.var, h.own, fun i t hi => by rw [hT t (List.mem_of_getElem? hi)]; exact h.tx i t hi⟩

theorem Que.memTx {w : World} {base M k : Nat} {mc : Array Value} {v : Value} {ids : List Nat} {T : Nat → Tx} (h : Que w base M k mc v ids T) {t : Nat} (ht : t ∈ ids) : ∃ i, ids[i]? = some t ∧ IsTx w t ((T t).at i) := by
  obtain ⟨i, hi⟩ := List.getElem?_of_mem ht
  exact ⟨i, hi, h.tx i t hi⟩

theorem Que.kept {w : World} {base M k : Nat} {mc : Array Value} {v : Value} {ids : List Nat} {T : Nat → Tx} (h : Que w base M k mc v ids T) {X : Nat → Prop} {w' : World} (hk : Kept X w w') {mc' : Array Value}
    (hm : w'.heap[M]? = some (.cells mc' 71 (0, 0))) (hv : mc'[k]? = some v) (hx : ∀ t ∈ ids, ¬ X t) (ho : ∀ b, v.ownBlock = some b → ¬ X b) : Que w' base M k mc' v ids T := by
  refine ⟨hm, hv, ?_, fun i t hi => ?_⟩
  · obtain ⟨h1, h2⟩ := h.own
    refine ⟨h1, ?_⟩
    rcases h2 with h2 | ⟨g, cap, cur, hvv, hg, hh, r⟩
    · exact Or.inl h2
    · have hgl := (h.own_lt (b := g) (by rw [hvv]; rfl)).2
      exact Or.inr ⟨g, cap, cur, hvv, hg, (hk.block g hgl (ho g (by rw [hvv]; rfl))).trans hh, r⟩
  · have tt := h.tx i t hi
    unfold IsTx
    rw [hk.block t tt.lt (hx t (List.mem_of_getElem? hi))]
    exact tt

/-- The merger's two queues, without their order. -/
structure MgQ (w : World) (base M : Nat) (mc : Array Value) (vp vc : Value) (P C : List Nat) (T : Nat → Tx) : Prop where
  p : Que w base M 3 mc vp P T
  c : Que w base M 4 mc vc C T
  dj : ∀ t ∈ P, t ∉ C
  ar : ∀ b, vp.ownBlock = some b → vc.ownBlock ≠ some b
  fp : ∀ t ∈ P, (T t).queued = true
  fc : ∀ t ∈ C, (T t).queued = false
  bp : ∀ t ∈ P, base ≤ t
  bc : ∀ t ∈ C, base ≤ t
  hb : base ≤ w.heap.size
  hM : M < base

structure Mg (w : World) (base M : Nat) (mc : Array Value) (vp vc : Value) (P C : List Nat) (T : Nat → Tx) : Prop extends MgQ w base M mc vp vc P C T where
  hp : HeapOK (LT T) P.length (gd P)
  hc : HeapOK (LT T) C.length (gd C)

/-- What the merger's calls may turn. -/
def MX (M : Nat) (vp vc : Value) (P C : List Nat) (b : Nat) : Prop := b = M ∨ b ∈ P ∨ b ∈ C ∨ vp.ownBlock = some b ∨ vc.ownBlock = some b

theorem MgQ.mx_lt {w : World} {base M : Nat} {mc : Array Value} {vp vc : Value} {P C : List Nat} {T : Nat → Tx} (h : MgQ w base M mc vp vc P C T) {b : Nat} (hb : MX M vp vc P C b) : b < w.heap.size := by
  rcases hb with rfl | hb | hb | hb | hb
  · exact h.p.ltM
  · obtain ⟨i, _, ht⟩ := h.p.memTx hb; exact ht.lt
  · obtain ⟨i, _, ht⟩ := h.c.memTx hb; exact ht.lt
  · exact (h.p.own_lt hb).2
  · exact (h.c.own_lt hb).2

theorem MgQ.mx_ge {w : World} {base M : Nat} {mc : Array Value} {vp vc : Value} {P C : List Nat} {T : Nat → Tx} (h : MgQ w base M mc vp vc P C T) {b : Nat} (hb : MX M vp vc P C b) : b = M ∨ base ≤ b := by
  rcases hb with rfl | hb | hb | hb | hb
  · exact Or.inl rfl
  · exact Or.inr (h.bp b hb)
  · exact Or.inr (h.bc b hb)
  · exact Or.inr (h.p.own_lt hb).1
  · exact Or.inr (h.c.own_lt hb).1

theorem LT_congr {T T' : Nat → Tx} (h : ∀ b, (T' b).time = (T b).time ∧ (T' b).site = (T b).site ∧ (T' b).n = (T b).n) : LT T' = LT T := by
  funext a b
  unfold LT lessB
  rw [(h a).1, (h a).2.1, (h a).2.2, (h b).1, (h b).2.1, (h b).2.2]

theorem LT_queued (T : Nat → Tx) (t : Nat) (q : Bool) : LT (updT T t { T t with queued := q }) = LT T := by
  refine LT_congr fun b => ?_
  by_cases e : b = t
  · subst e; rw [updT_same]; exact ⟨rfl, rfl, rfl⟩
  · rw [updT_other _ _ e]; exact ⟨rfl, rfl, rfl⟩

theorem IsTx.setQueued {w : World} {t j : Nat} {x : Tx} (h : IsTx w t (x.at j)) (q : Bool) : IsTx (w.setCell ⟨t, 9, none⟩ (.bool q)) t (({ x with queued := q } : Tx).at j) := by
  unfold IsTx at *
  simp only [World.setCell, Array.getElem?_modify, if_true, h]
  simp [Tx.cells, Tx.at]

/-- What is left behind 'place' of a transaction that was in no queue. -/
def PlacePost (w : World) (base M : Nat) (vp vc : Value) (P C : List Nat) (T : Nat → Tx) (t : Nat) (w' : World) : Prop :=
  ∃ mc' vp' P', Mg w' base M mc' vp' vc P' C T ∧ P'.Perm (P ++ [t]) ∧ Kept (fun b => MX M vp vc P C b ∨ b = t) w w' ∧ (vp'.ownBlock = vp.ownBlock ∨ ∃ h, vp'.ownBlock = some h ∧ w.heap.size ≤ h)

/-- From the world behind the push onto 'placed' to the merger's. -/
theorem MgQ.placed_push {w w1 w2 : World} {base M : Nat} {mc : Array Value} {vp vc v' : Value} {P C P' : List Nat} {T : Nat → Tx} {t : Nat} (h : MgQ w base M mc vp vc P C T) (hc : HeapOK (LT T) C.length (gd C)) (hqt : (T t).queued = true) (htC : t ∉ C) (htb : base ≤ t) {j : Nat} (ht : IsTx w t ((T t).at j)) (htw : Kept (fun b => b = t) w1 w) (hw1 : w1.heap.size = w.heap.size)
    (hq2 : Que w2 base M 3 (mc.setIfInBounds 3 v') v' P' T) (hperm : P'.Perm (P ++ [t])) (hheap : HeapOK (LT T) (P.length + 1) (gd P')) (hk2 : Kept (HX M vp P t) w w2)
    (hv : v'.ownBlock = vp.ownBlock ∨ ∃ h, v'.ownBlock = some h ∧ w.heap.size ≤ h) : PlacePost w1 base M vp vc P C T t w2 := by
  have hlen : P'.length = P.length + 1 := by rw [hperm.length_eq]; simp
  have hmem : ∀ u, u ∈ P' → u ∈ P ∨ u = t := fun u hu => by
    have := hperm.mem_iff.1 hu
    simpa using this
  refine ⟨_, v', P', ⟨⟨hq2, ?_, ?_, ?_, ?_, h.fc, ?_, h.bc, ?_, h.hM⟩, ?_, hc⟩, hperm, ?_, ?_⟩
  · refine h.c.kept hk2 hq2.mer ?_ ?_ ?_
    · rw [Array.getElem?_setIfInBounds_ne (by omega)]
      exact h.c.var
    · rintro u hu (e | e | e | e)
      · obtain ⟨i, hi, _⟩ := h.c.memTx hu
        exact h.c.ne_mer hi e
      · exact htC (e ▸ hu)
      · exact h.dj u e hu
      · obtain ⟨i, hi, tt⟩ := h.c.memTx hu
        exact h.p.own_ne tt (by decide) e
    · rintro b hb (e | e | e | e)
      · exact h.c.own_ne h.c.mer (by decide) (e ▸ hb)
      · exact h.c.own_ne ht (by decide) (e ▸ hb)
      · obtain ⟨i, hi, tt⟩ := h.p.memTx e
        exact h.c.own_ne tt (by decide) hb
      · exact h.ar b e hb
  · intro u hu
    rcases hmem u hu with e | e
    · exact h.dj u e
    · exact e ▸ htC
  · intro b hb
    rcases hv with e | ⟨g, e, hg⟩
    · exact h.ar b (e ▸ hb)
    · rw [e] at hb
      cases hb
      intro hx
      have := (h.c.own_lt hx).2
      omega
  · intro u hu
    rcases hmem u hu with e | e
    · exact h.fp u e
    · exact e ▸ hqt
  · intro u hu
    rcases hmem u hu with e | e
    · exact h.bp u e
    · exact e ▸ htb
  · exact Nat.le_trans h.hb hk2.size
  · rw [hlen]; exact hheap
  · refine Kept.trans2 (htw.mono fun b _ e => Or.inr e) hk2 ?_
    rintro b _ (e | e | e | e)
    · exact Or.inl (Or.inl e)
    · exact Or.inr e
    · exact Or.inl (Or.inr (Or.inl e))
    · exact Or.inl (Or.inr (Or.inr (Or.inr (Or.inl e))))
  · rcases hv with e | ⟨g, e, hg⟩
    · exact Or.inl e
    · exact Or.inr ⟨g, e, by omega⟩

theorem MgQ.setFlag {w : World} {base M : Nat} {mc : Array Value} {vp vc : Value} {P C : List Nat} {T : Nat → Tx} {t : Nat} (h : MgQ w base M mc vp vc P C T) {x : Tx} (ht : IsTx w t x) (htP : t ∉ P) (htC : t ∉ C) (a : Addr) (ha : a.block = t) (u : Value) (y : Tx) : MgQ (w.setCell a u) base M mc vp vc P C (updT T t y) := by
  have hMt : M ≠ t := by
    rintro rfl
    have h1 := h.p.mer
    rw [show w.heap[M]? = _ from ht] at h1
    simp at h1
  have hk : Kept (fun b => b = t) w (w.setCell a u) := (Kept.refl _ w).setCell ha u
  have hm : (w.setCell a u).heap[M]? = some (.cells mc 71 (0, 0)) := by
    rw [Below.heap_setCell _ _ _ _ (by rw [ha]; exact hMt)]; exact h.p.mer
  refine ⟨?_, ?_, h.dj, h.ar, ?_, ?_, h.bp, h.bc, ?_, h.hM⟩
  · refine (h.p.kept hk hm h.p.var (fun b hb e => htP (e ▸ hb)) (fun b hb e => h.p.own_ne ht (by decide) (e ▸ hb))).congr ?_
    intro b hb
    exact updT_other _ _ (fun e => htP (e ▸ hb))
  · refine (h.c.kept hk hm h.c.var (fun b hb e => htC (e ▸ hb)) (fun b hb e => h.c.own_ne ht (by decide) (e ▸ hb))).congr ?_
    intro b hb
    exact updT_other _ _ (fun e => htC (e ▸ hb))
  · intro b hb
    rw [updT_other T y (b := b) (t := t) (fun e => htP (e ▸ hb))]; exact h.fp b hb
  · intro b hb
    rw [updT_other T y (b := b) (t := t) (fun e => htC (e ▸ hb))]; exact h.fc b hb
  · simpa [World.setCell] using h.hb

set_option maxRecDepth 100000 in
set_option maxHeartbeats 1000000 in
theorem place_new (w : World) (base M : Nat) (mc : Array Value) (vp vc : Value) (P C : List Nat) (T : Nat → Tx) (t j : Nat) (h : Mg w base M mc vp vc P C T)
    (ht : IsTx w t ((T t).at j)) (hq : (T t).queued = false) (htP : t ∉ P) (htC : t ∉ C) (htb : base ≤ t) (hbig : P.length < 1000000) :
    Calls Try.prog 38 #[.pointer (some ⟨M, 0, none⟩), .pointer (some ⟨t, 0, none⟩)] w fun e w' => e = .returned (.tuple #[]) ∧ PlacePost w base M vp vc P C (updT T t { T t with queued := true }) t w' := by
  have hc9 : w.cell? ⟨t, 9, none⟩ = some (.bool false) := by have := ht.c9; simpa [Tx.at, hq] using this
  have hf9 := ht.frozen 9
  have h1 : MgQ (w.setCell ⟨t, 9, none⟩ (.bool true)) base M mc vp vc P C (updT T t { T t with queued := true }) := h.toMgQ.setFlag ht htP htC ⟨t, 9, none⟩ rfl _ _
  have hlt := LT_queued T t true
  have ht1 : IsTx (w.setCell ⟨t, 9, none⟩ (.bool true)) t ((updT T t { T t with queued := true } t).at j) := by
    rw [updT_same]; exact ht.setQueued true
  have hpu := hide (hpush_any (w.setCell ⟨t, 9, none⟩ (.bool true)) base M 3 mc vp P _ t j h1.p ht1 htP hbig h1.hb (by rw [hlt]; exact h.hp))
  have hfin := hide (fun w2 v' P' hq2 hperm hheap hk2 hv => h1.placed_push (w1 := w) (w2 := w2) (v' := v') (P' := P') (by rw [hlt]; exact h.hc) (by rw [updT_same]) htC htb ht1
    (show Kept (fun b => b = t) w (w.setCell ⟨t, 9, none⟩ (.bool true)) from Kept.setCell (X := fun b => b = t) (Kept.refl _ w) (p := ⟨t, 9, none⟩) rfl _) (by simp [World.setCell]) hq2 hperm hheap hk2 hv)
  clear h h1 hlt ht1 ht
  go_enter Try.func38, Try.ntmps38
  go_wp2_with fail
  refine (unhide hpu).mono ?_
  rintro e w2 ⟨rfl, v', P', hq2, hperm, hheap, hk2, hv⟩
  have hpost := hide (unhide hfin w2 v' P' hq2 hperm hheap hk2 hv)
  clear hfin hpu hq2 hperm hheap hk2 hv
  go_wp2_with fail
  go_end0
  exact ⟨rfl, unhide hpost⟩

end Go.Proofs.Qxb6604710a
