import Derived.Test.Qxb6604710aT6
import Derived.Deep.DeepCutAuto
namespace Go.Proofs.Qxb6604710a
open Go.RowKit

theorem settle_any (w : World) (base M : Nat) (mc : Array Value) (vp vc : Value) (P C : List Nat) (T T0 : Nat → Tx) (t : Nat) (parts : Int) (h : SetPre w base M mc vp vc P C T T0 t parts)
    (hin : t ∈ P ∨ (t ∉ P ∧ (T t).queued = false ∧ ∃ j, IsTx w t ((T t).at j))) :
    Calls Try.prog 39 #[.pointer (some ⟨M, 0, none⟩), .pointer (some ⟨t, 0, none⟩)] w fun e w' => e = .returned (.tuple #[]) ∧ SettlePost w base M vp vc P C T t (doneB (T t).commits (T t).votes parts) w' := by
  cases hd : doneB (T t).commits (T t).votes parts with
  | true =>
    rcases hin with ht | ⟨ht, hq, j, hj⟩
    · exact settle_queued_done w base M mc vp vc P C T T0 t parts h ht hd
    · exact settle_new_done w base M mc vp vc P C T T0 t j parts h ht hq hj hd
  | false =>
    rcases hin with ht | ⟨ht, hq, j, hj⟩
    · exact settle_queued_not w base M mc vp vc P C T T0 t parts h ht hd
    · exact settle_new_not w base M mc vp vc P C T T0 t j parts h ht hq hj hd

set_option maxHeartbeats 400000 in
theorem zzsettle_any (w : World) (base M : Nat) (mc : Array Value) (vp vc : Value) (P C : List Nat) (T T0 : Nat → Tx) (t : Nat) (parts : Int) (h : SetPre w base M mc vp vc P C T T0 t parts)
    (hin : t ∈ P ∨ (t ∉ P ∧ (T t).queued = false ∧ ∃ j, IsTx w t ((T t).at j))) :
    Calls Try.prog 14 #[.pointer (some ⟨M, 0, none⟩), .pointer (some ⟨t, 0, none⟩)] w fun e w' => e = .returned (.tuple #[]) ∧ SettlePost w base M vp vc P C T t (doneB (T t).commits (T t).votes parts) w' := by
  have hs := hide (settle_any w base M mc vp vc P C T T0 t parts h hin)
  clear h hin
  go_enter Try.func14, Try.ntmps14
  go_wp2_with fail
  refine (unhide hs).mono ?_
  rintro e w' ⟨rfl, hpost⟩
  have H := hide hpost
  clear hpost hs
  go_wp2_with fail
  go_end0
  exact ⟨rfl, unhide H⟩

theorem MgQ.kept {w w' : World} {base M : Nat} {mc : Array Value} {vp vc : Value} {P C : List Nat} {T : Nat → Tx} (h : MgQ w base M mc vp vc P C T) {X : Nat → Prop} (hk : Kept X w w') (hx : ∀ b, MX M vp vc P C b → ¬ X b) : MgQ w' base M mc vp vc P C T := by
  have hm : w'.heap[M]? = some (.cells mc 71 (0, 0)) := (hk.block M h.p.ltM (hx M (Or.inl rfl))).trans h.p.mer
  exact ⟨h.p.kept hk hm h.p.var (fun t ht => hx t (Or.inr (Or.inl ht))) (fun b hb => hx b (Or.inr (Or.inr (Or.inr (Or.inl hb))))),
    h.c.kept hk hm h.c.var (fun t ht => hx t (Or.inr (Or.inr (Or.inl ht)))) (fun b hb => hx b (Or.inr (Or.inr (Or.inr (Or.inr hb))))),
    h.dj, h.ar, h.fp, h.fc, h.bp, h.bc, Nat.le_trans h.hb hk.size, h.hM⟩
theorem Mg.kept {w w' : World} {base M : Nat} {mc : Array Value} {vp vc : Value} {P C : List Nat} {T : Nat → Tx} (h : Mg w base M mc vp vc P C T) {X : Nat → Prop} (hk : Kept X w w') (hx : ∀ b, MX M vp vc P C b → ¬ X b) : Mg w' base M mc vp vc P C T :=
  ⟨h.toMgQ.kept hk hx, h.hp, h.hc⟩

/-- The law's own array of all transactions. -/
def AllAt (w : World) (A n : Nat) (al : List Nat) : Prop := ∃ cs : Array Value, w.heap[A]? = some (.cells cs 30 (0, 0)) ∧ cs.size = n ∧ ∀ k t : Nat, al[k]? = some t → cs[k]? = some (ptr t)

theorem AllAt.cell {w : World} {A n : Nat} {al : List Nat} (h : AllAt w A n al) {k t : Nat} (hk : al[k]? = some t) : w.cell? ⟨A, k, none⟩ = some (.pointer (some ⟨t, 0, none⟩)) := by
  obtain ⟨cs, hh, _, hc⟩ := h
  unfold World.cell?
  simp [hh, hc k t hk, ptr]
theorem AllAt.fz {w : World} {A n : Nat} {al : List Nat} (h : AllAt w A n al) (k : Nat) : w.frozen? ⟨A, k, none⟩ = false := by
  obtain ⟨cs, hh, _, hc⟩ := h
  unfold World.frozen?
  simp [hh]
theorem AllAt.some {w : World} {A n : Nat} {al : List Nat} (h : AllAt w A n al) {k : Nat} (hk : k < n) : ∃ v, w.cell? ⟨A, k, none⟩ = some v := by
  obtain ⟨cs, hh, hs, hc⟩ := h
  exact ⟨cs[k], by unfold World.cell?; simp [hh, hs, hk]⟩
theorem AllAt.lt {w : World} {A n : Nat} {al : List Nat} (h : AllAt w A n al) : A < w.heap.size := by
  obtain ⟨cs, hh, hs, hc⟩ := h
  rcases Nat.lt_or_ge A w.heap.size with h1 | h1
  · exact h1
  · rw [Array.getElem?_eq_none h1] at hh; cases hh
theorem AllAt.kept {w w' : World} {A n : Nat} {al : List Nat} (h : AllAt w A n al) {X : Nat → Prop} (hk : Kept X w w') (hx : ¬ X A) : AllAt w' A n al := by
  have hl := h.lt
  obtain ⟨cs, hh, hs, hc⟩ := h
  exact ⟨cs, (hk.block A hl hx).trans hh, hs, hc⟩
theorem AllAt.below {w w' : World} {A n : Nat} {al : List Nat} (h : AllAt w A n al) (hb : Below w.heap.size w w') : AllAt w' A n al := h.kept (Kept.of_below (X := fun _ => False) hb) id
theorem AllAt.store {w : World} {A n : Nat} {al : List Nat} (h : AllAt w A n al) (t : Nat) (hi : al.length < n) : AllAt (w.setCell ⟨A, al.length, none⟩ (ptr t)) A n (al ++ [t]) := by
  obtain ⟨cs, hh, hs, hc⟩ := h
  refine ⟨cs.setIfInBounds al.length (ptr t), ?_, by simp [hs], ?_⟩
  · simp only [World.setCell, Array.getElem?_modify, if_true, hh]
    simp
  · intro k u hu
    rw [List.getElem?_append] at hu
    split at hu
    · rename_i hk
      rw [Array.getElem?_setIfInBounds_ne (by omega)]
      exact hc k u hu
    · rename_i hk
      have hk2 : k = al.length := by
        rcases Nat.lt_or_ge k (al.length + 1) with h1 | h1
        · omega
        · rw [List.getElem?_eq_none (by simp; omega)] at hu; cases hu
      subst hk2
      simp at hu
      subst hu
      simp [hs, hi]

/-- What the loop that fills 'all' and places keeps. -/
structure PlAll (w : World) (base M A n : Nat) (Z : Nat → Nat → Int) (i : Nat) (wr : World) (mc : Array Value) (vp : Value) (P : List Nat) (T : Nat → Tx) (al : List Nat) : Prop where
  mg : Mg wr base M mc vp (.slice none 0 0) P [] T
  perm : P.Perm al
  len : al.length = i
  arr : AllAt wr A n al
  bel : Below w.heap.size w wr
  com : ∀ k t, al[k]? = some t → (T t).commits = Z k 4

/-- A transaction just made, laid into 'all' and placed. -/
theorem placeAll {w : World} {base M A n : Nat} {Z : Nat → Nat → Int} {i : Nat} {wr : World} {mc : Array Value} {vp : Value} {P : List Nat} {T : Nat → Tx} {al : List Nat} (h : PlAll w base M A n Z i wr mc vp P T al)
    (hMw : w.heap.size ≤ M) (hAM : M < A) (hAb : A < base) (hin : i < n) (hn : n ≤ 4096) {W : World} (hWb : Below wr.heap.size wr W) (x : Tx) (hx : x.queued = false) (hx0 : x.index = 0) (hxc : x.commits = Z i 4) :
    Calls Try.prog 12 #[.pointer (some ⟨M, 0, none⟩), .pointer (some ⟨W.heap.size, 0, none⟩)] ((W.alloc (.cells x.cells 76)).setCell ⟨A, i, none⟩ (.pointer (some ⟨W.heap.size, 0, none⟩))) fun e w' => e = .returned (.tuple #[]) ∧
      ∃ mc' vp' P' T', PlAll w base M A n Z (i + 1) w' mc' vp' P' T' (al ++ [W.heap.size]) := by
  obtain ⟨hmg, hperm, hlen, harr, hbel, hcom⟩ := h
  have hs := hWb.size
  have hs2 := hbel.size
  have hAl := harr.lt
  have hmW := hmg.below hWb
  have hbW : base ≤ W.heap.size := hmW.hb
  have nP : W.heap.size ∉ P := fun e => by have := hmW.memP_lt e; omega
  have hb2 : Below W.heap.size W (W.alloc (.cells x.cells 76)) := (Below.refl _ _).alloc (Nat.le_refl _) _
  have nA : ∀ b, MX M vp (.slice none 0 0) P [] b → ¬ (b = A) := by
    intro b hb e
    rcases hmg.mx_ge hb with e2 | e2 <;> omega
  have hk1 : Kept (fun b => b = A) (W.alloc (.cells x.cells 76)) ((W.alloc (.cells x.cells 76)).setCell ⟨A, i, none⟩ (.pointer (some ⟨W.heap.size, 0, none⟩))) :=
    Kept.setCell (X := fun b => b = A) (Kept.refl _ _) (p := ⟨A, i, none⟩) rfl _
  have hm2 : Mg ((W.alloc (.cells x.cells 76)).setCell ⟨A, i, none⟩ (.pointer (some ⟨W.heap.size, 0, none⟩))) base M mc vp (.slice none 0 0) P [] (updT T W.heap.size x) :=
    ((hmW.below hb2).kept hk1 nA).congr (fun t ht => updT_other _ _ (fun e => nP (e ▸ ht))) (fun t ht => by simp at ht)
  have ht2 : IsTx ((W.alloc (.cells x.cells 76)).setCell ⟨A, i, none⟩ (.pointer (some ⟨W.heap.size, 0, none⟩))) W.heap.size ((updT T W.heap.size x W.heap.size).at 0) := by
    rw [updT_same]
    have e : x.at 0 = x := by unfold Tx.at; cases x; simp at hx0 ⊢; exact hx0.symm
    rw [e]
    refine IsTx.other (a := ⟨A, i, none⟩) ?_ (by show W.heap.size ≠ A; omega) _
    exact heap_alloc_new W _
  have harr2 : AllAt ((W.alloc (.cells x.cells 76)).setCell ⟨A, i, none⟩ (.pointer (some ⟨W.heap.size, 0, none⟩))) A n (al ++ [W.heap.size]) := by
    have h1 := (harr.below hWb).below hb2
    have h2 := h1.store W.heap.size (by omega)
    rw [hlen] at h2
    exact h2
  have hbel2 : Below w.heap.size w ((W.alloc (.cells x.cells 76)).setCell ⟨A, i, none⟩ (.pointer (some ⟨W.heap.size, 0, none⟩))) := by
    have b1 : Below w.heap.size w W := hbel.trans (hWb.mono hs2)
    exact (b1.alloc (by omega) _).setCell (by show w.heap.size ≤ A; omega) _
  have hPl : P.length = i := by rw [hperm.length_eq]; exact hlen
  have hz := zzplace_new _ base M mc vp (.slice none 0 0) P [] (updT T W.heap.size x) W.heap.size 0 hm2 ht2 (by rw [updT_same]; exact hx) nP (by simp) hbW (by omega)
  rw [updT_updT, updT_same] at hz
  refine hz.mono ?_
  rintro e w3 ⟨he, mc', vp', P', hmg3, hperm3, hk3, _⟩
  refine ⟨he, mc', vp', P', _, hmg3, hperm3.trans (hperm.append_right _), by simp [hlen], ?_, ?_, ?_⟩
  · refine harr2.kept hk3 ?_
    rintro (e | e)
    · exact nA A e rfl
    · omega
  · refine hbel2.trans (hk3.below hbel2.size ?_)
    rintro b (e | e)
    · rcases hmg.mx_ge e with e | e <;> omega
    · omega
  · intro k t hk
    rw [List.getElem?_append] at hk
    split at hk
    · have hm := hperm.mem_iff.2 (List.mem_of_getElem? hk)
      rw [updT_other T _ (b := t) (t := W.heap.size) (fun e => nP (e ▸ hm))]
      exact hcom k t hk
    · rename_i hkl
      have hk2 : k = i := by
        rcases Nat.lt_or_ge k (al.length + 1) with h1 | h1
        · omega
        · rw [List.getElem?_eq_none (by simp; omega)] at hk; cases hk
      subst hk2
      simp [hlen] at hk
      subst hk
      rw [updT_same]
      exact hxc

end Go.Proofs.Qxb6604710a
