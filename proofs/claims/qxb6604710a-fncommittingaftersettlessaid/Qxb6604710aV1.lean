import Derived.Test.Qxb6604710aU3
import Derived.Deep.RegionHeld3
namespace Go.Proofs.Qxb6604710a
open Go.RowKit

/-- An array of the call's own: its first i cells hold f. -/
def ArrAt (w : World) (B : Nat) (e : TypeId) (n : Nat) (f : Nat → Value) (i : Nat) : Prop := ∃ cs : Array Value, w.heap[B]? = some (.cells cs e (0, 0)) ∧ cs.size = n ∧ ∀ k : Nat, k < i → cs[k]? = some (f k)

section
variable {w w' : World} {B n i : Nat} {e : TypeId} {f : Nat → Value}
theorem ArrAt.cell (h : ArrAt w B e n f i) {k : Nat} (hk : k < i) : w.cell? ⟨B, k, none⟩ = some (f k) := by
  obtain ⟨cs, hh, _, hc⟩ := h
  unfold World.cell?
  simp [hh, hc k hk]
theorem ArrAt.fz (h : ArrAt w B e n f i) (k : Nat) : w.frozen? ⟨B, k, none⟩ = false := by
  obtain ⟨cs, hh, _, hc⟩ := h
  unfold World.frozen?
  simp [hh]
theorem ArrAt.some (h : ArrAt w B e n f i) {k : Nat} (hk : k < n) : ∃ v, w.cell? ⟨B, k, none⟩ = some v := by
  obtain ⟨cs, hh, hs, hc⟩ := h
  exact ⟨cs[k], by unfold World.cell?; simp [hh, hs, hk]⟩
theorem ArrAt.lt (h : ArrAt w B e n f i) : B < w.heap.size := by
  obtain ⟨cs, hh, hs, hc⟩ := h
  rcases Nat.lt_or_ge B w.heap.size with h1 | h1
  · exact h1
  · rw [Array.getElem?_eq_none h1] at hh; cases hh
theorem ArrAt.kept (h : ArrAt w B e n f i) {X : Nat → Prop} (hk : Kept X w w') (hx : ¬ X B) : ArrAt w' B e n f i := by
  have hl := h.lt
  obtain ⟨cs, hh, hs, hc⟩ := h
  exact ⟨cs, (hk.block B hl hx).trans hh, hs, hc⟩
theorem ArrAt.below (h : ArrAt w B e n f i) (hb : Below w.heap.size w w') : ArrAt w' B e n f i := h.kept (Kept.of_below (X := fun _ => False) hb) id
theorem ArrAt.store1 (h : ArrAt w B e n f i) {v : Value} (hi : i < n) (hv : f i = v) : ArrAt (w.setCell ⟨B, i, none⟩ v) B e n f (i + 1) := by
  obtain ⟨cs, hh, hs, hc⟩ := h
  refine ⟨cs.setIfInBounds i v, ?_, by simp [hs], ?_⟩
  · simp only [World.setCell, Array.getElem?_modify, if_true, hh]
    simp
  · intro k hk
    by_cases e : k = i
    · subst e
      simp [hs, hi, hv]
    · rw [Array.getElem?_setIfInBounds_ne (by omega)]
      exact hc k (by omega)
theorem ArrAt.store (h : ArrAt w B e n f n) {v : Value} {j : Nat} (hj : j < n) : ArrAt (w.setCell ⟨B, j, none⟩ v) B e n (fun k => if k = j then v else f k) n := by
  obtain ⟨cs, hh, hs, hc⟩ := h
  refine ⟨cs.setIfInBounds j v, ?_, by simp [hs], ?_⟩
  · simp only [World.setCell, Array.getElem?_modify, if_true, hh]
    simp
  · intro k hk
    by_cases e : k = j
    · subst e
      simp [hs, hj]
    · rw [Array.getElem?_setIfInBounds_ne (by omega)]
      show _ = Option.some (if k = j then v else f k)
      rw [if_neg e]
      exact hc k hk
theorem ArrAt.of_own {base : Nat} {xs : List Value} {c : Nat} (h : w.ownsRow base e 1 (.slice (Option.some ⟨B, 0, none⟩) n c) n xs) (hc : c = n) (f : Nat → Value) : ArrAt w B e n f 0 := by
  subst hc
  rcases h.2 with ⟨h1, _⟩ | ⟨g, cap, cur, hv, _, hh, _, _, hs, _⟩
  · cases h1
  · simp at hv
    obtain ⟨rfl, rfl⟩ := hv
    exact ⟨cur, hh, by simpa using hs, fun k hk => by omega⟩
end

theorem PlAll.kept {w : World} {base M A n : Nat} {Z : Nat → Nat → Int} {i : Nat} {wr w' : World} {mc : Array Value} {vp : Value} {P : List Nat} {T : Nat → Tx} {al : List Nat} (h : PlAll w base M A n Z i wr mc vp P T al) {X : Nat → Prop} (hk : Kept X wr w') (hx : ∀ b, MX M vp (.slice none 0 0) P [] b → ¬ X b) (hA : ¬ X A) (hX : ∀ b, X b → w.heap.size ≤ b) : PlAll w base M A n Z i w' mc vp P T al :=
  ⟨h.mg.kept hk hx, h.perm, h.len, h.arr.kept hk hA, h.bel.trans (hk.below h.bel.size hX), h.com⟩

/-- 'placeAll', and what it leaves alone. -/
theorem placeAll2 {w : World} {base M A n : Nat} {Z : Nat → Nat → Int} {i : Nat} {wr : World} {mc : Array Value} {vp : Value} {P : List Nat} {T : Nat → Tx} {al : List Nat} (h : PlAll w base M A n Z i wr mc vp P T al)
    (hMw : w.heap.size ≤ M) (hAM : M < A) (hAb : A < base) (hin : i < n) (hn : n ≤ 4096) {W : World} (hWb : Below wr.heap.size wr W) (x : Tx) (hx : x.queued = false) (hx0 : x.index = 0) (hxc : x.commits = Z i 4) :
    Calls Try.prog 12 #[.pointer (some ⟨M, 0, none⟩), .pointer (some ⟨W.heap.size, 0, none⟩)] ((W.alloc (.cells x.cells 76)).setCell ⟨A, i, none⟩ (.pointer (some ⟨W.heap.size, 0, none⟩))) fun e w' => e = .returned (.tuple #[]) ∧
      (∃ mc' vp' P' T', PlAll w base M A n Z (i + 1) w' mc' vp' P' T' (al ++ [W.heap.size])) ∧ Kept (fun b => b = A ∨ MX M vp (.slice none 0 0) P [] b) W w' := by
  obtain ⟨hmg, hperm, hlen, harr, hbel, hcom⟩ := h
  have hs := hWb.size
  have hs2 := hbel.size
  have hAl := harr.lt
  have hmW := hmg.below hWb
  have hbW : base ≤ W.heap.size := hmW.hb
  have nP : W.heap.size ∉ P := fun e => by have := hmW.memP_lt e; omega
  have hb2 : Below W.heap.size W (W.alloc (.cells x.cells 76)) := (Below.refl _ _).alloc (Nat.le_refl _) _
  have nA : ∀ b, MX M vp (.slice none 0 0) P [] b → ¬ (b = A) := by
    intro b hb e
    rcases hmg.mx_ge hb with e2 | e2 <;> omega
  have hk1 : Kept (fun b => b = A) (W.alloc (.cells x.cells 76)) ((W.alloc (.cells x.cells 76)).setCell ⟨A, i, none⟩ (.pointer (some ⟨W.heap.size, 0, none⟩))) :=
    Kept.setCell (X := fun b => b = A) (Kept.refl _ _) (p := ⟨A, i, none⟩) rfl _
  have hm2 : Mg ((W.alloc (.cells x.cells 76)).setCell ⟨A, i, none⟩ (.pointer (some ⟨W.heap.size, 0, none⟩))) base M mc vp (.slice none 0 0) P [] (updT T W.heap.size x) :=
    ((hmW.below hb2).kept hk1 nA).congr (fun t ht => updT_other _ _ (fun e => nP (e ▸ ht))) (fun t ht => by simp at ht)
  have ht2 : IsTx ((W.alloc (.cells x.cells 76)).setCell ⟨A, i, none⟩ (.pointer (some ⟨W.heap.size, 0, none⟩))) W.heap.size ((updT T W.heap.size x W.heap.size).at 0) := by
    rw [updT_same]
    have e : x.at 0 = x := by unfold Tx.at; cases x; simp at hx0 ⊢; exact hx0.symm
    rw [e]
    refine IsTx.other (a := ⟨A, i, none⟩) ?_ (by show W.heap.size ≠ A; omega) _
    exact heap_alloc_new W _
  have harr2 : AllAt ((W.alloc (.cells x.cells 76)).setCell ⟨A, i, none⟩ (.pointer (some ⟨W.heap.size, 0, none⟩))) A n (al ++ [W.heap.size]) := by
    have h1 := (harr.below hWb).below hb2
    have h2 := h1.store W.heap.size (by omega)
    rw [hlen] at h2
    exact h2
  have hbel2 : Below w.heap.size w ((W.alloc (.cells x.cells 76)).setCell ⟨A, i, none⟩ (.pointer (some ⟨W.heap.size, 0, none⟩))) := by
    have b1 : Below w.heap.size w W := hbel.trans (hWb.mono hs2)
    exact (b1.alloc (by omega) _).setCell (by show w.heap.size ≤ A; omega) _
  have hPl : P.length = i := by rw [hperm.length_eq]; exact hlen
  have hz := zzplace_new _ base M mc vp (.slice none 0 0) P [] (updT T W.heap.size x) W.heap.size 0 hm2 ht2 (by rw [updT_same]; exact hx) nP (by simp) hbW (by omega)
  rw [updT_updT, updT_same] at hz
  refine hz.mono ?_
  rintro e w3 ⟨he, mc', vp', P', hmg3, hperm3, hk3, _⟩
  refine ⟨he, ⟨mc', vp', P', _, hmg3, hperm3.trans (hperm.append_right _), by simp [hlen], ?_, ?_, ?_⟩, ?_⟩
  · refine harr2.kept hk3 ?_
    rintro (e | e)
    · exact nA A e rfl
    · omega
  · refine hbel2.trans (hk3.below hbel2.size ?_)
    rintro b (e | e)
    · rcases hmg.mx_ge e with e | e <;> omega
    · omega
  · intro k t hk
    rw [List.getElem?_append] at hk
    split at hk
    · have hm := hperm.mem_iff.2 (List.mem_of_getElem? hk)
      rw [updT_other T _ (b := t) (t := W.heap.size) (fun e => nP (e ▸ hm))]
      exact hcom k t hk
    · rename_i hkl
      have hk2 : k = i := by
        rcases Nat.lt_or_ge k (al.length + 1) with h1 | h1
        · omega
        · rw [List.getElem?_eq_none (by simp; omega)] at hk; cases hk
      subst hk2
      simp [hlen] at hk
      subst hk
      rw [updT_same]
      exact hxc
  · refine Kept.trans2 (Kept.of_below (X := fun b => b = A ∨ MX M vp (.slice none 0 0) P [] b) hb2) ((hk1.mono fun b _ e => Or.inl e).trans2 hk3 (X := fun b => b = A ∨ MX M vp (.slice none 0 0) P [] b ∨ b = W.heap.size) ?_) ?_
    · rintro b _ (e | e)
      · exact Or.inr (Or.inl e)
      · exact Or.inr (Or.inr e)
    · rintro b hb (e | e | e)
      · exact Or.inl e
      · exact Or.inr e
      · omega

/-- What the first loop of zzRunScript keeps. -/
structure PlRun (w : World) (base M A S Cm n : Nat) (Z : Nat → Nat → Int) (i : Nat) (wr : World) (mc : Array Value) (vp : Value) (P : List Nat) (T : Nat → Tx) (al : List Nat) : Prop where
  pl : PlAll w base M A n Z i wr mc vp P T al
  sta : ArrAt wr S 48 n (fun _ => .int .i8 1) i
  cma : ArrAt wr Cm 3 n (fun k => .int .i64 (Z k 4)) i

/-- zzRunScript's state between the steps. -/
structure RunAt (w : World) (base M A S Cm n : Nat) (wr : World) (mc : Array Value) (vp vc : Value) (P C : List Nat) (T : Nat → Tx) (al : List Nat) (st cm : Nat → Int) : Prop where
  mg : Mg wr base M mc vp vc P C T
  perm : (P ++ C).Perm al
  len : al.length = n
  arr : AllAt wr A n al
  sta : ArrAt wr S 48 n (fun k => .int .i8 (st k)) n
  cma : ArrAt wr Cm 3 n (fun k => .int .i64 (cm k)) n
  stP : ∀ k t : Nat, al[k]? = some t → (st k = 1 ∧ t ∈ P) ∨ (st k = 2 ∧ t ∈ C)
  cmT : ∀ k t : Nat, al[k]? = some t → (T t).commits = cm k
  bel : Below w.heap.size w wr

theorem PlRun.run {w : World} {base M A S Cm n : Nat} {Z : Nat → Nat → Int} {wr : World} {mc : Array Value} {vp : Value} {P : List Nat} {T : Nat → Tx} {al : List Nat} (h : PlRun w base M A S Cm n Z n wr mc vp P T al) :
    RunAt w base M A S Cm n wr mc vp (.slice none 0 0) P [] T al (fun _ => 1) (fun k => Z k 4) :=
  ⟨h.pl.mg, by simpa using h.pl.perm, h.pl.len, h.pl.arr, h.sta, h.cma, fun k t hk => Or.inl ⟨rfl, h.pl.perm.mem_iff.2 (List.mem_of_getElem? hk)⟩, h.pl.com, h.pl.bel⟩

theorem RunAt.below {w : World} {base M A S Cm n : Nat} {wr w' : World} {mc : Array Value} {vp vc : Value} {P C : List Nat} {T : Nat → Tx} {al : List Nat} {st cm : Nat → Int} (h : RunAt w base M A S Cm n wr mc vp vc P C T al st cm) (hb : Below wr.heap.size wr w') : RunAt w base M A S Cm n w' mc vp vc P C T al st cm :=
  ⟨h.mg.below hb, h.perm, h.len, h.arr.below hb, h.sta.below hb, h.cma.below hb, h.stP, h.cmT, h.bel.trans (hb.mono h.bel.size)⟩

end Go.Proofs.Qxb6604710a
