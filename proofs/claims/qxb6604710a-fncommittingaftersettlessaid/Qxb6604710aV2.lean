import Derived.Test.Qxb6604710aV1
namespace Go.Proofs.Qxb6604710a
open Go.RowKit

theorem MgQ.nodupP {w : World} {base M : Nat} {mc : Array Value} {vp vc : Value} {P C : List Nat} {T : Nat → Tx} (h : MgQ w base M mc vp vc P C T) : P.Nodup := by
  unfold List.Nodup
  rw [List.pairwise_iff_getElem]
  intro a b ha hb hab e
  have := h.p.inj (i := a) (j := b) (t := P[a]) (List.getElem?_eq_getElem ha) (by rw [List.getElem?_eq_getElem hb]; exact congrArg some e.symm)
  omega
theorem MgQ.nodupC {w : World} {base M : Nat} {mc : Array Value} {vp vc : Value} {P C : List Nat} {T : Nat → Tx} (h : MgQ w base M mc vp vc P C T) : C.Nodup := by
  unfold List.Nodup
  rw [List.pairwise_iff_getElem]
  intro a b ha hb hab e
  have := h.c.inj (i := a) (j := b) (t := C[a]) (List.getElem?_eq_getElem ha) (by rw [List.getElem?_eq_getElem hb]; exact congrArg some e.symm)
  omega
theorem MgQ.nodup {w : World} {base M : Nat} {mc : Array Value} {vp vc : Value} {P C : List Nat} {T : Nat → Tx} (h : MgQ w base M mc vp vc P C T) : (P ++ C).Nodup := by
  rw [List.nodup_append]
  exact ⟨h.nodupP, h.nodupC, fun a ha b hb e => h.dj a ha (e ▸ hb)⟩

theorem nodup_inj {l : List Nat} (h : l.Nodup) {i j t : Nat} (hi : l[i]? = some t) (hj : l[j]? = some t) : i = j := by
  unfold List.Nodup at h
  rw [List.pairwise_iff_getElem] at h
  have h1 := lt_of_some hi
  have h2 := lt_of_some hj
  rw [List.getElem?_eq_getElem h1] at hi
  rw [List.getElem?_eq_getElem h2] at hj
  rcases Nat.lt_trichotomy i j with e | e | e
  · exact absurd ((Option.some.inj hi).trans (Option.some.inj hj).symm) (h i j h1 h2 e)
  · exact e
  · exact absurd ((Option.some.inj hj).trans (Option.some.inj hi).symm) (h j i h2 h1 e)

theorem RunAt.inj {w : World} {base M A S Cm n : Nat} {wr : World} {mc : Array Value} {vp vc : Value} {P C : List Nat} {T : Nat → Tx} {al : List Nat} {st cm : Nat → Int} (h : RunAt w base M A S Cm n wr mc vp vc P C T al st cm) {i j t : Nat} (hi : al[i]? = some t) (hj : al[j]? = some t) : i = j :=
  nodup_inj (h.perm.nodup_iff.1 h.mg.toMgQ.nodup) hi hj

/-- Behind ZZsetTxn of the transaction at place j and the store of its commits: what settle is handed. -/
theorem run_pre {w : World} {base M A S Cm n : Nat} {wr : World} {mc : Array Value} {vp vc : Value} {P C : List Nat} {T : Nat → Tx} {al : List Nat} {st cm : Nat → Int} (h : RunAt w base M A S Cm n wr mc vp vc P C T al st cm) (hn : n ≤ 4096) (hMC : M < Cm) (hCb : Cm < base)
    {t i j : Nat} (hi : P[i]? = some t) {ts voted c v : Int} {parts : Int} {pv : Value} (hv : IsParts parts pv) (h1 : 0 ≤ c) (h2 : c ≤ 536870912) (h3 : 0 ≤ v) (h4 : v ≤ 536870912) {w6 : World}
    (hk : Kept (fun b => b = t) wr w6) (ht : IsTx w6 t (((T t).at i).set ts voted c v pv)) (u : Value) :
    SetPre (w6.setCell ⟨Cm, j, none⟩ u) base M mc vp vc P C (updT T t ((T t).set ts voted c v pv)) T t parts ∧ t ∈ P := by
  have htP := List.mem_of_getElem? hi
  have htC : t ∉ C := h.mg.dj t htP
  have hy : ((T t).set ts voted c v pv).queued = true := h.mg.fp t htP
  have hq := h.mg.toMgQ.setTx hi htC hk (show IsTx w6 t (((T t).set ts voted c v pv).at i) from ht) hy
  have hk2 : Kept (fun b => b = Cm) w6 (w6.setCell ⟨Cm, j, none⟩ u) := Kept.setCell (X := fun b => b = Cm) (Kept.refl _ _) (p := ⟨Cm, j, none⟩) rfl _
  have hq2 := hq.kept hk2 (fun b hb e => by rcases hq.mx_ge hb with e2 | e2 <;> omega)
  have hlen := h.perm.length_eq
  have hl2 := h.len
  simp at hlen
  refine ⟨⟨hq2, heapOK_congr h.mg.hc (fun b hb => updT_other _ _ (fun e => htC (e ▸ hb))), h.mg.hp, fun b hb => updT_other _ _ hb, htC, h.mg.bp t htP, ?_, ?_, ?_, ?_, ?_, by omega, by omega⟩, htP⟩
  · rw [updT_same]; exact hv
  · rw [updT_same]; exact h1
  · rw [updT_same]; exact h2
  · rw [updT_same]; exact h3
  · rw [updT_same]; exact h4

theorem run_perm {P C P' C' : List Nat} {t : Nat} {dn : Bool} (ht : t ∈ P) (hp : P'.Perm (if dn then P.erase t else P.erase t ++ [t])) (hc : C'.Perm (if dn then C ++ [t] else C)) : (P' ++ C').Perm (P ++ C) := by
  have h0 : P.Perm (P.erase t ++ [t]) := (List.perm_cons_erase ht).trans (List.perm_append_comm (l₁ := [t]) (l₂ := P.erase t))
  cases dn with
  | true =>
    simp only [if_true] at hp hc
    refine (hp.append hc).trans ?_
    refine List.Perm.trans ?_ (h0.append_right C).symm
    rw [List.append_assoc]
    exact List.Perm.append_left _ (List.perm_append_comm (l₁ := C) (l₂ := [t]))
  | false =>
    simp only [Bool.false_eq_true, if_false] at hp hc
    exact (hp.append hc).trans (h0.append_right C).symm

/-- Behind settle and the store of the state: the relation of the next step. -/
theorem run_step {w : World} {base M A S Cm n : Nat} {wr : World} {mc : Array Value} {vp vc : Value} {P C : List Nat} {T : Nat → Tx} {al : List Nat} {st cm : Nat → Int} (h : RunAt w base M A S Cm n wr mc vp vc P C T al st cm) (hMw : w.heap.size ≤ M) (hMA : M < A) (hAS : A < S) (hSC : S < Cm) (hCb : Cm < base)
    {t j : Nat} (hj : al[j]? = some t) (htP : t ∈ P) {ts voted c v : Int} {pv : Value} {w6 w8 : World}
    (hk : Kept (fun b => b = t) wr w6) (dn : Bool)
    (hs : SettlePost (w6.setCell ⟨Cm, j, none⟩ (.int .i64 c)) base M vp vc P C (updT T t ((T t).set ts voted c v pv)) t dn w8) :
    ∃ mc' vp' vc' P' C' T', RunAt w base M A S Cm n (w8.setCell ⟨S, j, none⟩ (.int .i8 (if dn then 2 else 1))) mc' vp' vc' P' C' T' al (fun k => if k = j then (if dn then 2 else 1) else st k) (fun k => if k = j then c else cm k) := by
  obtain ⟨mc', vp', vc', P', C', hmg, hp, hc, hk8⟩ := hs
  have htC : t ∉ C := h.mg.dj t htP
  have htb := h.mg.bp t htP
  have hjn : j < n := by have := lt_of_some hj; have := h.len; omega
  have hk2 : Kept (fun b => b = Cm) w6 (w6.setCell ⟨Cm, j, none⟩ (.int .i64 c)) := Kept.setCell (X := fun b => b = Cm) (Kept.refl _ _) (p := ⟨Cm, j, none⟩) rfl _
  have hk9 : Kept (fun b => b = S) w8 (w8.setCell ⟨S, j, none⟩ (.int .i8 (if dn then 2 else 1))) := Kept.setCell (X := fun b => b = S) (Kept.refl _ _) (p := ⟨S, j, none⟩) rfl _
  have nX : ∀ b, b < base → b ≠ M → ¬ (MX M vp vc P C b ∨ b = t) := by
    rintro b hb hbM (e | e)
    · rcases h.mg.mx_ge e with e | e <;> omega
    · omega
  refine ⟨mc', vp', vc', P', C', _, hmg.kept hk9 (fun b hb e => by rcases hmg.mx_ge hb with e2 | e2 <;> omega), (run_perm htP hp hc).trans h.perm, h.len, ?_, ?_, ?_, ?_, ?_, ?_⟩
  · exact (((h.arr.kept hk (by omega)).kept hk2 (by omega)).kept hk8 (nX A (by omega) (by omega))).kept hk9 (by omega)
  · have hst := ((h.sta.kept hk (by omega)).kept hk2 (by omega)).kept hk8 (nX S (by omega) (by omega))
    have := hst.store (v := .int .i8 (if dn then 2 else 1)) hjn
    obtain ⟨cs, g1, g2, g3⟩ := this
    refine ⟨cs, g1, g2, fun k hk => ?_⟩
    rw [g3 k hk]
    by_cases e : k = j <;> simp [e]
  · have hcm := (h.cma.kept hk (by omega)).store (v := .int .i64 c) hjn
    have hcm2 := (hcm.kept hk8 (nX Cm hCb (by omega))).kept hk9 (by omega)
    obtain ⟨cs, g1, g2, g3⟩ := hcm2
    refine ⟨cs, g1, g2, fun k hk => ?_⟩
    rw [g3 k hk]
    by_cases e : k = j <;> simp [e]
  · intro k u hu
    by_cases e : k = j
    · subst e
      rw [hj] at hu
      cases hu
      cases dn with
      | true => exact Or.inr ⟨by simp, hc.mem_iff.2 (by simp)⟩
      | false => exact Or.inl ⟨by simp, hp.mem_iff.2 (by simp)⟩
    · have hut : u ≠ t := fun e2 => e (h.inj hu (e2 ▸ hj))
      simp only [if_neg e]
      rcases h.stP k u hu with ⟨g1, g2⟩ | ⟨g1, g2⟩
      · refine Or.inl ⟨g1, hp.mem_iff.2 ?_⟩
        have := (List.mem_erase_of_ne hut).2 g2
        cases dn with
        | true => exact this
        | false => exact List.mem_append.2 (Or.inl this)
      · refine Or.inr ⟨g1, hc.mem_iff.2 ?_⟩
        cases dn with
        | true => exact List.mem_append.2 (Or.inl g2)
        | false => exact g2
  · intro k u hu
    by_cases e : k = j
    · subst e
      rw [hj] at hu
      cases hu
      rw [updT_same, updT_same]
      simp [Tx.set]
    · have hut : u ≠ t := fun e2 => e (h.inj hu (e2 ▸ hj))
      simp only [if_neg e]
      rw [updT_other _ _ hut, updT_other _ _ hut]
      exact h.cmT k u hu
  · have b1 : Below w.heap.size w w6 := h.bel.trans (hk.below h.bel.size (by intro b e; have := h.bel.size; have := h.mg.hM; omega))
    have b2 : Below w.heap.size w (w6.setCell ⟨Cm, j, none⟩ (.int .i64 c)) := b1.setCell (by show w.heap.size ≤ Cm; omega) _
    have b3 : Below w.heap.size w w8 := b2.trans (hk8.below b2.size (by
      rintro b (e | e)
      · rcases h.mg.mx_ge e with e | e <;> omega
      · omega))
    exact b3.setCell (by show w.heap.size ≤ S; omega) _

end Go.Proofs.Qxb6604710a
