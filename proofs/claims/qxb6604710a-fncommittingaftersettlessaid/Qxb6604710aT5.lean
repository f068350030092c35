import Derived.Test.Qxb6604710aT4
namespace Go.Proofs.Qxb6604710a
open Go.RowKit

/-- What is left behind 'unplace' of a transaction that was in 'placed'. -/
def UnplPost (w : World) (base M : Nat) (vp vc : Value) (P C : List Nat) (T : Nat → Tx) (n t : Nat) (w' : World) : Prop :=
  ∃ mc1 vp1 P1, MgQ w' base M mc1 vp1 vc P1 C T ∧ (P1 ++ [t]).Perm P ∧ HeapOK (LT T) P1.length (gd P1) ∧ IsTx w' t ((T t).at n) ∧ Kept (MX M vp vc P C) w w' ∧ t ∉ P1 ∧ vp1.ownBlock = vp.ownBlock

theorem unpl_finish {w w1 : World} {base M : Nat} {mc : Array Value} {vp vc : Value} {P C : List Nat} {T : Nat → Tx} {n t : Nat} (h : MgQ w base M mc vp vc P C T) (hn : P.length = n + 1) (htC : t ∉ C) (htP : t ∈ P) (hr : RemPost w base M 3 mc vp P T n t w1) :
    IsTx w1 t ((T t).at n) ∧ UnplPost w base M vp vc P C (updT T t { T t with queued := false }) n t (w1.setCell ⟨t, 9, none⟩ (.bool false)) := by
  obtain ⟨mc1, vp1, P1, h1, hperm, hheap, ht1, hk, htP1, hvv⟩ := h.removed hn hr
  refine ⟨ht1, mc1, vp1, P1, h1.setFlag ht1 htP1 htC ⟨t, 9, none⟩ rfl _ _, hperm, ?_, ?_, ?_, htP1, hvv⟩
  · rw [LT_queued]; exact hheap
  · rw [updT_same]; exact ht1.setQueued false
  · exact hk.setCell (p := ⟨t, 9, none⟩) (Or.inr (Or.inl htP)) _

set_option maxRecDepth 100000 in
set_option maxHeartbeats 1000000 in
theorem unplace_queued (w : World) (base M : Nat) (mc : Array Value) (vp vc : Value) (P C : List Nat) (T : Nat → Tx) (t i n : Nat) (h : MgQ w base M mc vp vc P C T)
    (hi : P[i]? = some t) (hn : P.length = n + 1) (htC : t ∉ C) (hbig : P.length ≤ 1000000)
    (hA : i < n → ∀ g : Nat → Nat, (∀ k, k ≠ i → k < n → g k = gd P k) → Hole (LT T) n g i) (hB : i = n → HeapOK (LT T) n (gd P)) :
    Calls Try.prog 47 #[.pointer (some ⟨M, 0, none⟩), .pointer (some ⟨t, 0, none⟩)] w fun e w' => e = .returned (.tuple #[]) ∧ UnplPost w base M vp vc P C (updT T t { T t with queued := false }) n t w' := by
  have htx := h.p.tx i t hi
  have hq := h.fp t (List.mem_of_getElem? hi)
  have c9 : w.cell? ⟨t, 9, none⟩ = some (.bool true) := by have := htx.c9; simpa [Tx.at, hq] using this
  have c10 : w.cell? ⟨t, 10, none⟩ = some (.int .i64 i) := htx.c10
  have hil := lt_of_some hi
  have hrem := hide (fun m => remove_any (w.drewN m) base M 3 mc vp P T i n t (h.p.drewN m) hn (by omega) hi hbig hA hB)
  have hfin := hide (fun w1 (hr : RemPost w base M 3 mc vp P T n t w1) => unpl_finish h hn htC (List.mem_of_getElem? hi) hr)
  clear h hi hA hB htx hq hn
  go_enter Try.func47, Try.ntmps47
  go_wp2_with fail
  go_region_with (go_at_call 51; refine (unhide hrem 1).mono ?_; rintro e w1 ⟨⟨xx, rfl⟩, hr⟩)
  all_goals
    have hr' : RemPost w base M 3 mc vp P T n t w1 := by
      obtain ⟨v', P1, a1, a2, a3, a4, a5, a6⟩ := hr
      exact ⟨v', P1, a1, a2, a3, a4, a5, ((Kept.refl _ w).drewN 1).trans a6⟩
    obtain ⟨htx1, hpost⟩ := unhide hfin w1 hr'
    have d9 := htx1.c9
    have f9 := htx1.frozen 9
    have H := hide hpost
    clear hr hr' hpost htx1 hrem hfin c9 c10
    go_wp2_with fail
    go_end0
    exact ⟨rfl, unhide H⟩

set_option maxHeartbeats 1000000 in
theorem unplace_no (w : World) (M t : Nat) (x : Tx) (h : IsTx w t x) (hq : x.queued = false) :
    Calls Try.prog 47 #[.pointer (some ⟨M, 0, none⟩), .pointer (some ⟨t, 0, none⟩)] w fun e w' => e = .returned (.tuple #[]) ∧ w' = w := by
  have c9 := h.c9
  rw [hq] at c9
  clear h
  go_enter Try.func47, Try.ntmps47
  go_wp2_with fail
  go_end0
  exact ⟨rfl, rfl⟩

/-- What 'settle' leaves. -/
def SettlePost (w : World) (base M : Nat) (vp vc : Value) (P C : List Nat) (T : Nat → Tx) (t : Nat) (done : Bool) (w' : World) : Prop :=
  ∃ mc' vp' vc' P' C', Mg w' base M mc' vp' vc' P' C' (updT T t { T t with queued := !done }) ∧ P'.Perm (if done then P.erase t else P.erase t ++ [t]) ∧ C'.Perm (if done then C ++ [t] else C) ∧
    Kept (fun b => MX M vp vc P C b ∨ b = t) w w'

theorem turned {w : World} {base M : Nat} {mc : Array Value} {vp vc : Value} {P C : List Nat} {T T0 : Nat → Tx} {t i : Nat} (h : MgQ w base M mc vp vc P C T) (hi : P[i]? = some t) (hag : ∀ b, b ≠ t → T b = T0 b) :
    ∀ a b, a ≠ i → b ≠ i → LT T (gd P a) (gd P b) = LT T0 (gd P a) (gd P b) := by
  have key : ∀ a, a ≠ i → gd P a ≠ t := by
    intro a ha e
    by_cases hl : a < P.length
    · have h1 : P[a]? = some t := by
        simp only [gd, List.getD_eq_getElem?_getD, List.getElem?_eq_getElem hl, Option.getD_some] at e
        rw [List.getElem?_eq_getElem hl, e]
      exact ha (h.p.inj h1 hi)
    · have h1 : gd P a = 0 := by simp [gd, List.getD_eq_getElem?_getD, List.getElem?_eq_none (show P.length ≤ a by omega)]
      have h2 := h.bp t (List.mem_of_getElem? hi)
      have h3 := h.hM
      omega
  intro a b ha hb
  unfold LT
  rw [hag _ (key a ha), hag _ (key b hb)]

theorem updT_self (T : Nat → Tx) (t : Nat) : updT T t (T t) = T := by
  funext b; unfold updT; split
  · rename_i e; rw [e]
  · rfl

theorem perm_erase_of {P P1 : List Nat} {t : Nat} (h : (P1 ++ [t]).Perm P) : P1.Perm (P.erase t) := by
  have h1 : (t :: P1).Perm P := (List.perm_append_comm (l₁ := [t]) (l₂ := P1)).trans h
  have h2 := h1.erase t
  simpa using h2

end Go.Proofs.Qxb6604710a
