import Derived.Test.Qxb6604667aG6
namespace Go.Proofs.Qxb6604667a
open Go.RowKit

set_option maxRecDepth 100000

/-- The kinds of a ratio: nought, infinity, and a fraction in [0.5, 1) with its exponent ('k' is the rung without ends). -/
def Kind0 (f : Nat) (e : Int) : Prop := f = 0 ∧ e = -9223372036854775808
def KindI (f : Nat) (e : Int) : Prop := f = 9218868437227405312 ∧ e = 9223372036854775807
def KindF (f : Nat) (e k : Int) : Prop := 1022 * 4503599627370496 ≤ f ∧ f < 1023 * 4503599627370496 ∧ -5000 ≤ e ∧ e ≤ 5000 ∧ k = e * 4503599627370496 + f

theorem rat_zero {n d : Nat} (h : n = 0 ∨ n = 9223372036854775808) : Kind0 (ratF n d) (ratE n d) := by
  unfold Kind0 ratF ratE; rw [if_pos h, if_pos h]; exact ⟨rfl, rfl⟩

theorem rat_inf {d : Nat} : KindI (ratF 9218868437227405312 d) (ratE 9218868437227405312 d) := by
  unfold KindI ratF ratE; constructor <;> rw [if_neg (by omega), if_pos rfl]

theorem rat_fin {n d : Nat} (h0 : 0 < n) (h : n < 9218868437227405312) (hd0 : 0 < d) (hd : d < 9218868437227405312) : KindF (ratF n d) (ratE n d) (Gr n d) := by
  have ⟨B1, B2⟩ := Bw_bounds h0 hd0
  have bn := nE_bounds h0 h
  have bd := nE_bounds hd0 hd
  have e1 : ratF n d = if 1023 * 4503599627370496 ≤ Bw n d then Bw n d - 4503599627370496 else Bw n d := by
    unfold ratF; rw [if_neg (by omega), if_neg (by omega)]
  have e2 : ratE n d = if 1023 * 4503599627370496 ≤ Bw n d then nE n - nE d + 1 else nE n - nE d := by
    unfold ratE; rw [if_neg (by omega), if_neg (by omega)]
  unfold KindF Gr
  rw [e1, e2]
  generalize Bw n d = B at *
  split <;> omega

theorem Kind0.ok {f : Nat} {e : Int} (h : Kind0 f e) : Okw f := by unfold Kind0 at h; unfold Okw; omega
theorem KindI.ok {f : Nat} {e : Int} (h : KindI f e) : Okw f := by unfold KindI at h; unfold Okw; omega
theorem KindF.ok {f : Nat} {e k : Int} (h : KindF f e k) : Okw f := by unfold KindF at h; unfold Okw; omega

theorem rat_ok {n d : Nat} (hn : NumOk n) (hd0 : 0 < d) (hd : d < 9218868437227405312) : Okw (ratF n d) := by
  unfold NumOk at hn
  rcases hn with h | ⟨h1, h2⟩
  · exact (rat_zero h).ok
  · by_cases c : n = 9218868437227405312
    · subst c; exact rat_inf.ok
    · exact (rat_fin h1 (by omega) hd0 hd).ok

theorem cmpI_eq {a b : Int} : cmpI a b = 0 ↔ a = b := by unfold cmpI; split <;> (try split) <;> omega
theorem cmpI_self (a : Int) : cmpI a a = 0 := cmpI_eq.2 rfl
theorem cmpI_lt {a b : Int} (h : a < b) : cmpI a b = -1 := if_pos h
theorem cmpI_gt {a b : Int} (h : b < a) : cmpI a b = 1 := by unfold cmpI; rw [if_neg (by omega), if_pos h]
theorem cmpI_swap (a b : Int) : cmpI b a = -cmpI a b := by
  rcases Int.lt_trichotomy a b with h | h | h
  · rw [cmpI_lt h, cmpI_gt h]; rfl
  · subst h; rw [cmpI_self]; rfl
  · rw [cmpI_lt h, cmpI_gt h]

theorem cmpR_swap (f f' : Nat) (e e' : Int) : cmpR f' e' f e = -cmpR f e f' e' := by
  unfold cmpR
  rw [cmpI_swap e e', cmpI_swap (rg f) (rg f')]
  split <;> split <;> omega

theorem cmpR_lt {f f' : Nat} {e e' : Int} (h : e < e') : cmpR f e f' e' = -1 := by
  unfold cmpR; rw [cmpI_lt h, if_pos (by omega)]
theorem cmpR_gt {f f' : Nat} {e e' : Int} (h : e' < e) : cmpR f e f' e' = 1 := by
  unfold cmpR; rw [cmpI_gt h, if_pos (by omega)]
theorem cmpR_same {f f' : Nat} {e : Int} : cmpR f e f' e = cmpI (rg f) (rg f') := by
  unfold cmpR; rw [cmpI_self, if_neg (by omega)]

theorem cmpR_fin {f f' : Nat} {e e' k k' : Int} (h : KindF f e k) (h' : KindF f' e' k') : cmpR f e f' e' = cmpI k k' := by
  unfold KindF at h h'
  rcases Int.lt_trichotomy e e' with c | c | c
  · rw [cmpR_lt c, cmpI_lt (by omega)]
  · subst c
    rw [cmpR_same, rg_le (by omega), rg_le (by omega)]
    rcases Nat.lt_trichotomy f f' with c | c | c
    · rw [cmpI_lt (by omega), cmpI_lt (by omega)]
    · rw [cmpI_eq.2 (by omega), cmpI_eq.2 (by omega)]
    · rw [cmpI_gt (by omega), cmpI_gt (by omega)]
  · rw [cmpR_gt c, cmpI_gt (by omega)]

/-- The first law's plain heart. -/
theorem plain1 {n d n' d' q q' : Nat} (hn : NumOk n) (hn' : NumOk n') (hd0 : 0 < d) (hd : d < 9218868437227405312) (hd0' : 0 < d') (hd' : d' < 9218868437227405312)
    (hq : Ieee.double.div n d = some q) (hq' : Ieee.double.div n' d' = some q') (hk : qKept n q = true) (hk' : qKept n' q' = true) :
    cmpR (ratF n d) (ratE n d) (ratF n' d') (ratE n' d') = cmpI (rg q) (rg q') := by
  have kind : ∀ {n d q : Nat}, NumOk n → 0 < d → d < 9218868437227405312 → Ieee.double.div n d = some q → qKept n q = true →
      (rg q = 0 ∧ Kind0 (ratF n d) (ratE n d)) ∨ (rg q = 9218868437227405312 ∧ KindI (ratF n d) (ratE n d)) ∨ (0 < rg q ∧ rg q < 9218868437227405312 ∧ KindF (ratF n d) (ratE n d) (rg q)) := by
    intro n d q hn hd0 hd hq hk
    unfold NumOk at hn
    rcases hn with h | ⟨h1, h2⟩
    · left
      rw [div_zero h hd0 hd] at hq
      cases hq
      refine ⟨?_, rat_zero h⟩
      unfold rg; split <;> omega
    · right
      by_cases c : n = 9218868437227405312
      · left
        subst c
        rw [div_inf hd] at hq
        cases hq
        exact ⟨rfl, rat_inf⟩
      · right
        have hk2 := of_decide_eq_true hk
        have hk3 : 9007199254740992 ≤ q ∧ q < 9218868437227405312 := by omega
        obtain ⟨r, e1, e2, e3⟩ := div_pos h1 (show n < 9218868437227405312 by omega) hd0 hd
        rw [hq] at e1
        cases e1
        have := e3 hk3.1 hk3.2
        rw [rg_le (by omega)]
        refine ⟨by omega, by omega, ?_⟩
        rw [this]
        exact rat_fin h1 (by omega) hd0 hd
  have k1 := kind hn hd0 hd hq hk
  have k2 := kind hn' hd0' hd' hq' hk'
  generalize ratF n d = f at *
  generalize ratE n d = e at *
  generalize ratF n' d' = f' at *
  generalize ratE n' d' = e' at *
  rcases k1 with ⟨a, b⟩ | ⟨a, b⟩ | ⟨a, a2, b⟩ <;> rcases k2 with ⟨a', b'⟩ | ⟨a', b'⟩ | ⟨a', a2', b'⟩
  · unfold Kind0 at b b'; rw [b.2, b'.2, cmpR_same, b.1, b'.1, a, a']; rfl
  · unfold Kind0 at b; unfold KindI at b'; rw [cmpR_lt (by omega), cmpI_lt (by omega)]
  · unfold Kind0 at b; unfold KindF at b'; rw [cmpR_lt (by omega), cmpI_lt (by omega)]
  · unfold KindI at b; unfold Kind0 at b'; rw [cmpR_gt (by omega), cmpI_gt (by omega)]
  · unfold KindI at b b'; rw [b.2, b'.2, cmpR_same, b.1, b'.1, a, a']; rfl
  · unfold KindI at b; unfold KindF at b'; rw [cmpR_gt (by omega), cmpI_gt (by omega)]
  · unfold KindF at b; unfold Kind0 at b'; rw [cmpR_gt (by omega), cmpI_gt (by omega)]
  · unfold KindF at b; unfold KindI at b'; rw [cmpR_lt (by omega), cmpI_lt (by omega)]
  · exact cmpR_fin b b'

/-- The second law's plain heart. -/
theorem plain2 {a b d : Nat} (ha : NumOk a) (hb : NumOk b) (hd0 : 0 < d) (hd : d < 9218868437227405312) :
    (cmpR (ratF a d) (ratE a d) (ratF b d) (ratE b d) = cmpI (rg a) (rg b) ∨
      (cmpR (ratF a d) (ratE a d) (ratF b d) (ratE b d) = 0 ∧ cmpI (rg a) (rg b) ≠ 0)) ∧
    (nM d = 4503599627370496 → cmpR (ratF a d) (ratE a d) (ratF b d) (ratE b d) = cmpI (rg a) (rg b)) := by
  have kind : ∀ {n : Nat}, NumOk n →
      (rg n = 0 ∧ Kind0 (ratF n d) (ratE n d)) ∨ (rg n = 9218868437227405312 ∧ KindI (ratF n d) (ratE n d)) ∨ (0 < n ∧ n < 9218868437227405312 ∧ rg n = n ∧ KindF (ratF n d) (ratE n d) (Gr n d)) := by
    intro n hn
    unfold NumOk at hn
    rcases hn with h | ⟨h1, h2⟩
    · left
      refine ⟨?_, rat_zero h⟩
      unfold rg; split <;> omega
    · right
      by_cases c : n = 9218868437227405312
      · left; subst c; exact ⟨rfl, rat_inf⟩
      · right
        exact ⟨h1, by omega, rg_le h2, rat_fin h1 (by omega) hd0 hd⟩
  have one : ∀ {x y : Int} {p : Prop}, x = y → (x = y ∨ (x = 0 ∧ y ≠ 0)) ∧ (p → x = y) := fun h => ⟨Or.inl h, fun _ => h⟩
  have k1 := kind ha
  have k2 := kind hb
  rcases k1 with ⟨r, k⟩ | ⟨r, k⟩ | ⟨c1, c2, c3, k⟩ <;> rcases k2 with ⟨r', k'⟩ | ⟨r', k'⟩ | ⟨c1', c2', c3', k'⟩
  · refine one ?_; unfold Kind0 at k k'; rw [k.2, k'.2, cmpR_same, k.1, k'.1, r, r']; rfl
  · refine one ?_; unfold Kind0 at k; unfold KindI at k'; rw [cmpR_lt (by omega), cmpI_lt (by omega)]
  · refine one ?_; unfold Kind0 at k; unfold KindF at k'; rw [cmpR_lt (by omega), cmpI_lt (by omega)]
  · refine one ?_; unfold KindI at k; unfold Kind0 at k'; rw [cmpR_gt (by omega), cmpI_gt (by omega)]
  · refine one ?_; unfold KindI at k k'; rw [k.2, k'.2, cmpR_same, k.1, k'.1, r, r']; rfl
  · refine one ?_; unfold KindI at k; unfold KindF at k'; rw [cmpR_gt (by omega), cmpI_gt (by omega)]
  · refine one ?_; unfold KindF at k; unfold Kind0 at k'; rw [cmpR_gt (by omega), cmpI_gt (by omega)]
  · refine one ?_; unfold KindF at k; unfold KindI at k'; rw [cmpR_lt (by omega), cmpI_lt (by omega)]
  · rw [cmpR_fin k k', c3, c3']
    rcases Nat.lt_trichotomy a b with h | h | h
    · have m := Gr_mono c1 hd0 h
      rw [cmpI_lt (a := (a : Int)) (by omega)]
      refine ⟨?_, fun hp => cmpI_lt (Gr_strict c1 hp h)⟩
      rcases Int.lt_or_eq_of_le m with g | g
      · left; exact cmpI_lt g
      · right; exact ⟨cmpI_eq.2 g, by omega⟩
    · subst h
      refine one ?_
      rw [cmpI_self, cmpI_self]
    · have m := Gr_mono c1' hd0 h
      rw [cmpI_gt (a := (a : Int)) (by omega)]
      refine ⟨?_, fun hp => cmpI_gt (Gr_strict c1' hp h)⟩
      rcases Int.lt_or_eq_of_le m with g | g
      · left; exact cmpI_gt g
      · right; exact ⟨cmpI_eq.2 g.symm, by omega⟩

end Go.Proofs.Qxb6604667a
