import Derived.Test.Qxb6604667aG1
namespace Go.Proofs.Qxb6604667a
open Go.RowKit

/-- A word of a number that is not negative. -/
def Okw (x : Nat) : Prop := x ≤ 9218868437227405312 ∨ x = 9223372036854775808

theorem lt_f {x y : Nat} (hx : Okw x) (hy : Okw y) : (FloatKind.f64.format.order x y == some .lt) = decide (rg x < rg y) := by
  rw [fmt_double, order_rg hx hy]
  rcases Nat.lt_trichotomy (rg x) (rg y) with h | h | h
  · rw [Nat.compare_eq_lt.2 h, decide_eq_true h]; rfl
  · rw [Nat.compare_eq_eq.2 h, decide_eq_false (by omega)]; rfl
  · rw [Nat.compare_eq_gt.2 h, decide_eq_false (by omega)]; rfl

theorem gt_f {x y : Nat} (hx : Okw x) (hy : Okw y) : (FloatKind.f64.format.order x y == some .gt) = decide (rg y < rg x) := by
  rw [fmt_double, order_rg hx hy]
  rcases Nat.lt_trichotomy (rg x) (rg y) with h | h | h
  · rw [Nat.compare_eq_lt.2 h, decide_eq_false (by omega)]; rfl
  · rw [Nat.compare_eq_eq.2 h, decide_eq_false (by omega)]; rfl
  · rw [Nat.compare_eq_gt.2 h, decide_eq_true h]; rfl

theorem eq_f {x y : Nat} (hx : Okw x) (hy : Okw y) : (FloatKind.f64.format.order x y == some .eq) = decide (rg x = rg y) := by
  rw [fmt_double, order_rg hx hy]
  rcases Nat.lt_trichotomy (rg x) (rg y) with h | h | h
  · rw [Nat.compare_eq_lt.2 h, decide_eq_false (by omega)]; rfl
  · rw [Nat.compare_eq_eq.2 h, decide_eq_true h]; rfl
  · rw [Nat.compare_eq_gt.2 h, decide_eq_false (by omega)]; rfl

theorem neq_f {x y : Nat} (hx : Okw x) (hy : Okw y) : (FloatKind.f64.format.order x y != some .eq) = !decide (rg x = rg y) := by
  rw [bne, eq_f hx hy]

theorem ge_f {x y : Nat} (hx : Okw x) (hy : Okw y) : (FloatKind.f64.format.order x y == some .gt || FloatKind.f64.format.order x y == some .eq) = decide (rg y ≤ rg x) := by
  rw [gt_f hx hy, eq_f hx hy, ← Bool.decide_or]
  exact decide_eq_decide.2 (by omega)

theorem le_f {x y : Nat} (hx : Okw x) (hy : Okw y) : (FloatKind.f64.format.order x y == some .lt || FloatKind.f64.format.order x y == some .eq) = decide (rg x ≤ rg y) := by
  rw [lt_f hx hy, eq_f hx hy, ← Bool.decide_or]
  exact decide_eq_decide.2 (by omega)

theorem rg_le {x : Nat} (h : x ≤ 9218868437227405312) : rg x = x := if_neg (by omega)
theorem ok_le {x : Nat} (h : x ≤ 9218868437227405312) : Okw x := Or.inl h

/-- The dividends that the law lets by. -/
abbrev NumOk (n : Nat) : Prop := (n = 0 ∨ n = 9223372036854775808) ∨ (0 < n ∧ n ≤ 9218868437227405312)

theorem NumOk.ok {n : Nat} (h : NumOk n) : Okw n := by unfold NumOk at h; unfold Okw; omega

def ratArg (n d : Nat) : Bool := finpos d && decide (NumOk n)

set_option maxRecDepth 100000
set_option maxHeartbeats 4000000

theorem ratArg_any (n d : Nat) (hn : n < 18446744073709551616) (hd : d < 18446744073709551616) (w : World) :
    Calls Try.prog 5 #[fl n, fl d] w fun e w' => e = .returned (.bool (ratArg n d)) ∧ w' = w := by
  have hf := hide (fun w => finpos_any d hd w)
  have hg := gt_zero hn
  have he := eq_zero hn
  rw [← fmt_double] at hg he
  generalize hr : ratArg n d = r
  unfold ratArg at hr
  go_enter Try.func5, Try.ntmps5
  go_wp2_with fail
  go_at_call 11
  refine (unhide hf _).mono ?_
  rintro e w ⟨rfl, rfl⟩
  by_cases c1 : finpos d = true
  · by_cases c2 : n = 0 ∨ n = 9223372036854775808
    · rw [decide_eq_true c2] at he
      have : decide (NumOk n) = true := decide_eq_true (Or.inl c2)
      rw [this, c1] at hr; subst hr; rw [c1]
      go_wp2_with fail
      go_ret
      exact ⟨rfl, rfl⟩
    · rw [decide_eq_false c2] at he
      by_cases c3 : 0 < n ∧ n ≤ 9218868437227405312
      · rw [decide_eq_true c3] at hg
        have : decide (NumOk n) = true := decide_eq_true (Or.inr c3)
        rw [this, c1] at hr; subst hr; rw [c1]
        go_wp2_with fail
        go_ret
        exact ⟨rfl, rfl⟩
      · rw [decide_eq_false c3] at hg
        have : decide (NumOk n) = false := decide_eq_false (fun h => h.elim c2 c3)
        rw [this, c1] at hr; subst hr; rw [c1]
        go_wp2_with fail
        go_ret
        exact ⟨rfl, rfl⟩
  · have c1 : finpos d = false := by simpa using c1
    rw [c1] at hr; subst hr; rw [c1]
    go_wp2_with fail
    go_ret
    exact ⟨rfl, rfl⟩

def qKept (n q : Nat) : Bool := decide ((n = 0 ∨ n = 9223372036854775808) ∨ n = 9218868437227405312 ∨ (9007199254740992 ≤ q ∧ q < 9218868437227405312))

theorem kept_any (n q : Nat) (hn : NumOk n) (hq : Okw q) (w : World) :
    Calls Try.prog 6 #[fl n, fl q] w fun e w' => e = .returned (.bool (qKept n q)) ∧ w' = w := by
  have he := eq_f hn.ok (ok_le (x := 0) (by decide))
  have e0 : rg 0 = 0 := rfl
  rw [e0] at he
  have hz : rg n = 0 ↔ (n = 0 ∨ n = 9223372036854775808) := by unfold rg; split <;> omega
  have hg := gt_f hn.ok (ok_le (x := 9218868437227405311) (by decide))
  have hge := ge_f hq (ok_le (x := 9007199254740992) (by decide))
  have hle := le_f hq (ok_le (x := 9218868437227405311) (by decide))
  rw [show rg 9218868437227405311 = 9218868437227405311 from rfl] at hg hle
  rw [show rg 9007199254740992 = 9007199254740992 from rfl] at hge
  go_enter Try.func6, Try.ntmps6
  by_cases c1 : n = 0 ∨ n = 9223372036854775808
  · rw [decide_eq_true (hz.2 c1)] at he
    have : qKept n q = true := decide_eq_true (Or.inl c1)
    rw [this]
    go_wp2_with fail
    go_ret
    exact ⟨rfl, rfl⟩
  · rw [decide_eq_false (fun h => c1 (hz.1 h))] at he
    have hn2 : 0 < n ∧ n ≤ 9218868437227405312 := by unfold NumOk at hn; omega
    rw [rg_le hn2.2] at hg
    by_cases c2 : n = 9218868437227405312
    · rw [decide_eq_true (by omega)] at hg
      have : qKept n q = true := decide_eq_true (Or.inr (Or.inl c2))
      rw [this]
      go_wp2_with fail
      go_ret
      exact ⟨rfl, rfl⟩
    · rw [decide_eq_false (by omega)] at hg
      by_cases c3 : 9007199254740992 ≤ rg q
      · rw [decide_eq_true c3] at hge
        have hq2 : rg q = q := by revert c3; unfold rg; split <;> omega
        by_cases c4 : q < 9218868437227405312
        · rw [decide_eq_true (by omega)] at hle
          have : qKept n q = true := decide_eq_true (Or.inr (Or.inr (by omega)))
          rw [this]
          go_wp2_with fail
          go_ret
          exact ⟨rfl, rfl⟩
        · rw [decide_eq_false (by omega)] at hle
          have : qKept n q = false := decide_eq_false (by omega)
          rw [this]
          go_wp2_with fail
          go_ret
          exact ⟨rfl, rfl⟩
      · rw [decide_eq_false c3] at hge
        have hq2 : ¬ (9007199254740992 ≤ q ∧ q < 9218868437227405312) := by revert c3; unfold rg; split <;> omega
        have : qKept n q = false := decide_eq_false (by omega)
        rw [this]
        go_wp2_with fail
        go_ret
        exact ⟨rfl, rfl⟩

/-- How two numbers stand, as Go's compare says it. -/
def cmpI (a b : Int) : Int := if a < b then -1 else if b < a then 1 else 0

theorem sign_any (x y : Nat) (hx : Okw x) (hy : Okw y) (w : World) :
    Calls Try.prog 9 #[fl x, fl y] w fun e w' => e = .returned (ii (cmpI (rg x) (rg y))) ∧ w' = w := by
  have h1 := lt_f hx hy
  have h2 := gt_f hx hy
  go_enter Try.func9, Try.ntmps9
  unfold cmpI
  rcases Nat.lt_trichotomy (rg x) (rg y) with h | h | h
  · rw [decide_eq_true h] at h1
    rw [if_pos (by omega)]
    go_wp2_with fail
    go_ret
    exact ⟨rfl, rfl⟩
  · rw [decide_eq_false (by omega)] at h1 h2
    rw [if_neg (by omega), if_neg (by omega)]
    go_wp2_with fail
    go_ret
    exact ⟨rfl, rfl⟩
  · rw [decide_eq_false (by omega)] at h1
    rw [decide_eq_true h] at h2
    rw [if_neg (by omega), if_pos (by omega)]
    go_wp2_with fail
    go_ret
    exact ⟨rfl, rfl⟩

theorem nanI_any (x : Int) (w : World) :
    Calls Try.prog 22 #[ii x] w fun e w' => e = .returned (.bool false) ∧ w' = w := by
  go_enter Try.func22, Try.ntmps22
  go_wp2_with fail
  go_ret
  exact ⟨by simp, rfl⟩

theorem nanF_any (x : Nat) (hx : Okw x) (w : World) :
    Calls Try.prog 23 #[fl x] w fun e w' => e = .returned (.bool false) ∧ w' = w := by
  have h := neq_f hx hx
  rw [decide_eq_true rfl] at h
  go_enter Try.func23, Try.ntmps23
  go_wp2_with fail
  go_ret
  exact ⟨rfl, rfl⟩

theorem isNaN_any (x : Nat) (hx : Okw x) (w : World) :
    Calls Try.prog 26 #[fl x] w fun e w' => e = .returned (.bool false) ∧ w' = w := by
  have h := neq_f hx hx
  rw [decide_eq_true rfl] at h
  go_enter Try.func26, Try.ntmps26
  go_wp2_with fail
  go_ret
  exact ⟨rfl, rfl⟩

theorem cmpInt_any (x y : Int) (w : World) :
    Calls Try.prog 17 #[ii x, ii y] w fun e w' => e = .returned (ii (cmpI x y)) ∧ w' = w := by
  have hn := hide nanI_any
  generalize hr : cmpI x y = r
  unfold cmpI at hr
  go_enter Try.func17, Try.ntmps17
  go_wp2_with fail
  go_at_call 22
  refine (unhide hn _ _).mono ?_
  rintro e w ⟨rfl, rfl⟩
  go_wp2_with fail
  go_at_call 22
  refine (unhide hn _ _).mono ?_
  rintro e w ⟨rfl, rfl⟩
  rcases Int.lt_trichotomy x y with h | h | h
  · rw [if_pos h] at hr; subst hr
    go_wp2_with fail
    go_ret
    exact ⟨rfl, rfl⟩
  · have h1 : ¬ x < y := by omega
    have h2 : ¬ y < x := by omega
    rw [if_neg h1, if_neg h2] at hr; subst hr
    go_wp2_with fail
    go_ret
    exact ⟨rfl, rfl⟩
  · have h1 : ¬ x < y := by omega
    rw [if_neg h1, if_pos h] at hr; subst hr
    go_wp2_with fail
    go_ret
    exact ⟨rfl, rfl⟩

theorem cmpFl_any (x y : Nat) (hx : Okw x) (hy : Okw y) (w : World) :
    Calls Try.prog 18 #[fl x, fl y] w fun e w' => e = .returned (ii (cmpI (rg x) (rg y))) ∧ w' = w := by
  have hnx := hide (nanF_any x hx)
  have hny := hide (nanF_any y hy)
  have h1 := lt_f hx hy
  have h2 := gt_f hx hy
  generalize hr : cmpI (rg x) (rg y) = r
  unfold cmpI at hr
  go_enter Try.func18, Try.ntmps18
  go_wp2_with fail
  go_at_call 23
  refine (unhide hnx _).mono ?_
  rintro e w ⟨rfl, rfl⟩
  go_wp2_with fail
  go_at_call 23
  refine (unhide hny _).mono ?_
  rintro e w ⟨rfl, rfl⟩
  rcases Nat.lt_trichotomy (rg x) (rg y) with h | h | h
  · rw [decide_eq_true h] at h1
    rw [if_pos (by omega)] at hr; subst hr
    go_wp2_with fail
    go_ret
    exact ⟨rfl, rfl⟩
  · rw [decide_eq_false (by omega)] at h1 h2
    rw [if_neg (by omega), if_neg (by omega)] at hr; subst hr
    go_wp2_with fail
    go_ret
    exact ⟨rfl, rfl⟩
  · rw [decide_eq_false (by omega)] at h1
    rw [decide_eq_true h] at h2
    rw [if_neg (by omega), if_pos (by omega)] at hr; subst hr
    go_wp2_with fail
    go_ret
    exact ⟨rfl, rfl⟩

end Go.Proofs.Qxb6604667a
