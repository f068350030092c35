import Derived.Test.Qxb6604667aG2
import Derived.Laws.Externs
import Derived.Laws.BitsAllLaws
namespace Go.Proofs.Qxb6604667a
open Go.RowKit

set_option maxRecDepth 100000
set_option maxHeartbeats 4000000

theorem run_bits (x : Nat) (w : World) : (callFunc 25 #[fl x]).run Try.prog w = .ok (.value (.int .u64 x)) w := by
  obtain ⟨fn, hf, h1, h2, h3, h4⟩ : ∃ fn, Try.prog.funcs[25]? = some fn ∧ (fn.name == "runtime.NumGoroutine") = false ∧ fn.body.isNone = true ∧ Extern.findNext fn = none ∧ Extern.find fn = some Extern.MathFloatBits.float64bits :=
    ⟨Try.f25, by kernel_rfl, by kernel_rfl, by kernel_rfl, by kernel_rfl, by kernel_rfl⟩
  rw [run_callFunc_extern hf h1 h2 h3 h4]; rfl

theorem run_frombits (x : Nat) (w : World) : (callFunc 24 #[.int .u64 x]).run Try.prog w = .ok (.value (fl x)) w := by
  obtain ⟨fn, hf, h1, h2, h3, h4⟩ : ∃ fn, Try.prog.funcs[24]? = some fn ∧ (fn.name == "runtime.NumGoroutine") = false ∧ fn.body.isNone = true ∧ Extern.findNext fn = none ∧ Extern.find fn = some Extern.MathFloatBits.float64frombits :=
    ⟨Try.f24, by kernel_rfl, by kernel_rfl, by kernel_rfl, by kernel_rfl, by kernel_rfl⟩
  rw [run_callFunc_extern hf h1 h2 h3 h4]; rfl

theorem bits_abs {x : Nat} (h : x < 9223372036854775808) : bits .andNot .u64 (x : Int) 9223372036854775808 = (x : Int) := by
  have := u64_andNot_nat x 9223372036854775808 (by omega) (by decide)
  refine Eq.trans this ?_
  have e : 18446744073709551615 - 9223372036854775808 = 2 ^ 63 - 1 := by decide
  rw [e, Nat.and_two_pow_sub_one_eq_mod, Nat.mod_eq_of_lt (by omega)]

theorem bits_frac {x : Nat} (h : x < 9223372036854775808) : bits .andNot .u64 (x : Int) 9218868437227405312 = ((x % 4503599627370496 : Nat) : Int) := by
  have := u64_andNot_nat x 9218868437227405312 (by omega) (by decide)
  refine Eq.trans this ?_
  have e : 18446744073709551615 - 9218868437227405312 = 2 ^ 63 ||| (2 ^ 52 - 1) := by decide
  rw [e, Nat.and_or_distrib_left, Nat.and_two_pow_sub_one_eq_mod, nat_bit, Nat.div_eq_of_lt (show x < 2 ^ 63 by omega)]
  simp

theorem bits_half {x : Nat} (h : x < 4503599627370496) : bits .or .u64 (x : Int) 4602678819172646912 = ((1022 * 4503599627370496 + x : Nat) : Int) := by
  have := u64_or_nat x 4602678819172646912 (by omega) (by decide)
  refine Eq.trans this ?_
  rw [Nat.or_comm, nat_join 52 _ _ (by decide) (by omega)]

theorem bits_exp {x : Nat} (h : x < 2048) : bits .and .u64 (x : Int) 2047 = (x : Int) := by
  have := u64_and_nat x 2047 (by omega) (by decide)
  refine Eq.trans this ?_
  have e : 2047 = 2 ^ 11 - 1 := by decide
  rw [e, Nat.and_two_pow_sub_one_eq_mod, Nat.mod_eq_of_lt (by omega)]

theorem abs_any (x : Nat) (h : x < 9223372036854775808) (w : World) :
    Calls Try.prog 19 #[fl x] w fun e w' => e = .returned (fl x) ∧ w' = w := by
  have h1 := run_bits x
  have h2 := run_frombits x
  have h3 := bits_abs h
  go_enter Try.func19, Try.ntmps19
  go_wp2_with fail
  go_ret
  exact ⟨rfl, rfl⟩

theorem isInf1_any (x : Nat) (h0 : 0 < x) (h : x ≤ 9218868437227405312) (w : World) :
    Calls Try.prog 14 #[fl x, ii 1] w fun e w' => e = .returned (.bool (decide (x = 9218868437227405312))) ∧ w' = w := by
  have hg := gt_f (ok_le h) (ok_le (x := 9218868437227405311) (by decide))
  rw [rg_le h, show rg 9218868437227405311 = 9218868437227405311 from rfl] at hg
  have e : decide (9218868437227405311 < x) = decide (x = 9218868437227405312) := decide_eq_decide.2 (by omega)
  rw [e] at hg
  generalize decide (x = 9218868437227405312) = r at *
  go_enter Try.func14, Try.ntmps14
  go_wp2_with fail
  go_ret
  exact ⟨rfl, rfl⟩

theorem isInf0_any (x : Nat) (h : x < 9218868437227405312) (w : World) :
    Calls Try.prog 14 #[fl x, ii 0] w fun e w' => e = .returned (.bool false) ∧ w' = w := by
  have hg := gt_f (ok_le (x := x) (by omega)) (ok_le (x := 9218868437227405311) (by decide))
  rw [rg_le (x := x) (by omega), show rg 9218868437227405311 = 9218868437227405311 from rfl, decide_eq_false (by omega)] at hg
  have ha := hide (abs_any x (by omega))
  go_enter Try.func14, Try.ntmps14
  go_wp2_with fail
  go_at_call 19
  refine (unhide ha _).mono ?_
  rintro e w ⟨rfl, rfl⟩
  go_wp2_with fail
  go_ret
  exact ⟨rfl, rfl⟩

theorem normalize_any (x : Nat) (h0 : 0 < x) (h : x < 9218868437227405312) (w : World) :
    Calls Try.prog 27 #[fl x] w fun e w' => ∃ (y : Nat) (k : Int), e = .returned (.tuple #[fl y, ii k]) ∧ w' = w ∧ 4503599627370496 ≤ y ∧ y < 9218868437227405312 ∧ nM y = nM x ∧ nE y + k = nE x ∧ -52 ≤ k ∧ k ≤ 0 := by
  have hl := lt_f (ok_le (x := x) (by omega)) (ok_le (x := 4503599627370496) (by decide))
  rw [rg_le (by omega), show rg 4503599627370496 = 4503599627370496 from rfl] at hl
  have ha := hide (abs_any x (by omega))
  by_cases c : x < 4503599627370496
  · rw [decide_eq_true c] at hl
    obtain ⟨y, hy, y1, y2, y3, y4⟩ := mul_52 h0 c
    have hm : ∀ w : World, (binOp .mul 22 (fl x) (fl 4841369599423283200)).run Try.prog w = .ok (fl y) w :=
      fun w => run_float_arith w .mul 22 .f64 x _ y hy
    go_enter Try.func27, Try.ntmps27
    go_wp2_with fail
    go_at_call 19
    refine (unhide ha _).mono ?_
    rintro e w ⟨rfl, rfl⟩
    go_wp2_with fail
    go_ret2
    exact ⟨y, -52, rfl, rfl, y1, y2, y3, by omega, by omega, by omega⟩
  · rw [decide_eq_false c] at hl
    go_enter Try.func27, Try.ntmps27
    go_wp2_with fail
    go_at_call 19
    refine (unhide ha _).mono ?_
    rintro e w ⟨rfl, rfl⟩
    go_wp2_with fail
    go_ret2
    exact ⟨x, 0, rfl, rfl, by omega, h, rfl, by omega, by omega, by omega⟩

theorem nE_bounds {x : Nat} (h0 : 0 < x) (h : x < 9218868437227405312) : -1126 ≤ nE x ∧ nE x ≤ 971 := by
  by_cases c : x < 4503599627370496
  · have ⟨a, _, b⟩ := norm_small h0 c
    omega
  · have ⟨_, b⟩ := norm_big (x := x) (by omega)
    omega

theorem wrap_small {n : Int} (h1 : -100000 ≤ n) (h2 : n ≤ 100000) : wrap64 n = n := by
  unfold wrap64; omega

theorem frexp_arith (y : Nat) (k : Int) (h : y < 9218868437227405312) (k1 : -52 ≤ k) (k2 : k ≤ 0) :
    wrap64 ((y : Int) / 4503599627370496) = (y : Int) / 4503599627370496 ∧ wrap64 ((y : Int) / 4503599627370496 - 1023) = (y : Int) / 4503599627370496 - 1023 ∧
    wrap64 ((y : Int) / 4503599627370496 - 1023 + 1) = (y : Int) / 4503599627370496 - 1023 + 1 ∧
    wrap64 (k + ((y : Int) / 4503599627370496 - 1023 + 1)) = k + ((y : Int) / 4503599627370496 - 1023 + 1) := by
  have y7 : (y : Int) / 4503599627370496 ≤ 2047 := by omega
  have y8 : 0 ≤ (y : Int) / 4503599627370496 := by omega
  generalize (y : Int) / 4503599627370496 = q at *
  exact ⟨wrap_small (by omega) (by omega), wrap_small (by omega) (by omega), wrap_small (by omega) (by omega), wrap_small (by omega) (by omega)⟩

theorem frexp_facts (x y : Nat) (k : Int) (y1 : 4503599627370496 ≤ y) (y2 : y < 9218868437227405312) (y3 : nM y = nM x) (y4 : nE y + k = nE x) :
    bits .and .u64 ((y : Int) / 4503599627370496) 2047 = (y : Int) / 4503599627370496 ∧ bits .andNot .u64 (y : Int) 9218868437227405312 = (y : Int) % 4503599627370496 ∧
    bits .or .u64 ((y : Int) % 4503599627370496) 4602678819172646912 = (frw x : Int) ∧ nE x + 53 = k + ((y : Int) / 4503599627370496 - 1023 + 1) := by
  have b2 := bits_frac (x := y) (by omega)
  have b3 := bits_half (x := y % 4503599627370496) (by omega)
  have b4 := bits_exp (x := y / 4503599627370496) (by omega)
  have ⟨n1, n2⟩ := norm_big y1
  have c1 : ((y / 4503599627370496 : Nat) : Int) = (y : Int) / 4503599627370496 := by omega
  have c2 : ((y % 4503599627370496 : Nat) : Int) = (y : Int) % 4503599627370496 := by omega
  have c3 : 1022 * 4503599627370496 + y % 4503599627370496 = frw x := by unfold frw; omega
  rw [c1] at b4 n2
  rw [c3, c2] at b3
  rw [c2] at b2
  exact ⟨b4, b2, b3, by omega⟩

theorem frexp_any (x : Nat) (h0 : 0 < x) (h : x < 9218868437227405312) (w : World) :
    Calls Try.prog 21 #[fl x] w fun e w' => e = .returned (.tuple #[fl (frw x), ii (nE x + 53)]) ∧ w' = w := by
  have he := eq_f (ok_le (x := x) (by omega)) (ok_le (x := 0) (by decide))
  rw [rg_le (by omega), show rg 0 = 0 from rfl, decide_eq_false (by omega)] at he
  have hi := hide (isInf0_any x h)
  have hna := hide (isNaN_any x (ok_le (by omega)))
  have hno := hide (normalize_any x h0 h)
  generalize hfx0 : frw x = fx
  generalize hex0 : nE x + 53 = ex
  go_enter Try.func21, Try.ntmps21
  go_wp2_with fail
  go_at_call 14
  refine (unhide hi _).mono ?_
  rintro e w ⟨rfl, rfl⟩
  go_wp2_with fail
  go_at_call 26
  refine (unhide hna _).mono ?_
  rintro e w ⟨rfl, rfl⟩
  go_wp2_with fail
  go_at_call 27
  refine (unhide hno _).mono ?_
  rintro e w ⟨y, k, rfl, rfl, y1, y2, y3, y4, y5, y6⟩
  obtain ⟨w1, w2, w3, w4⟩ := frexp_arith y k y2 y5 y6
  obtain ⟨b4, b2, b3, c5⟩ := frexp_facts x y k y1 y2 y3 y4
  have b1 := run_bits y
  have b5 := run_frombits (frw x)
  rw [hfx0] at b3 b5
  rw [hex0] at c5
  subst c5
  clear hfx0 hex0 y1 y2 y3 y4 y5 y6 hi hna hno
  go_wp2_with fail
  go_ret2
  refine ⟨?_, rfl⟩
  show Ending.returned (.tuple #[fl fx, ii (wrap64 (k + ((y : Int) / 4503599627370496 - 1023 + 1)))]) = _
  rw [w4]

theorem Frexp_any (x : Nat) (h0 : 0 < x) (h : x < 9218868437227405312) (w : World) :
    Calls Try.prog 15 #[fl x] w fun e w' => e = .returned (.tuple #[fl (frw x), ii (nE x + 53)]) ∧ w' = w := by
  have hf := hide (frexp_any x h0 h)
  generalize frw x = fx at *
  generalize nE x + 53 = ex at *
  go_enter Try.func15, Try.ntmps15
  go_wp2_with fail
  go_at_call 21
  refine (unhide hf _).mono ?_
  rintro e w ⟨rfl, rfl⟩
  go_wp2_with fail
  go_ret2
  exact ⟨rfl, rfl⟩

end Go.Proofs.Qxb6604667a
