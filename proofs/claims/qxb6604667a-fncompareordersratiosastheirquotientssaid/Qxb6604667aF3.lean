import Derived.Test.Qxb6604667aF2
namespace Go.Proofs.Qxb6604667a
open Ieee

theorem order_le {x y : Nat} (hx : x ≤ 9218868437227405312) (hy : y ≤ 9218868437227405312) : double.order x y = some (compare x y) := by
  rcases Nat.lt_or_eq_of_le hx with h1 | h1 <;> rcases Nat.lt_or_eq_of_le hy with h2 | h2
  · exact order_fin h1 h2
  · subst h2
    unfold Format.order
    rw [read_fin h1, read_inf, Nat.compare_eq_lt.2 h1]; rfl
  · subst h1
    unfold Format.order
    rw [read_fin h2, read_inf, Nat.compare_eq_gt.2 h2]; rfl
  · subst h1; subst h2; decide

theorem read_sgn : double.read 9223372036854775808 = .number true 0 (-1074) := by decide
theorem read_zero : double.read 0 = .number false 0 (-1074) := by decide

theorem order_sgn_left (y : Nat) : double.order 9223372036854775808 y = double.order 0 y := by
  unfold Format.order; rw [read_sgn, read_zero]
  cases double.read y <;> simp [Datum.order, signed]

theorem order_sgn_right (x : Nat) : double.order x 9223372036854775808 = double.order x 0 := by
  unfold Format.order; rw [read_sgn, read_zero]
  cases double.read x <;> simp [Datum.order, signed]

/-- The rung of a word that is no negative number. -/
def rg (x : Nat) : Nat := if x = 9223372036854775808 then 0 else x

theorem order_rg {x y : Nat} (hx : x ≤ 9218868437227405312 ∨ x = 9223372036854775808) (hy : y ≤ 9218868437227405312 ∨ y = 9223372036854775808) : double.order x y = some (compare (rg x) (rg y)) := by
  have e : ∀ {x : Nat}, x ≤ 9218868437227405312 → rg x = x := fun h => if_neg (by omega)
  rcases hx with h1 | h1 <;> rcases hy with h2 | h2
  · rw [e h1, e h2]; exact order_le h1 h2
  · subst h2; rw [order_sgn_right, e h1]; exact order_le h1 (by omega)
  · subst h1; rw [order_sgn_left, e h2]; exact order_le (by omega) h2
  · subst h1; subst h2; decide

/-- A word against nought. -/
theorem order_neg {x : Nat} (h1 : 9218868437227405312 < x) (h2 : x < 18446744073709551616) (h3 : x ≠ 9223372036854775808) : double.order x 0 = none ∨ double.order x 0 = some .lt := by
  unfold Format.order
  rw [read_zero]
  unfold Format.read
  simp only [d_binade, d_inf, d_sw, d_lp]
  by_cases hs : x < 9223372036854775808
  · have e1 : x / 9223372036854775808 % 2 = 0 := by rw [Nat.div_eq_of_lt (by omega)]
    have e2 : x % 9223372036854775808 = x := Nat.mod_eq_of_lt (by omega)
    rw [e1, e2, if_neg (by omega), if_neg (by omega), if_neg (by omega)]
    left; rfl
  · have e1 : x / 9223372036854775808 = 1 := by omega
    rw [e1]
    have h0 : 0 < x % 9223372036854775808 := by omega
    generalize x % 9223372036854775808 = r at *
    split
    · right
      simp only [Datum.order, signed]
      congr 1
      refine Int.compare_eq_lt.2 ?_
      simp
      omega
    · split
      · right
        simp only [Datum.order, signed, Nat.shiftLeft_eq]
        congr 1
        refine Int.compare_eq_lt.2 ?_
        generalize hz : 2 ^ ((-1074 + ((r / 4503599627370496 - 1 : Nat) : Int)) - min (-1074 + ((r / 4503599627370496 - 1 : Nat) : Int)) (-1074)).toNat = z
        have hz0 : 0 < z := by rw [← hz]; exact Nat.two_pow_pos _
        have : 0 < (4503599627370496 + r % 4503599627370496) * z := Nat.mul_pos (by omega) hz0
        generalize (4503599627370496 + r % 4503599627370496) * z = y at *
        simp
        omega
      · split
        · right; rfl
        · left; rfl

theorem gt_zero {x : Nat} (h2 : x < 18446744073709551616) : (double.order x 0 == some .gt) = decide (0 < x ∧ x ≤ 9218868437227405312) := by
  by_cases h : x ≤ 9218868437227405312
  · rw [order_le h (by omega)]
    rcases Nat.eq_zero_or_pos x with h0 | h0
    · subst h0; decide
    · rw [Nat.compare_eq_gt.2 h0, decide_eq_true ⟨h0, h⟩]; rfl
  · rw [decide_eq_false (by omega)]
    by_cases h3 : x = 9223372036854775808
    · subst h3; decide
    · rcases order_neg (by omega) h2 h3 with e | e <;> rw [e] <;> rfl

theorem eq_zero {x : Nat} (h2 : x < 18446744073709551616) : (double.order x 0 == some .eq) = decide (x = 0 ∨ x = 9223372036854775808) := by
  by_cases h3 : x = 9223372036854775808
  · subst h3; decide
  by_cases h : x ≤ 9218868437227405312
  · rw [order_le h (by omega)]
    rcases Nat.eq_zero_or_pos x with h0 | h0
    · subst h0; decide
    · rw [Nat.compare_eq_gt.2 h0, decide_eq_false (by omega)]; rfl
  · rw [decide_eq_false (by omega)]
    rcases order_neg (by omega) h2 h3 with e | e <;> rw [e] <;> rfl

end Go.Proofs.Qxb6604667a
