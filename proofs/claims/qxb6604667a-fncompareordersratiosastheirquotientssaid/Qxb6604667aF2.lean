import Derived.Test.Qxb6604667aF1
namespace Go.Proofs.Qxb6604667a
open Ieee


theorem d_binade : double.binade = 4503599627370496 := by decide
theorem d_inf : double.infRung = 9218868437227405312 := by decide
theorem d_sw : double.signWeight = 9223372036854775808 := by decide
theorem d_lp : double.leastPlace = -1074 := by decide
theorem d_fb : double.fractionBits = 52 := rfl

/-- The word's own magnitude and place. -/
def mg (x : Nat) : Nat := if x < 4503599627370496 then x else 4503599627370496 + x % 4503599627370496
def pl (x : Nat) : Int := if x < 4503599627370496 then -1074 else -1075 + (x / 4503599627370496 : Nat)

theorem read_fin {x : Nat} (h : x < 9218868437227405312) : double.read x = .number false (mg x) (pl x) := by
  unfold Format.read mg pl
  simp only [d_binade, d_inf, d_sw, d_lp]
  have h1 : x / 9223372036854775808 % 2 = 0 := by rw [Nat.div_eq_of_lt (by omega)]
  have h2 : x % 9223372036854775808 = x := Nat.mod_eq_of_lt (by omega)
  rw [h1, h2]
  by_cases hx : x < 4503599627370496
  · simp only [if_pos hx]; rfl
  · simp only [if_neg hx, if_pos h]
    congr 1
    have : 1 ≤ x / 4503599627370496 := by omega
    omega

theorem read_inf : double.read 9218868437227405312 = .infinity false := by decide

theorem mg_lt (x : Nat) : mg x < 9007199254740992 := by unfold mg; split <;> omega
theorem mg_pos {x : Nat} (h : 0 < x) : 0 < mg x := by unfold mg; split <;> omega

theorem order_fin {x y : Nat} (hx : x < 9218868437227405312) (hy : y < 9218868437227405312) : double.order x y = some (compare x y) := by
  have key : ∀ {x y : Nat}, x < y → mg x * 2 ^ (pl x - min (pl x) (pl y)).toNat < mg y * 2 ^ (pl y - min (pl x) (pl y)).toNat := by
    intro x y h
    have hp : pl x ≤ pl y := by unfold pl; split <;> split <;> omega
    rw [Int.min_eq_left hp, Int.sub_self]
    rcases Int.lt_or_eq_of_le hp with hl | he
    · have h1 : 1 ≤ (pl y - pl x).toNat := by omega
      have h2 : 2 ^ 1 ≤ 2 ^ (pl y - pl x).toNat := Nat.pow_le_pow_right (by decide) h1
      have h3 : 4503599627370496 ≤ mg y := by
        unfold mg
        split
        · rename_i hy'
          exfalso
          revert hl; unfold pl
          rw [if_pos hy', if_pos (by omega)]
          omega
        · omega
      have h4 := Nat.mul_le_mul h3 h2
      have h5 := mg_lt x
      simp only [Int.toNat_zero, Nat.pow_zero, Nat.mul_one]
      omega
    · rw [he, Int.sub_self]
      simp only [Int.toNat_zero, Nat.pow_zero, Nat.mul_one]
      revert he; unfold pl mg
      split <;> split <;> omega
  unfold Format.order
  rw [read_fin hx, read_fin hy]
  simp only [Datum.order, signed, Bool.false_eq_true, if_false, Nat.shiftLeft_eq]
  congr 1
  rcases Nat.lt_trichotomy x y with h | h | h
  · have := key h
    rw [Nat.compare_eq_lt.2 h]
    exact Int.compare_eq_lt.2 (Int.ofNat_lt.2 this)
  · subst h
    simp
  · have := key h
    rw [Int.min_comm] at this
    rw [Nat.compare_eq_gt.2 h]
    exact Int.compare_eq_gt.2 (Int.ofNat_lt.2 this)

end Go.Proofs.Qxb6604667a
