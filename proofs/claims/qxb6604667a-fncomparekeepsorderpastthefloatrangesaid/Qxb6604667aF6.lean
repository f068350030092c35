import Derived.Test.Qxb6604667aF5
namespace Go.Proofs.Qxb6604667a
open Ieee

theorem log2_mul_pow {m : Nat} (t : Nat) (hm : 0 < m) : (m * 2 ^ t).log2 = m.log2 + t := by
  have h1 : 2 ^ m.log2 ≤ m := Nat.log2_self_le (by omega)
  have h2 : m < 2 ^ (m.log2 + 1) := (Nat.log2_lt (by omega)).1 (Nat.lt_succ_self _)
  have hc : 0 < 2 ^ t := Nat.two_pow_pos _
  have hp : 0 < m * 2 ^ t := Nat.mul_pos hm hc
  have l1 : m.log2 + t ≤ (m * 2 ^ t).log2 := (Nat.le_log2 (by omega)).2 (by rw [Nat.pow_add]; exact Nat.mul_le_mul_right _ h1)
  have l2 : (m * 2 ^ t).log2 < m.log2 + 1 + t := (Nat.log2_lt (by omega)).2 (by rw [Nat.pow_add]; exact (Nat.mul_lt_mul_right hc).2 h2)
  omega

theorem rne_pow {m s t : Nat} (h : t ≤ s) : rne (m * 2 ^ s) (2 ^ t) = m * 2 ^ (s - t) := by
  have e : m * 2 ^ s = m * 2 ^ (s - t) * 2 ^ t := by
    rw [Nat.mul_assoc, ← Nat.pow_add, Nat.sub_add_cancel h]
  rw [e]; exact rne_exact _ (Nat.two_pow_pos _)

theorem read_two : double.read 4611686018427387904 = .number false (2 ^ 52) (-51) := by decide
theorem read_52 : double.read 4841369599423283200 = .number false (2 ^ 52) 0 := by decide

/-- Twice a number below 1. -/
theorem mul_two {x : Nat} (h0 : 0 < x) (h : x < 4607182418800017408) :
    double.mul x 4611686018427387904 = some (if x < 4503599627370496 then 2 * x else x + 4503599627370496) := by
  unfold Format.mul
  rw [read_fin (by omega), read_two]
  simp only [Datum.product, Option.map_some, Format.write, Bool.xor_self]
  congr 1
  have hm := mg_pos h0
  have hl := log2_mul_pow 52 hm
  have hp : 0 < mg x * 2 ^ 52 := Nat.mul_pos hm (Nat.two_pow_pos _)
  by_cases hx : x < 4503599627370496
  · rw [if_pos hx]
    have ⟨l1, _, _⟩ := norm_small h0 hx
    have e1 : mg x = x := if_pos hx
    have e2 : pl x = -1074 := if_pos hx
    rw [e1] at hl hp
    rw [e1, e2]
    unfold Format.nearest
    rw [if_neg (by omega)]
    simp only [d_fb, d_lp, d_binade, d_inf, Format.word, Bool.false_eq_true, if_false]
    have e : max (-1074 + -51 + ((x * 2 ^ 52).log2 : Int) - ((52 : Nat) : Int)) (-1074) = -1074 := by omega
    rw [e]
    have z1 : ((-1074 : Int) + -51 - -1074).toNat = 0 := by decide
    have z2 : ((-1074 : Int) - (-1074 + -51)).toNat = 51 := by decide
    have z3 : ((-1074 : Int) - -1074).toNat = 0 := by decide
    rw [z1, z2, z3, Nat.shiftLeft_zero, cut_eq _ _ _ (by omega), rne_pow (by omega), Nat.zero_mul, Nat.zero_add, show 52 - 51 = 1 from rfl,
      Nat.min_eq_left (by omega)]
    omega
  · rw [if_neg hx]
    have ⟨n1, n2⟩ := norm_big (x := x) (by omega)
    have e1 : mg x = 4503599627370496 + x % 4503599627370496 := if_neg hx
    have e2 : pl x = -1075 + (x / 4503599627370496 : Nat) := if_neg hx
    have hlg : (mg x).log2 = 52 := by
      have h2 : 52 ≤ (mg x).log2 := (Nat.le_log2 (by omega)).2 (by omega)
      have := log_le h0
      omega
    rw [hlg] at hl
    rw [nearest_in (by omega) hp (by omega), hl, rne_pow (by omega), e1, e2, Nat.min_eq_left (by omega)]
    omega

/-- A subnormal number made normal. -/
theorem mul_52 {x : Nat} (h0 : 0 < x) (h : x < 4503599627370496) :
    ∃ y, double.mul x 4841369599423283200 = some y ∧ 4503599627370496 ≤ y ∧ y < 9218868437227405312 ∧ nM y = nM x ∧ nE y = nE x + 52 := by
  have ⟨l1, l2, l3⟩ := norm_small h0 h
  have ⟨b1, b2⟩ := nM_bounds h0
  refine ⟨x.log2 * 4503599627370496 + nM x, ?_, by omega, by omega, ?_⟩
  · unfold Format.mul
    rw [read_fin (by omega), read_52]
    simp only [Datum.product, Option.map_some, Format.write, Bool.xor_self]
    congr 1
    have hl := log2_mul_pow 52 h0
    have e1 : mg x = x := if_pos h
    have e2 : pl x = -1074 := if_pos h
    rw [e1, e2]
    have hp : 0 < x * 2 ^ 52 := Nat.mul_pos h0 (Nat.two_pow_pos _)
    rw [nearest_in (by omega) hp (by omega), hl, Nat.add_sub_cancel, rne_pow (by omega), ← l2, Nat.min_eq_left (by omega)]
    omega
  · have ⟨e1, e2⟩ := norm_big (x := x.log2 * 4503599627370496 + nM x) (by omega)
    rw [e1, e2, l3]
    omega

/-- The words rise with their significands and places. -/
theorem norm_lt {x y : Nat} (h0 : 0 < x) (h : x < y) : nE x < nE y ∨ (nE x = nE y ∧ nM x < nM y) := by
  by_cases hx : x < 4503599627370496
  · have ⟨l1, l2, l3⟩ := norm_small h0 hx
    by_cases hy : y < 4503599627370496
    · have ⟨m1, m2, m3⟩ := norm_small (by omega) hy
      have hle : x.log2 ≤ y.log2 := by
        have : 2 ^ x.log2 ≤ x := Nat.log2_self_le (by omega)
        exact (Nat.le_log2 (by omega)).2 (by omega)
      rcases Nat.lt_or_eq_of_le hle with hl | he
      · left; omega
      · right
        refine ⟨by omega, ?_⟩
        rw [l2, m2, he]
        exact (Nat.mul_lt_mul_right (Nat.two_pow_pos _)).2 h
    · have ⟨m1, m2⟩ := norm_big (x := y) (by omega)
      left; omega
  · have ⟨n1, n2⟩ := norm_big (x := x) (by omega)
    have ⟨m1, m2⟩ := norm_big (x := y) (by omega)
    omega

/-- Over one divisor the rung rises with the dividend. -/
theorem Gr_mono {x y d : Nat} (h0 : 0 < x) (hd : 0 < d) (h : x < y) : Gr x d ≤ Gr y d := by
  have ⟨a1, a2⟩ := nM_bounds h0
  have ⟨c1, c2⟩ := nM_bounds (x := y) (by omega)
  have ⟨b1, b2⟩ := nM_bounds hd
  have hlt := norm_lt h0 h
  have B1 := Bw_bounds h0 hd
  have B2 := Bw_bounds (n := y) (d := d) (by omega) hd
  unfold Gr
  rcases hlt with hE | ⟨hE, hM⟩
  · have key : Bw x d ≤ 4503599627370496 + Bw y d := by
      unfold Bw
      generalize nM x = a at *
      generalize nM y = c at *
      generalize nM d = b at *
      by_cases h1 : a < b <;> by_cases h2 : c < b
      · rw [if_pos h1, if_pos h2]
        have r1 : rne (a * 9007199254740992) b ≤ 9007199254740992 := rne_le (by omega) (by omega)
        have r2 : 4503599627370496 ≤ rne (c * 9007199254740992) b := rne_ge (by omega) (by omega)
        omega
      · rw [if_pos h1, if_neg h2]
        have r1 : rne (a * 9007199254740992) b ≤ 9007199254740992 := rne_le (by omega) (by omega)
        omega
      · rw [if_neg h1, if_pos h2]
        have r1 : rne (a * 4503599627370496) b ≤ rne (c * 9007199254740992) b := rne_mono (by omega)
        omega
      · rw [if_neg h1, if_neg h2]
        have r1 : rne (a * 4503599627370496) b ≤ 9007199254740992 := rne_le (by omega) (by omega)
        have r2 : 4503599627370496 ≤ rne (c * 4503599627370496) b := rne_ge (by omega) (by omega)
        omega
    omega
  · have key : Bw x d ≤ Bw y d := by
      unfold Bw
      generalize nM x = a at *
      generalize nM y = c at *
      generalize nM d = b at *
      by_cases h1 : a < b <;> by_cases h2 : c < b
      · rw [if_pos h1, if_pos h2]
        have r1 : rne (a * 9007199254740992) b ≤ rne (c * 9007199254740992) b := rne_mono (by omega)
        omega
      · rw [if_pos h1, if_neg h2]
        have r1 : rne (a * 9007199254740992) b ≤ 9007199254740992 := rne_le (by omega) (by omega)
        have r2 : 4503599627370496 ≤ rne (c * 4503599627370496) b := rne_ge (by omega) (by omega)
        omega
      · omega
      · rw [if_neg h1, if_neg h2]
        have r1 : rne (a * 4503599627370496) b ≤ rne (c * 4503599627370496) b := rne_mono (by omega)
        omega
    omega

/-- Over a power of two it rises strictly. -/
theorem Gr_strict {x y d : Nat} (h0 : 0 < x) (hp : nM d = 4503599627370496) (h : x < y) : Gr x d < Gr y d := by
  have ⟨a1, a2⟩ := nM_bounds h0
  have ⟨c1, c2⟩ := nM_bounds (x := y) (by omega)
  have hlt := norm_lt h0 h
  unfold Gr Bw
  rw [hp, if_neg (by omega), if_neg (by omega), rne_exact _ (by omega), rne_exact _ (by omega)]
  omega

end Go.Proofs.Qxb6604667a
