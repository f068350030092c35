import Derived.Test.Qxb6604667aF3
namespace Go.Proofs.Qxb6604667a
open Ieee

/-- A finite word above nought as 'nM * 2 ^ nE' with a significand of 53 digits. -/
def nM (x : Nat) : Nat := mg x * 2 ^ (52 - (mg x).log2)
def nE (x : Nat) : Int := pl x - ((52 - (mg x).log2 : Nat) : Int)

theorem log_le {x : Nat} (h : 0 < x) : (mg x).log2 ≤ 52 := by
  have h1 := mg_lt x
  have h2 := mg_pos h
  exact Nat.le_of_lt_succ ((Nat.log2_lt (by omega)).2 h1)

theorem nM_bounds {x : Nat} (h : 0 < x) : 4503599627370496 ≤ nM x ∧ nM x < 9007199254740992 := by
  have hk := log_le h
  have hp := mg_pos h
  have h1 : 2 ^ (mg x).log2 ≤ mg x := Nat.log2_self_le (by omega)
  have h2 : mg x < 2 ^ ((mg x).log2 + 1) := (Nat.log2_lt (by omega)).1 (Nat.lt_succ_self _)
  unfold nM
  generalize (mg x).log2 = k at *
  generalize mg x = m at *
  have e1 : 2 ^ k * 2 ^ (52 - k) = 4503599627370496 := by rw [← Nat.pow_add, show k + (52 - k) = 52 from by omega]
  have e2 : 2 ^ (k + 1) * 2 ^ (52 - k) = 9007199254740992 := by rw [← Nat.pow_add, show k + 1 + (52 - k) = 53 from by omega]
  have hc : 0 < 2 ^ (52 - k) := Nat.two_pow_pos _
  constructor
  · rw [← e1]; exact Nat.mul_le_mul_right _ h1
  · rw [← e2]; exact (Nat.mul_lt_mul_right hc).2 h2

theorem norm_big {x : Nat} (h : 4503599627370496 ≤ x) : nM x = 4503599627370496 + x % 4503599627370496 ∧ nE x = -1075 + (x / 4503599627370496 : Nat) := by
  have hm : mg x = 4503599627370496 + x % 4503599627370496 := if_neg (by omega)
  have hl : (mg x).log2 = 52 := by
    have h1 := mg_lt x
    have h2 : 52 ≤ (mg x).log2 := (Nat.le_log2 (by omega)).2 (by omega)
    have := log_le (x := x) (by omega)
    omega
  have hp : pl x = -1075 + (x / 4503599627370496 : Nat) := if_neg (by omega)
  unfold nM nE
  rw [hl, hp, hm]
  constructor
  · simp
  · simp

theorem norm_small {x : Nat} (h0 : 0 < x) (h : x < 4503599627370496) : x.log2 ≤ 51 ∧ nM x = x * 2 ^ (52 - x.log2) ∧ nE x = -1126 + (x.log2 : Int) := by
  have hm : mg x = x := if_pos h
  have hp : pl x = -1074 := if_pos h
  have hl : x.log2 ≤ 51 := Nat.le_of_lt_succ ((Nat.log2_lt (by omega)).2 h)
  refine ⟨hl, ?_, ?_⟩
  · unfold nM; rw [hm]
  · unfold nE; rw [hm, hp]; omega

/-- The quotient's magnitude with its last digit. -/
def Qm (n d : Nat) : Nat := 2 * (nM n * 2 ^ 54 / nM d) + (nM n * 2 ^ 54 % nM d != 0).toNat

theorem div_fin {n d : Nat} (hn : 0 < n) (hn' : n < 9218868437227405312) (hd : 0 < d) (hd' : d < 9218868437227405312) :
    double.div n d = some (double.nearest false (Qm n d) (nE n - nE d - 55)) := by
  unfold Format.div
  rw [read_fin hn', read_fin hd']
  have hkn := log_le hn
  have hkd := log_le hd
  have hpd := mg_pos hd
  simp only [Datum.quotient, d_fb]
  rw [if_neg (by omega)]
  simp only [Option.map_some, Format.write]
  congr 1
  unfold Qm nM nE
  generalize mg n = a at *
  generalize mg d = b at *
  generalize ha : a.log2 = ka at *
  generalize hb : b.log2 = kb at *
  rw [Nat.shiftLeft_eq]
  have e : a * 2 ^ (52 - ka) * 2 ^ 54 = 2 ^ (52 - kb) * (a * 2 ^ (52 + 2 + kb - ka)) := by
    rw [Nat.mul_assoc, ← Nat.pow_add, Nat.mul_left_comm, ← Nat.pow_add, show 52 - ka + 54 = 52 - kb + (52 + 2 + kb - ka) from by omega]
  rw [e, Nat.mul_comm b, Nat.mul_div_mul_left _ _ (Nat.two_pow_pos _), Nat.mul_mod_mul_left]
  have e2 : (2 ^ (52 - kb) * (a * 2 ^ (52 + 2 + kb - ka) % b) != 0) = (a * 2 ^ (52 + 2 + kb - ka) % b != 0) := by
    have hc : 0 < 2 ^ (52 - kb) := Nat.two_pow_pos _
    generalize 2 ^ (52 - kb) = c at *
    generalize a * 2 ^ (52 + 2 + kb - ka) % b = r
    rcases Nat.eq_zero_or_pos r with h0 | h0
    · subst h0; rfl
    · have : 0 < c * r := Nat.mul_pos hc h0
      have e1 : (c * r != 0) = true := by simp; omega
      have e2 : (r != 0) = true := by simp; omega
      rw [e1, e2]
  rw [e2]
  congr 1
  omega

theorem nearest_in {m : Nat} {p : Int} (hL : 52 ≤ m.log2) (hm : 0 < m) (h : -1074 ≤ p + m.log2 - 52) :
    double.nearest false m p = min ((p + m.log2 - 52 + 1074).toNat * 4503599627370496 + rne m (2 ^ (m.log2 - 52))) 9218868437227405312 := by
  unfold Format.nearest
  rw [if_neg (by omega)]
  simp only [d_fb, d_lp, d_binade, d_inf, Format.word, Bool.false_eq_true, if_false]
  have e : max (p + (m.log2 : Int) - ((52 : Nat) : Int)) (-1074) = p + m.log2 - 52 := by omega
  rw [e]
  have e1 : (p - (p + (m.log2 : Int) - 52)).toNat = 0 := by omega
  have e2 : (p + (m.log2 : Int) - 52 - p).toNat = m.log2 - 52 := by omega
  have e3 : (p + (m.log2 : Int) - 52 - -1074).toNat = (p + (m.log2 : Int) - 52 + 1074).toNat := by omega
  rw [e1, e2, e3, Nat.shiftLeft_zero, cut_eq _ _ _ (by omega)]

theorem nearest_low {m : Nat} {p : Int} (hL : 52 ≤ m.log2) (hm : 0 < m) (h : p + m.log2 - 52 < -1074) :
    double.nearest false m p ≤ 4503599627370496 := by
  unfold Format.nearest
  rw [if_neg (by omega)]
  simp only [d_fb, d_lp, d_binade, d_inf, Format.word, Bool.false_eq_true, if_false]
  have e : max (p + (m.log2 : Int) - ((52 : Nat) : Int)) (-1074) = -1074 := by omega
  rw [e]
  have e1 : (p - -1074).toNat = 0 := by omega
  rw [e1, Nat.shiftLeft_zero, Int.sub_self, Int.toNat_zero, Nat.zero_mul, Nat.zero_add]
  refine Nat.le_trans (Nat.min_le_left _ _) ?_
  have hlt : m < 2 ^ (m.log2 + 1) := (Nat.log2_lt (by omega)).1 (Nat.lt_succ_self _)
  have hdr : m.log2 - 51 ≤ min (-1074 - p).toNat (m.log2 + 2) := by omega
  have hcut : Toward.even.cut false m (-1074 - p).toNat = rne m (2 ^ min (-1074 - p).toNat (m.log2 + 2)) := by
    rw [← cut_eq false m _ (Nat.min_le_right _ _)]
    unfold Toward.cut
    rw [Nat.min_assoc, Nat.min_self]
  rw [hcut]
  generalize min (-1074 - p).toNat (m.log2 + 2) = g at *
  refine rne_le (Nat.two_pow_pos _) ?_
  have e3 : 2 ^ (m.log2 + 1) ≤ 2 ^ (52 + g) := Nat.pow_le_pow_right (by decide) (by omega)
  have e4 : (2:Nat) ^ (52 + g) = 4503599627370496 * 2 ^ g := by rw [Nat.pow_add]
  omega

end Go.Proofs.Qxb6604667a
