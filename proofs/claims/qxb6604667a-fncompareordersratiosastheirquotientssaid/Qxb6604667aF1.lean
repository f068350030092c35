import Ieee.Arith
namespace Go.Proofs.Qxb6604667a
open Ieee

/-- 'n / g' to the nearest whole number, ties to even. -/
def rne (n g : Nat) : Nat := if g < 2 * (n % g) ∨ (g = 2 * (n % g) ∧ n / g % 2 = 1) then n / g + 1 else n / g

theorem cut_eq (neg : Bool) (n drop : Nat) (h : drop ≤ n.log2 + 2) : Toward.even.cut neg n drop = rne n (2 ^ drop) := by
  unfold Toward.cut rne
  simp only [Nat.min_eq_left h, Nat.one_shiftLeft]
  by_cases hc : 2 ^ drop < 2 * (n % 2 ^ drop) ∨ (2 ^ drop = 2 * (n % 2 ^ drop) ∧ n / 2 ^ drop % 2 = 1)
  · rw [if_pos hc]
    have : (decide (2 ^ drop < 2 * (n % 2 ^ drop)) || (2 ^ drop == 2 * (n % 2 ^ drop) && n / 2 ^ drop % 2 == 1)) = true := by
      simpa using hc
    rw [this]; rfl
  · rw [if_neg hc]
    have : (decide (2 ^ drop < 2 * (n % 2 ^ drop)) || (2 ^ drop == 2 * (n % 2 ^ drop) && n / 2 ^ drop % 2 == 1)) = false := by
      rw [Bool.eq_false_iff]; intro h'; exact hc (by simpa using h')
    rw [this]; rfl

theorem rne_bounds (n g : Nat) : n / g ≤ rne n g ∧ rne n g ≤ n / g + 1 := by
  unfold rne; split <;> omega

theorem rne_ge {n g c : Nat} (hg : 0 < g) (h : c * g ≤ n) : c ≤ rne n g :=
  Nat.le_trans ((Nat.le_div_iff_mul_le hg).2 h) (rne_bounds n g).1

theorem rne_le {n g c : Nat} (hg : 0 < g) (h : n ≤ c * g) : rne n g ≤ c := by
  rcases Nat.lt_or_ge (n / g) c with hl | hl
  · have := (rne_bounds n g).2; omega
  · have h1 : c * g ≤ n := (Nat.le_div_iff_mul_le hg).1 hl
    have h2 : n = c * g := Nat.le_antisymm h h1
    subst h2
    unfold rne
    rw [Nat.mul_mod_left, Nat.mul_div_cancel _ hg, if_neg]
    · exact Nat.le_refl _
    · omega

theorem rne_exact {g : Nat} (c : Nat) (hg : 0 < g) : rne (c * g) g = c :=
  Nat.le_antisymm (rne_le hg (Nat.le_refl _)) (rne_ge hg (Nat.le_refl _))

theorem rne_mono {n n' g : Nat} (h : n ≤ n') : rne n g ≤ rne n' g := by
  have hq : n / g ≤ n' / g := Nat.div_le_div_right h
  rcases Nat.lt_or_ge (n / g) (n' / g) with hl | hl
  · have h1 := (rne_bounds n g).2
    have h2 := (rne_bounds n' g).1
    omega
  · have he : n / g = n' / g := Nat.le_antisymm hq hl
    have e1 := Nat.div_add_mod n g
    have e2 := Nat.div_add_mod n' g
    rw [he] at e1
    unfold rne
    rw [he]
    generalize g * (n' / g) = z at e1 e2
    generalize n' / g = q at *
    generalize n % g = r at *
    generalize n' % g = r' at *
    have hr : r ≤ r' := by omega
    split <;> split <;> omega

theorem rne_scale {n g c : Nat} (hc : 0 < c) : rne (c * n) (c * g) = rne n g := by
  unfold rne
  rw [Nat.mul_div_mul_left _ _ hc, Nat.mul_mod_mul_left]
  generalize n % g = r
  generalize n / g = q
  have e : 2 * (c * r) = c * (2 * r) := by rw [Nat.mul_left_comm]
  rw [e]
  have h1 : c * g < c * (2 * r) ↔ g < 2 * r := Nat.mul_lt_mul_left hc
  have h2 : c * g = c * (2 * r) ↔ g = 2 * r := Nat.mul_right_inj (Nat.pos_iff_ne_zero.1 hc)
  simp only [h1, h2]

/-- The sticky digit serves as the whole remainder does. -/
theorem rne_sticky (a b k : Nat) (hb : 0 < b) (hk : 0 < k) : rne (2 * (a / b) + (a % b != 0).toNat) (2 * (2 * k)) = rne a (b * (2 * k)) := by
  have hq : a / (b * (2 * k)) = a / b / (2 * k) := (Nat.div_div_eq_div_mul a b (2 * k)).symm
  have hm : a % (b * (2 * k)) = a % b + b * (a / b % (2 * k)) := Nat.mod_mul
  have hr : a % b < b := Nat.mod_lt _ hb
  unfold rne
  rw [hq, hm]
  generalize hs : (a % b != 0).toNat = s
  have hs' : (s = 0 ∧ a % b = 0) ∨ (s = 1 ∧ 0 < a % b) := by
    rcases Nat.eq_zero_or_pos (a % b) with h0 | h0
    · left; rw [h0] at hs; exact ⟨hs.symm, h0⟩
    · right
      have : (a % b != 0) = true := by simp; omega
      rw [this] at hs; exact ⟨hs.symm, h0⟩
  generalize a / b = y
  generalize a % b = r at *
  have hQ : (2 * y + s) / (2 * (2 * k)) = y / (2 * k) := by
    rw [← Nat.div_div_eq_div_mul]
    congr 1
    omega
  have hR : (2 * y + s) % (2 * (2 * k)) = 2 * (y % (2 * k)) + s := by
    have : (2 * y + s) % (2 * (2 * k)) = (2 * y + s) % 2 + 2 * ((2 * y + s) / 2 % (2 * k)) := Nat.mod_mul
    rw [this]
    have h1 : (2 * y + s) / 2 = y := by omega
    have h2 : (2 * y + s) % 2 = s := by omega
    rw [h1, h2]; omega
  rw [hQ, hR]
  generalize y / (2 * k) = q
  have hu : y % (2 * k) < 2 * k := Nat.mod_lt _ (by omega)
  generalize y % (2 * k) = u at *
  have e1 : b * (2 * k) = 2 * (b * k) := Nat.mul_left_comm ..
  rw [e1]
  rcases Nat.lt_trichotomy k u with h | h | h
  · have : b * k + b ≤ b * u := by rw [← Nat.mul_succ]; exact Nat.mul_le_mul_left b h
    rw [if_pos (by omega), if_pos (by omega)]
  · subst h
    generalize b * k = z
    by_cases hq1 : q % 2 = 1
    · rw [if_pos (by omega), if_pos (by omega)]
    · rcases hs' with ⟨h1, h2⟩ | ⟨h1, h2⟩
      · rw [if_neg (by omega), if_neg (by omega)]
      · rw [if_pos (by omega), if_pos (by omega)]
  · have : b * u + b ≤ b * k := by rw [← Nat.mul_succ]; exact Nat.mul_le_mul_left b h
    rw [if_neg (by omega), if_neg (by omega)]

end Go.Proofs.Qxb6604667a
