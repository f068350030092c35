import Derived.Test.Qxb6604667aF4
namespace Go.Proofs.Qxb6604667a
open Ieee

/-- The word of the quotient of the two significands, each brought to [0.5, 1). -/
def Bw (n d : Nat) : Nat :=
  if nM n < nM d then 1021 * 4503599627370496 + rne (nM n * 9007199254740992) (nM d) else 1022 * 4503599627370496 + rne (nM n * 4503599627370496) (nM d)

/-- The rung of the quotient were there no end to the exponents. -/
def Gr (n d : Nat) : Int := (nE n - nE d) * 4503599627370496 + Bw n d

theorem Bw_bounds {n d : Nat} (hn : 0 < n) (hd : 0 < d) : 1022 * 4503599627370496 ≤ Bw n d ∧ Bw n d < 1024 * 4503599627370496 := by
  have ⟨a1, a2⟩ := nM_bounds hn
  have ⟨b1, b2⟩ := nM_bounds hd
  unfold Bw
  generalize nM n = a at *
  generalize nM d = b at *
  split
  · have h1 : 4503599627370496 ≤ rne (a * 9007199254740992) b := rne_ge (by omega) (by omega)
    have h2 : rne (a * 9007199254740992) b ≤ 9007199254740992 := rne_le (by omega) (by omega)
    omega
  · have h1 : 4503599627370496 ≤ rne (a * 4503599627370496) b := rne_ge (by omega) (by omega)
    have h2 : rne (a * 4503599627370496) b ≤ 9007199254740991 := rne_le (by omega) (by omega)
    omega

theorem Qm_log {n d : Nat} (hn : 0 < n) (hd : 0 < d) :
    0 < Qm n d ∧ (Qm n d).log2 = (if nM n < nM d then 54 else 55) ∧
    rne (Qm n d) (2 ^ ((Qm n d).log2 - 52)) = (if nM n < nM d then rne (nM n * 9007199254740992) (nM d) else rne (nM n * 4503599627370496) (nM d)) := by
  have ⟨a1, a2⟩ := nM_bounds hn
  have ⟨b1, b2⟩ := nM_bounds hd
  have hQ : Qm n d = 2 * (nM n * 2 ^ 54 / nM d) + (nM n * 2 ^ 54 % nM d != 0).toNat := rfl
  have hs : (nM n * 2 ^ 54 % nM d != 0).toNat ≤ 1 := Bool.toNat_le _
  generalize nM n = a at *
  generalize nM d = b at *
  have st2 := rne_sticky (a * 2 ^ 54) b 1 (by omega) (by omega)
  have st4 := rne_sticky (a * 2 ^ 54) b 2 (by omega) (by omega)
  rw [← hQ] at st2 st4
  split
  · rename_i h
    have h1 : 9007199254740992 ≤ a * 2 ^ 54 / b := (Nat.le_div_iff_mul_le (by omega)).2 (by omega)
    have h2 : a * 2 ^ 54 / b < 18014398509481984 := (Nat.div_lt_iff_lt_mul (by omega)).2 (by omega)
    have hl : (Qm n d).log2 = 54 := by
      have l1 : 54 ≤ (Qm n d).log2 := (Nat.le_log2 (by omega)).2 (by omega)
      have l2 : (Qm n d).log2 < 55 := (Nat.log2_lt (by omega)).2 (by omega)
      omega
    refine ⟨by omega, hl, ?_⟩
    rw [hl]
    refine Eq.trans st2 ?_
    have := rne_scale (n := a * 9007199254740992) (g := b) (c := 2) (by decide)
    rw [← this]
    congr 1 <;> omega
  · rename_i h
    have h1 : 18014398509481984 ≤ a * 2 ^ 54 / b := (Nat.le_div_iff_mul_le (by omega)).2 (by omega)
    have h2 : a * 2 ^ 54 / b < 36028797018963968 := (Nat.div_lt_iff_lt_mul (by omega)).2 (by omega)
    have hl : (Qm n d).log2 = 55 := by
      have l1 : 55 ≤ (Qm n d).log2 := (Nat.le_log2 (by omega)).2 (by omega)
      have l2 : (Qm n d).log2 < 56 := (Nat.log2_lt (by omega)).2 (by omega)
      omega
    refine ⟨by omega, hl, ?_⟩
    rw [hl]
    refine Eq.trans st4 ?_
    have := rne_scale (n := a * 4503599627370496) (g := b) (c := 4) (by decide)
    rw [← this]
    congr 1 <;> omega

/-- The place of the quotient's last digit. -/
def lastP (n d : Nat) : Int := nE n - nE d - 107 + (if nM n < nM d then 54 else 55)

theorem kept_le {n d : Nat} (hn : 0 < n) (hd : 0 < d) :
    (if nM n < nM d then rne (nM n * 9007199254740992) (nM d) else rne (nM n * 4503599627370496) (nM d)) ≤ 9007199254740992 := by
  have ⟨a1, a2⟩ := nM_bounds hn
  have ⟨b1, b2⟩ := nM_bounds hd
  generalize nM n = a at *
  generalize nM d = b at *
  split
  · exact rne_le (by omega) (by omega)
  · exact rne_le (by omega) (by omega)

/-- Within the normal range the quotient's word is the rung. -/
theorem div_in {n d : Nat} (hn : 0 < n) (hn' : n < 9218868437227405312) (hd : 0 < d) (hd' : d < 9218868437227405312) (h : -1074 ≤ lastP n d) :
    0 ≤ Gr n d ∧ double.div n d = some (min (Gr n d).toNat 9218868437227405312) := by
  rw [div_fin hn hn' hd hd']
  have ⟨q0, q1, q2⟩ := Qm_log hn hd
  have hk := kept_le hn hd
  have hL : 52 ≤ (Qm n d).log2 := by rw [q1]; split <;> omega
  have hin : -1074 ≤ (nE n - nE d - 55) + (Qm n d).log2 - 52 := by
    unfold lastP at h
    rw [q1]; revert h; split <;> intro h <;> omega
  rw [nearest_in hL q0 hin, q2]
  rw [q1] at hin
  rw [q1]
  unfold Gr Bw
  clear q1 q2 hL
  by_cases hc : nM n < nM d
  · simp only [if_pos hc] at *
    generalize rne (nM n * 9007199254740992) (nM d) = r at *
    refine ⟨by omega, ?_⟩
    congr 2
    omega
  · simp only [if_neg hc] at *
    generalize rne (nM n * 4503599627370496) (nM d) = r at *
    refine ⟨by omega, ?_⟩
    congr 2
    omega

theorem div_low {n d : Nat} (hn : 0 < n) (hn' : n < 9218868437227405312) (hd : 0 < d) (hd' : d < 9218868437227405312) (h : lastP n d < -1074) :
    ∃ r, double.div n d = some r ∧ r ≤ 4503599627370496 := by
  rw [div_fin hn hn' hd hd']
  refine ⟨_, rfl, ?_⟩
  have ⟨q0, q1, q2⟩ := Qm_log hn hd
  have hL : 52 ≤ (Qm n d).log2 := by rw [q1]; split <;> omega
  refine nearest_low hL q0 ?_
  unfold lastP at h
  rw [q1]; revert h; split <;> intro h <;> omega

/-- What the quotient of two finite numbers above nought is. -/
theorem div_pos {n d : Nat} (hn : 0 < n) (hn' : n < 9218868437227405312) (hd : 0 < d) (hd' : d < 9218868437227405312) :
    ∃ r, double.div n d = some r ∧ r ≤ 9218868437227405312 ∧ (9007199254740992 ≤ r → r < 9218868437227405312 → (r : Int) = Gr n d) := by
  by_cases h : -1074 ≤ lastP n d
  · have ⟨h0, e⟩ := div_in hn hn' hd hd' h
    exact ⟨_, e, Nat.min_le_right _ _, fun h1 h2 => by omega⟩
  · obtain ⟨r, e, hr⟩ := div_low hn hn' hd hd' (by omega)
    exact ⟨r, e, by omega, fun h1 h2 => by omega⟩

theorem div_zero {n d : Nat} (hn : n = 0 ∨ n = 9223372036854775808) (hd : 0 < d) (hd' : d < 9218868437227405312) : double.div n d = some n := by
  unfold Format.div
  have hpd := mg_pos hd
  rcases hn with rfl | rfl
  · rw [read_zero, read_fin hd']
    simp only [Datum.quotient, d_fb]
    rw [if_neg (by omega)]
    simp [Format.write, Format.nearest, Format.word]
  · rw [read_sgn, read_fin hd']
    simp only [Datum.quotient, d_fb]
    rw [if_neg (by omega)]
    simp [Format.write, Format.nearest, Format.word, d_sw]

theorem div_inf {d : Nat} (hd' : d < 9218868437227405312) : double.div 9218868437227405312 d = some 9218868437227405312 := by
  unfold Format.div
  rw [read_inf, read_fin hd']
  simp [Datum.quotient, Format.write, Format.word, d_inf]

/-- The significand as a word in [0.5, 1). -/
def frw (x : Nat) : Nat := 1021 * 4503599627370496 + nM x

theorem frw_norm {x : Nat} (h : 0 < x) : 0 < frw x ∧ frw x < 9218868437227405312 ∧ nM (frw x) = nM x ∧ nE (frw x) = -53 := by
  have ⟨a1, a2⟩ := nM_bounds h
  have hb : 4503599627370496 ≤ frw x := by unfold frw; omega
  have ⟨e1, e2⟩ := norm_big hb
  rw [e1, e2]
  unfold frw
  omega

theorem div_frw {n d : Nat} (hn : 0 < n) (hd : 0 < d) : double.div (frw n) (frw d) = some (Bw n d) := by
  have ⟨a1, a2, a3, a4⟩ := frw_norm hn
  have ⟨b1, b2, b3, b4⟩ := frw_norm hd
  have hl : -1074 ≤ lastP (frw n) (frw d) := by
    unfold lastP; rw [a4, b4]; split <;> omega
  have ⟨h0, e⟩ := div_in a1 a2 b1 b2 hl
  rw [e]
  have ⟨c1, c2⟩ := Bw_bounds hn hd
  have : Gr (frw n) (frw d) = Bw n d := by
    unfold Gr Bw
    rw [a3, a4, b3, b4]; simp
  rw [this]
  congr 1
  omega

theorem norm_two : nM 4611686018427387904 = 4503599627370496 ∧ nE 4611686018427387904 = -51 := by
  have ⟨e1, e2⟩ := norm_big (x := 4611686018427387904) (by omega)
  rw [e1, e2]; omega

/-- Half of a number that is not near the lower end. -/
theorem div_two {n : Nat} (hn : 9007199254740992 ≤ n) (hn' : n < 9218868437227405312) : double.div n 4611686018427387904 = some (n - 4503599627370496) := by
  have ⟨e1, e2⟩ := norm_big (x := n) (by omega)
  have ⟨t1, t2⟩ := norm_two
  have hc : ¬ nM n < nM 4611686018427387904 := by rw [e1, t1]; omega
  have hl : -1074 ≤ lastP n 4611686018427387904 := by
    unfold lastP; rw [if_neg hc, e2, t2]; omega
  have ⟨h0, e⟩ := div_in (by omega) hn' (by omega) (by omega) hl
  rw [e]
  have : Gr n 4611686018427387904 = (n - 4503599627370496 : Nat) := by
    unfold Gr Bw
    rw [if_neg hc, e2, t2, t1, rne_exact _ (by omega), e1]; omega
  rw [this, Int.toNat_natCast, Nat.min_eq_left (by omega)]

end Go.Proofs.Qxb6604667a
