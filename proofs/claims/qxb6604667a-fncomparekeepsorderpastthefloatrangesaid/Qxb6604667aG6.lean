import Derived.Test.Qxb6604667aG5
namespace Go.Proofs.Qxb6604667a
open Go.RowKit

set_option maxRecDepth 100000
set_option maxHeartbeats 4000000

def wordOf : Value → Nat
  | .float _ b => b
  | _ => 0

theorem nM_half {x : Nat} (h : 9007199254740992 ≤ x) : nM (x - 4503599627370496) = nM x := by
  have ⟨a, _⟩ := norm_big (x := x) (by omega)
  have ⟨b, _⟩ := norm_big (x := x - 4503599627370496) (by omega)
  rw [a, b]; omega

theorem nM_twice {x : Nat} (h0 : 0 < x) : nM (if x < 4503599627370496 then 2 * x else x + 4503599627370496) = nM x := by
  by_cases c : x < 4503599627370496
  · rw [if_pos c]
    have ⟨k1, k2, _⟩ := norm_small h0 c
    have hl : (2 * x).log2 = x.log2 + 1 := by
      have := log2_mul_pow 1 h0
      rw [Nat.mul_comm]; exact this
    by_cases c2 : 2 * x < 4503599627370496
    · have ⟨m1, m2, _⟩ := norm_small (x := 2 * x) (by omega) c2
      rw [m2, k2, hl, Nat.mul_comm 2 x, Nat.mul_assoc]
      congr 1
      have : 52 - x.log2 = 52 - (x.log2 + 1) + 1 := by omega
      rw [this, Nat.pow_succ, Nat.mul_comm]
    · have ⟨m1, _⟩ := norm_big (x := 2 * x) (by omega)
      have : 51 ≤ x.log2 := (Nat.le_log2 (by omega)).2 (by omega)
      have hk : x.log2 = 51 := by omega
      rw [m1, k2, hk]; omega
  · rw [if_neg c]
    have ⟨a, _⟩ := norm_big (x := x) (by omega)
    have ⟨b, _⟩ := norm_big (x := x + 4503599627370496) (by omega)
    rw [a, b]; omega

theorem nM_one : nM 4607182418800017408 = 4503599627370496 := by
  have ⟨a, _⟩ := norm_big (x := 4607182418800017408) (by omega)
  rw [a]

def gap (x : Nat) : Nat := 4607182418800017408 - x
theorem gap_lt {x y : Nat} (h : x < y) (h2 : x < 4607182418800017408) : gap y < gap x := by unfold gap; omega

theorem half_step {x : Nat} (h : 9007199254740992 ≤ x) (hx : x < 9218868437227405312) :
    ∃ y, (∀ w : World, (binOp .quo 22 (fl x) (fl 4611686018427387904)).run Try.prog w = .ok (fl y) w) ∧ nM y = nM x ∧ 0 < y ∧ y < x :=
  ⟨x - 4503599627370496, fun w => run_float_arith w .quo 22 .f64 _ _ _ (div_two h hx), nM_half h, by omega, by omega⟩

theorem pow2_any (d : Nat) (h0 : 0 < d) (h : d < 9218868437227405312) (w : World) :
    Calls Try.prog 10 #[fl d] w fun e w' => ∃ r : Bool, e = .returned (.bool r) ∧ w' = w ∧ (r = true → nM d = 4503599627370496) := by
  go_enter Try.func10, Try.ntmps10
  go_wp2_with fail
  go_loopw [3] (fun v wr => ∃ x : Nat, v = fl x ∧ wr = w ∧ 0 < x ∧ x < 9218868437227405312 ∧ nM x = nM d) (fun v _ => wordOf v)
  case atStart => exact ⟨d, rfl, rfl, h0, h, rfl⟩
  case round =>
    obtain ⟨x, rfl, rfl, hx0, hx, hM⟩ := hrel
    have hge := ge_f (ok_le (x := x) (by omega)) (ok_le (x := 4611686018427387904) (by decide))
    rw [rg_le (x := x) (by omega), show rg 4611686018427387904 = 4611686018427387904 from rfl] at hge
    by_cases c : 4611686018427387904 ≤ x
    · rw [decide_eq_true c] at hge
      obtain ⟨y, hdv, hM', hy0, hy⟩ := half_step (x := x) (by omega) hx
      have Hc := hide (show 0 < y ∧ y < 9218868437227405312 ∧ nM y = nM d from ⟨hy0, by omega, by rw [hM', hM]⟩)
      clear hM hM' hy0 hx0 hx c
      go_wp2_with fail
      go_roundw
      case rel => exact ⟨y, rfl, by first | rfl | trivial, (unhide Hc).1, (unhide Hc).2.1, (unhide Hc).2.2⟩
      case measure => simp only [wordOf]; exact hy
    · rw [decide_eq_false c] at hge
      have Hx := hide (show 0 < x ∧ x < 4611686018427387904 ∧ nM x = nM d from ⟨hx0, by omega, hM⟩)
      clear hM hx0 hx c
      go_wp2_with fail
      go_loopw [3] (fun v w' => ∃ x : Nat, v = fl x ∧ w' = wr ∧ 0 < x ∧ x < 4611686018427387904 ∧ nM x = nM d) (fun v _ => gap (wordOf v))
      case atStart => exact ⟨x, rfl, rfl, (unhide Hx).1, (unhide Hx).2.1, (unhide Hx).2.2⟩
      case round =>
        clear hge Hx
        obtain ⟨x, rfl, rfl, hx0, hx, hM⟩ := hrel
        have hlt := lt_f (ok_le (x := x) (by omega)) (ok_le (x := 4607182418800017408) (by decide))
        rw [rg_le (x := x) (by omega), show rg 4607182418800017408 = 4607182418800017408 from rfl] at hlt
        have heq := eq_f (ok_le (x := x) (by omega)) (ok_le (x := 4607182418800017408) (by decide))
        rw [rg_le (x := x) (by omega), show rg 4607182418800017408 = 4607182418800017408 from rfl] at heq
        by_cases c : x < 4607182418800017408
        · rw [decide_eq_true c] at hlt
          have hmu : ∀ w : World, (binOp .mul 22 (fl x) (fl 4611686018427387904)).run Try.prog w = .ok (fl (if x < 4503599627370496 then 2 * x else x + 4503599627370496)) w :=
            fun w => run_float_arith w .mul 22 .f64 _ _ _ (mul_two hx0 c)
          have hM' := nM_twice hx0
          have hy : x < (if x < 4503599627370496 then 2 * x else x + 4503599627370496) ∧ (if x < 4503599627370496 then 2 * x else x + 4503599627370496) < 4611686018427387904 := by split <;> omega
          generalize (if x < 4503599627370496 then 2 * x else x + 4503599627370496) = y at *
          have Hc := hide (show 0 < y ∧ y < 4611686018427387904 ∧ nM y = nM d from ⟨by omega, by omega, by rw [hM', hM]⟩)
          have Hm := hide (gap_lt hy.1 c)
          clear hM hM' hx0 hx c hy heq
          go_wp2_with fail
          go_roundw
          case rel => exact ⟨y, rfl, by first | rfl | trivial, (unhide Hc).1, (unhide Hc).2.1, (unhide Hc).2.2⟩
          case measure => simp only [wordOf]; exact unhide Hm
        · rw [decide_eq_false c] at hlt
          have Hr := hide (show decide (x = 4607182418800017408) = true → nM d = 4503599627370496 from fun hd => by
            have hd := of_decide_eq_true hd
            rw [← hM, hd]; exact nM_one)
          generalize decide (x = 4607182418800017408) = r at *
          clear hM hx0 hx c
          go_wp2_with fail
          go_ret
          exact ⟨r, rfl, rfl, unhide Hr⟩

end Go.Proofs.Qxb6604667a
