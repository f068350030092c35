import Derived.Test.Qxb6604667aProg
import Derived.WalkKit
import Derived.KernelRfl
import Derived.WalkLawsBesides
import Derived.Test.Qxb6604667aF6
namespace Go.Proofs.Qxb6604667a
open Go.RowKit

abbrev fl (x : Nat) : Value := .float .f64 x
abbrev ii (x : Int) : Value := .int .i64 x

theorem hide {p : Prop} (h : p) : Hid p := h
theorem unhide {p : Prop} (h : Hid p) : p := h

def finpos (x : Nat) : Bool := decide (0 < x ∧ x < 9218868437227405312)

theorem fmt_double : FloatKind.f64.format = Ieee.double := rfl

set_option maxRecDepth 100000
set_option maxHeartbeats 4000000

theorem finpos_any (x : Nat) (hx : x < 18446744073709551616) (w : World) :
    Calls Try.prog 11 #[fl x] w fun e w' => e = .returned (.bool (finpos x)) ∧ w' = w := by
  have hg := gt_zero hx
  by_cases h : 0 < x ∧ x ≤ 9218868437227405312
  · rw [decide_eq_true h] at hg
    have ho := order_le h.2 (y := 9218868437227405311) (by decide)
    by_cases hm : x < 9218868437227405312
    · have hc : (FloatKind.f64.format.order x 9218868437227405311 == some .lt || FloatKind.f64.format.order x 9218868437227405311 == some .eq) = true := by
        rw [fmt_double, ho]
        rcases Nat.lt_or_eq_of_le (Nat.le_of_lt_succ hm) with h1 | h1
        · rw [Nat.compare_eq_lt.2 h1]; rfl
        · subst h1; decide
      have hf : finpos x = true := decide_eq_true ⟨h.1, hm⟩
      rw [hf]
      rw [← fmt_double] at hg
      go_enter Try.func11, Try.ntmps11
      go_wp2
      go_ret
      exact ⟨rfl, rfl⟩
    · have hc : (FloatKind.f64.format.order x 9218868437227405311 == some .lt || FloatKind.f64.format.order x 9218868437227405311 == some .eq) = false := by
        rw [fmt_double, ho, Nat.compare_eq_gt.2 (by omega)]; rfl
      have hf : finpos x = false := decide_eq_false (by omega)
      rw [hf]
      rw [← fmt_double] at hg
      go_enter Try.func11, Try.ntmps11
      go_wp2
      go_ret
      exact ⟨rfl, rfl⟩
  · rw [decide_eq_false h] at hg
    have hf : finpos x = false := decide_eq_false (by omega)
    rw [hf]
    rw [← fmt_double] at hg
    go_enter Try.func11, Try.ntmps11
    go_wp2
    go_ret
    exact ⟨rfl, rfl⟩

end Go.Proofs.Qxb6604667a
