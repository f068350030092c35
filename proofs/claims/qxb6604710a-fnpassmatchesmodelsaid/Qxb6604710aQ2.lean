import Derived.Test.Qxb6604710aQ1
namespace Go.Proofs.Qxb6604710a
open Go.RowKit

def tidB (sa na sb nb : Int) : Bool := if sa = sb then decide (na < nb) else decide (sa < sb)

set_option maxHeartbeats 400000 in
theorem before_any (w : World) (sa na sb nb : Int) :
    Calls Try.prog 104 #[.agg #[.int .i64 sa, .int .u64 na], .agg #[.int .i64 sb, .int .u64 nb]] w fun e w' => e = .returned (.bool (tidB sa na sb nb)) ∧ Below w.heap.size w w' := by
  unfold tidB
  by_cases hc : sa = sb
  · have hb : (sa == sb) = true := by simpa using hc
    rw [if_pos hc]
    clear hc
    go_enter Try.func104, Try.ntmps104
    go_wp2
    go_ret
    exact ⟨rfl, ((Below.refl _ _).alloc (Nat.le_refl _) _).alloc (by simp) _⟩
  · have hb : (sa == sb) = false := by simpa using hc
    rw [if_neg hc]
    clear hc
    go_enter Try.func104, Try.ntmps104
    go_wp2
    go_ret
    exact ⟨rfl, ((Below.refl _ _).alloc (Nat.le_refl _) _).alloc (by simp) _⟩

end Go.Proofs.Qxb6604710a
