import Derived.Test.Qxb6604710aQ3
import Derived.RegionTactic
namespace Go.Proofs.Qxb6604710a
open Go.RowKit

def ptr (t : Nat) : Value := .pointer (some ⟨t, 0, none⟩)

set_option maxHeartbeats 1000000 in
theorem swap_any (w : World) (q len cap i j a b : Nat) (hi : i < len) (hj : j < len) (hij : i ≠ j)
    (hqi : w.cell? ⟨q, i, none⟩ = some (.pointer (some ⟨a, 0, none⟩))) (hqj : w.cell? ⟨q, j, none⟩ = some (.pointer (some ⟨b, 0, none⟩)))
    (fi : w.frozen? ⟨q, i, none⟩ = false) (fj : w.frozen? ⟨q, j, none⟩ = false)
    (hqa : a ≠ q) (hqb : b ≠ q) (hab : a ≠ b) (va vb : Value)
    (ca : w.cell? ⟨a, 10, none⟩ = some va) (cb : w.cell? ⟨b, 10, none⟩ = some vb)
    (fa : w.frozen? ⟨a, 10, none⟩ = false) (fb : w.frozen? ⟨b, 10, none⟩ = false) :
    Calls Try.prog 102 #[.slice (some ⟨q, 0, none⟩) len cap, .int .i64 i, .int .i64 j] w fun e w' => e = .returned (.tuple #[]) ∧
      ∃ n, w' = ((((w.setCell ⟨q, i, none⟩ (.pointer (some ⟨b, 0, none⟩))).setCell ⟨q, j, none⟩ (.pointer (some ⟨a, 0, none⟩))).setCell ⟨b, 10, none⟩ (.int .i64 i)).setCell ⟨a, 10, none⟩ (.int .i64 j)).drewN n := by
  have hi' : (i : Int) < (len : Int) := by omega
  have hj' : (j : Int) < (len : Int) := by omega
  go_enter Try.func102, Try.ntmps102
  go_wp2
  go_region
  go_wp2
  go_region
  all_goals
    go_end0
    exact ⟨rfl, 2, rfl⟩

end Go.Proofs.Qxb6604710a
