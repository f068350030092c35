import Derived.Test.Qxb6604710aQ2
import Derived.Deep.RegionWith
namespace Go.Proofs.Qxb6604710a
open Go.RowKit

def lessB (xa xb : Tx) : Bool := if xa.time = xb.time then tidB xa.site xa.n xb.site xb.n else decide (xa.time < xb.time)

theorem IsTx.drewN {w : World} {t : Nat} {x : Tx} (h : IsTx w t x) (n : Nat) : IsTx (w.drewN n) t x := h
theorem IsTx.below {w w' : World} {t : Nat} {x : Tx} {B : Nat} (h : IsTx w t x) (hb : Below B w w') (ht : t < B) : IsTx w' t x := (hb.block t ht).trans h
theorem IsTx.lt {w : World} {t : Nat} {x : Tx} (h : IsTx w t x) : t < w.heap.size := by
  rcases Nat.lt_or_ge t w.heap.size with h1 | h1
  · exact h1
  · rw [IsTx, Array.getElem?_eq_none h1] at h; cases h

theorem below_drewN (w : World) (B n : Nat) : Below B w (w.drewN n) := ⟨rfl, rfl, rfl, Nat.le_refl _, fun _ _ => rfl⟩

set_option maxHeartbeats 400000 in
theorem less_any (w : World) (q len cap i j a b : Nat) (xa xb : Tx) (hi : i < len) (hj : j < len)
    (hqi : w.cell? ⟨q, i, none⟩ = some (.pointer (some ⟨a, 0, none⟩))) (hqj : w.cell? ⟨q, j, none⟩ = some (.pointer (some ⟨b, 0, none⟩)))
    (ha : IsTx w a xa) (hb : IsTx w b xb) :
    Calls Try.prog 101 #[.slice (some ⟨q, 0, none⟩) len cap, .int .i64 i, .int .i64 j] w fun e w' => e = .returned (.bool (lessB xa xb)) ∧ Below w.heap.size w w' := by
  have hi' : (i : Int) < (len : Int) := by omega
  have hj' : (j : Int) < (len : Int) := by omega
  have a0 := ha.c0
  have a1 := ha.c1
  have b0 := hb.c0
  have b1 := hb.c1
  have ta : ∀ n, Calls Try.prog 103 #[.pointer (some ⟨a, 0, none⟩)] (w.drewN n) fun e w' => e = .returned (.int .u64 xa.time) ∧ w' = w.drewN n := fun n => time_any _ a xa (ha.drewN n)
  have tb : ∀ n, Calls Try.prog 103 #[.pointer (some ⟨b, 0, none⟩)] (w.drewN n) fun e w' => e = .returned (.int .u64 xb.time) ∧ w' = w.drewN n := fun n => time_any _ b xb (hb.drewN n)
  have Ta := hide ta
  have Tb := hide tb
  clear ta tb
  unfold lessB
  generalize xa.time = u at *
  generalize xb.time = v at *
  generalize xa.site = sa at *
  generalize xb.site = sb at *
  generalize xa.n = na at *
  generalize xb.n = nb at *
  clear ha hb
  by_cases hc : u = v
  · have hne : (u != v) = false := by simp [hc]
    rw [if_pos hc]
    clear hc
    go_enter Try.func101, Try.ntmps101
    go_wp2_with fail
    go_quiet (fail)
    go_wp2_with fail
    refine (unhide Ta _).mono ?_
    rintro e w1 ⟨rfl, rfl⟩
    go_wp2_with fail
    refine (unhide Tb _).mono ?_
    rintro e w1 ⟨rfl, rfl⟩
    go_wp2_with fail
    go_region_with (go_at_call 104; refine (before_any _ _ _ _ _).mono ?_; rintro e w1 ⟨rfl, hb1⟩)
    all_goals
      go_wp2
      go_ret
      exact ⟨rfl, (below_drewN _ _ _).trans hb1⟩
  · have hne : (u != v) = true := by simp [hc]
    rw [if_neg hc]
    clear hc
    go_enter Try.func101, Try.ntmps101
    go_wp2_with fail
    go_quiet (fail)
    go_wp2_with fail
    refine (unhide Ta _).mono ?_
    rintro e w1 ⟨rfl, rfl⟩
    go_wp2_with fail
    refine (unhide Tb _).mono ?_
    rintro e w1 ⟨rfl, rfl⟩
    go_wp2_with fail
    refine (unhide Ta _).mono ?_
    rintro e w1 ⟨rfl, rfl⟩
    go_wp2_with fail
    refine (unhide Tb _).mono ?_
    rintro e w1 ⟨rfl, rfl⟩
    go_wp2_with fail
    go_ret
    exact ⟨rfl, below_drewN _ _ _⟩

end Go.Proofs.Qxb6604710a
