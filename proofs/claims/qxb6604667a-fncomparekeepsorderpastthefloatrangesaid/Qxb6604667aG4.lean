import Derived.Test.Qxb6604667aG3
import Derived.Deep.QuietTactic
import Derived.BigQuiet
import Derived.BigRegion
namespace Go.Proofs.Qxb6604667a
open Go.RowKit

set_option maxRecDepth 100000
set_option maxHeartbeats 4000000

theorem run_store_float {P : Program} {w : World} {a : Addr} {m : Mode} (k : FloatKind) (b : Nat) : (store a (.float k b) m).run P w = stored P w a (.float k b) m := run_store P w a _ m rfl
attribute [local go_sem] run_store_float

/-- The ratio that the program makes of two numbers: its fraction's word and its exponent. -/
def ratF (n d : Nat) : Nat := if n = 0 ∨ n = 9223372036854775808 then 0 else if n = 9218868437227405312 then 9218868437227405312 else if 1023 * 4503599627370496 ≤ Bw n d then Bw n d - 4503599627370496 else Bw n d
def ratE (n d : Nat) : Int := if n = 0 ∨ n = 9223372036854775808 then -9223372036854775808 else if n = 9218868437227405312 then 9223372036854775807 else if 1023 * 4503599627370496 ≤ Bw n d then nE n - nE d + 1 else nE n - nE d

theorem ratioOf_any (n d : Nat) (hn : NumOk n) (hd0 : 0 < d) (hd : d < 9218868437227405312) (w : World) :
    Calls Try.prog 12 #[fl n, fl d] w fun e w' => e = .returned (.agg #[fl (ratF n d), ii (ratE n d)]) ∧ Below w.heap.size w w' := by
  have he := eq_f hn.ok (ok_le (x := 0) (by decide))
  have e0 : rg 0 = 0 := rfl
  rw [e0] at he
  have hz : rg n = 0 ↔ (n = 0 ∨ n = 9223372036854775808) := by unfold rg; split <;> omega
  generalize hrf : ratF n d = rf
  generalize hre : ratE n d = re
  unfold ratF at hrf
  unfold ratE at hre
  by_cases c1 : n = 0 ∨ n = 9223372036854775808
  · rw [if_pos c1] at hrf hre
    rw [decide_eq_true (hz.2 c1)] at he
    subst hrf; subst hre
    clear hz c1 hn
    go_enter Try.func12, Try.ntmps12
    go_wp2_with fail
    exact bodyPost_ret (results_cell_row rfl _ _ w.heap.size 32 _ (0, 0) _ rfl (heap_alloc_new w _) Try.underlying32 rfl (by kernel_rfl)) rfl ⟨rfl, (Below.refl _ _).alloc (Nat.le_refl _) _⟩
  rw [if_neg c1] at hrf hre
  rw [decide_eq_false (fun h => c1 (hz.1 h))] at he
  have hn2 : 0 < n ∧ n ≤ 9218868437227405312 := by unfold NumOk at hn; omega
  have hin := hide (isInf1_any n hn2.1 hn2.2)
  by_cases c2 : n = 9218868437227405312
  · rw [if_pos c2] at hrf hre
    rw [decide_eq_true c2] at hin
    subst hre
    have : rf = n := by omega
    subst this
    clear hz c1 c2 hn hn2 hrf
    go_enter Try.func12, Try.ntmps12
    go_wp2_with fail
    go_at_call 14
    refine (unhide hin _).mono ?_
    rintro e w' ⟨rfl, rfl⟩
    go_wp2_with fail
    exact bodyPost_ret (results_cell_row rfl _ _ w.heap.size 32 _ (0, 0) _ rfl (heap_alloc_new w _) Try.underlying32 rfl (by kernel_rfl)) rfl ⟨rfl, (Below.refl _ _).alloc (Nat.le_refl _) _⟩
  rw [if_neg c2] at hrf hre
  rw [decide_eq_false c2] at hin
  have f1 := hide (Frexp_any n hn2.1 (by omega))
  have f2 := hide (Frexp_any d hd0 hd)
  have ⟨B1, B2⟩ := Bw_bounds (n := n) hn2.1 hd0
  have hdv : ∀ w : World, (binOp .quo 22 (fl (frw n)) (fl (frw d))).run Try.prog w = .ok (fl (Bw n d)) w :=
    fun w => run_float_arith w .quo 22 .f64 _ _ _ (div_frw hn2.1 hd0)
  have bn := nE_bounds hn2.1 (by omega)
  have bd := nE_bounds hd0 hd
  have hsub : wrap64 (nE n + 53 - (nE d + 53)) = nE n - nE d := by
    have : nE n + 53 - (nE d + 53) = nE n - nE d := by omega
    rw [this]; exact wrap_small (by omega) (by omega)
  have hadd : wrap64 (nE n - nE d + 1) = nE n - nE d + 1 := wrap_small (by omega) (by omega)
  have hge := ge_f (ok_le (x := Bw n d) (by omega)) (ok_le (x := 1023 * 4503599627370496) (by decide))
  rw [rg_le (x := Bw n d) (by omega), show rg (1023 * 4503599627370496) = 1023 * 4503599627370496 from rfl] at hge
  have htw : 1023 * 4503599627370496 ≤ Bw n d → ∀ w : World, (binOp .quo 22 (fl (Bw n d)) (fl 4611686018427387904)).run Try.prog w = .ok (fl (Bw n d - 4503599627370496)) w :=
    fun h w => run_float_arith w .quo 22 .f64 _ _ _ (div_two (by omega) (by omega))
  generalize Bw n d = B at *
  generalize frw n = fn at *
  generalize frw d = fd at *
  generalize nE n + 53 = en at *
  generalize nE d + 53 = ed at *
  generalize nE n - nE d = ex at *
  by_cases c3 : 1023 * 4503599627370496 ≤ B
  · rw [if_pos c3] at hrf hre
    rw [decide_eq_true c3] at hge
    replace htw := htw c3
    generalize B - 4503599627370496 = B' at *
    subst hre hrf
    clear hz c1 c2 c3 hn hn2 B1 B2 bn bd
    go_enter Try.func12, Try.ntmps12
    go_wp2_with fail
    go_at_call 14
    refine (unhide hin _).mono ?_
    rintro e w' ⟨rfl, rfl⟩
    go_wp2_with fail
    go_at_call 15
    refine (unhide f1 _).mono ?_
    rintro e w' ⟨rfl, rfl⟩
    go_wp2_with fail
    go_at_call 15
    refine (unhide f2 _).mono ?_
    rintro e w' ⟨rfl, rfl⟩
    go_wp2_with fail
    exact bodyPost_ret (results_cell_row rfl _ _ w.heap.size 32 _ (0, 0) _ rfl (heap_alloc2_old w _ _) Try.underlying32 rfl (by kernel_rfl)) rfl ⟨rfl, ((Below.refl _ _).alloc (Nat.le_refl _) _).alloc (by simp) _⟩
  · rw [if_neg c3] at hrf hre
    rw [decide_eq_false c3] at hge
    subst hre hrf
    clear hz c1 c2 c3 hn hn2 B1 B2 bn bd htw
    go_enter Try.func12, Try.ntmps12
    go_wp2_with fail
    go_at_call 14
    refine (unhide hin _).mono ?_
    rintro e w' ⟨rfl, rfl⟩
    go_wp2_with fail
    go_at_call 15
    refine (unhide f1 _).mono ?_
    rintro e w' ⟨rfl, rfl⟩
    go_wp2_with fail
    go_at_call 15
    refine (unhide f2 _).mono ?_
    rintro e w' ⟨rfl, rfl⟩
    go_wp2_with fail
    exact bodyPost_ret (results_cell_row rfl _ _ w.heap.size 32 _ (0, 0) _ rfl (heap_alloc2_old w _ _) Try.underlying32 rfl (by kernel_rfl)) rfl ⟨rfl, ((Below.refl _ _).alloc (Nat.le_refl _) _).alloc (by simp) _⟩

theorem zzratio_any (n d : Nat) (hn : NumOk n) (hd0 : 0 < d) (hd : d < 9218868437227405312) (w : World) :
    Calls Try.prog 7 #[fl n, fl d] w fun e w' => e = .returned (.tuple #[fl (ratF n d), ii (ratE n d)]) ∧ Below w.heap.size w w' := by
  have hr := hide (ratioOf_any n d hn hd0 hd)
  generalize ratF n d = rf at *
  generalize ratE n d = re at *
  go_enter Try.func7, Try.ntmps7
  go_wp2_with fail
  go_at_call 12
  refine (unhide hr _).mono ?_
  rintro e w' ⟨rfl, hb⟩
  go_wp2_with fail
  go_quiet (fail)
  go_wp2_with fail
  go_ret2
  exact ⟨rfl, below_drewN (hb.alloc hb.size _) _⟩

end Go.Proofs.Qxb6604667a
