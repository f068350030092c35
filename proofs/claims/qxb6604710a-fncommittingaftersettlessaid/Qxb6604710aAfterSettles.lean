import Derived.Test.Qxb6604710aRows
import Derived.Test.Qxb6604710aW2
import Derived.Test.Qxb6604710aFieldsS
import Derived.ShutString
import Derived.ChangeOld
namespace Go.Proofs.Qxb6604710a.fnCommittingAfterSettles
open Go.ChangeShapes Go.WideShapes Go.ChangeAt Go.RowKit
set_option linter.unusedVariables false

theorem own : ownKnob Try.prog.godebug = none := by kernel_rfl
theorem laidOut : laidOutB Try.prog = true := by kernel_rfl

set_option maxRecDepth 100000 in
set_option maxHeartbeats 1000000 in
theorem walk_over (w : World) (ao so : Option Addr) (n cap m capS : Nat) (hn : n ≤ 9223372036854775807) (hm : m ≤ 9223372036854775807) (h : 4096 < n ∨ 4096 < m) :
    Calls Try.prog 6 #[.slice ao n cap, .slice so m capS] w fun e w' => e = .returned (.bool true) ∧ Below w.heap.size w w' := by
  have hby := hide (bytes27_any w ao so n cap m capS hn hm)
  by_cases hn4 : 4096 < n
  · have d1 : (4096 : Int) < (n : Int) := by omega
    have d1' : decide ((4096 : Int) < (n : Int)) = true := by simpa using d1
    clear h hn4
    go_enter Try.func6, Try.ntmps6
    go_wp2_with fail
    refine (unhide hby).mono ?_
    rintro e w ⟨⟨b, rfl⟩, rfl⟩
    cases b with
    | true =>
      go_wp2_with fail
      go_ret
      exact ⟨rfl, Below.refl _ _⟩
    | false =>
      go_wp2_with fail
      go_ret
      exact ⟨rfl, Below.refl _ _⟩
  · have d1 : ¬ (4096 : Int) < (n : Int) := by omega
    have d1' : decide ((4096 : Int) < (n : Int)) = false := by simpa using d1
    have d2 : (4096 : Int) < (m : Int) := by omega
    clear h hn4
    go_enter Try.func6, Try.ntmps6
    go_wp2_with fail
    refine (unhide hby).mono ?_
    rintro e w ⟨⟨b, rfl⟩, rfl⟩
    cases b with
    | true =>
      go_wp2_with fail
      go_ret
      exact ⟨rfl, Below.refl _ _⟩
    | false =>
      go_wp2_with fail
      go_ret
      exact ⟨rfl, Below.refl _ _⟩

theorem walk (a0 a1 : Option Addr) (len0 cap0 len1 cap1 : Nat) (Z ZS : Nat → Nat → Int) (w : World) (w0 : IsRows qks w a0 len0 cap0 Z) (w1 : IsRows sks w a1 len1 cap1 ZS) :
    Calls Try.prog 6 #[.slice a0 len0 cap0, .slice a1 len1 cap1] w fun e w' => e = .returned (.bool true) ∧ Below w.heap.size w w' := by
  by_cases h : 4096 < len0 ∨ 4096 < len1
  · have h0 := w0.nonneg
    have h1 := w1.nonneg
    simp only [maxLen] at h0 h1
    exact walk_over w a0 a1 len0 cap0 len1 cap1 (by omega) (by omega) h
  · exact afterSettles_walk w a0 a1 len0 cap0 len1 cap1 Z ZS w0 w1 (by omega) (by omega)

set_option maxRecDepth 100000 in
theorem lifted (os : Os) (started : os.Started) (H : Type) (enc : TypeId × Value → H) :
    ReturnsInHanded {} Try.checked os 6 .any (Rows.fnCommittingAfterSettlesSpec.pre6 enc Try.prog Try.f6 Rows.fnCommittingAfterSettlesRow.domain false) (Rows.fnCommittingAfterSettlesSpec.post enc Try.prog Try.f6 false true false false) := by
  refine returnsInHanded_of_change (C := Try.checked) own started (by kernel_rfl) Try.func6
    (ChangeSpec.witness6 (enc := enc) (C := Try.checked) false ⟨#[], #[.slice none 0 0, .slice none 0 0], []⟩ 8 (by kernel_rfl) (by kernel_rfl) (by kernel_rfl) (by kernel_rfl)) ?_
  intro W base args ds gs before hval0 hW hcnd _
  have hval : ∀ (j : Nat) t v, Try.f6.params[j]? = some t → args[j]? = some v → Value.okWide Try.prog W .any base t v := hval0
  have hW' := hW
  obtain ⟨p, q, hA0, hV, rfl, hfz, hnd⟩ := hW
  have hA : DataW.TrodAll enc Try.prog W 0 (fun _ => true) true Try.f6.params.toList args.toList ds p := hA0
  rw [Try.params6] at hA hval
  obtain ⟨v0, vs0, d0, ds0, p0, q0, hargs, rfl, rfl, h0, r0⟩ := trodAll_cons hA
  obtain ⟨v1, vs1, d1, ds1, p1, q1, rfl, rfl, rfl, h1, r1⟩ := trodAll_cons r0
  obtain ⟨rfl, rfl, rfl⟩ := trodAll_nil r1
  obtain rfl : args = #[v0, v1] := by cases args; simp_all
  obtain ⟨rfl, rfl⟩ := trodVars_none hV
  obtain ⟨a0, len0, cap0, rfl⟩ := okWide_slice Try.underlying22 (hval 0 22 v0 rfl rfl)
  have k0 := h0
  have lt0 : ∀ x ∈ p0, x.block < W.heap.size := by obtain ⟨m, hm⟩ := k0; exact DataW.trod_lt m _ _ _ hm
  obtain ⟨Z0, w0⟩ : ∃ Z, IsRows qks W a0 len0 cap0 Z := by
    obtain ⟨fuel, hf⟩ := h0
    exact open_rows Try.underlying22 Try.underlying29 (by kernel_rfl) fieldsQ (by simpa [Value.cells] using hf)
  obtain ⟨a1, len1, cap1, rfl⟩ := okWide_slice Try.underlying41 (hval 1 41 v1 rfl rfl)
  have k1 := h1
  have lt1 : ∀ x ∈ p1, x.block < W.heap.size := by obtain ⟨m, hm⟩ := k1; exact DataW.trod_lt m _ _ _ hm
  obtain ⟨Z1, w1⟩ : ∃ Z, IsRows sks W a1 len1 cap1 Z := by
    obtain ⟨fuel, hf⟩ := h1
    exact open_rows Try.underlying41 Try.underlying81 (by kernel_rfl) fieldsS (by simpa [Value.cells] using hf)
  clear hA0 hval0
  refine (walk a0 a1 len0 cap0 len1 cap1 Z0 Z1 W w0 w1).mono fun e W' ⟨he, bel⟩ => ?_
  subst he
  exact ⟨_, rfl, _, _, _, [], _, [], hW', trodAll_mk1 (shut_bool Try.underlying4 _), (trodAll_cons_mk (Below.trod laidOut (by kernel_rfl) (of_decide_eq_true (by kernel_rfl)) k0 bel lt0) (trodAll_cons_mk (Below.trod laidOut (by kernel_rfl) (of_decide_eq_true (by kernel_rfl)) k1 bel lt1) trodAll_mk0)), rfl, bel.frame _, fun h => by cases h⟩

theorem over : Rows.fnCommittingAfterSettlesRow.holds Try.pinned (OpenSpec.ofChange Rows.fnCommittingAfterSettlesSpec) :=
  OpenClaim.holds_of_wide 6 Try.f6 rfl rfl rfl rfl rfl rfl rfl ⟨rfl, rfl, rfl, rfl, rfl⟩ rfl rfl rfl rfl rfl (by kernel_rfl) Try.func6 (by kernel_rfl)
    (of_decide_eq_true (by kernel_rfl)) (by unfold Func.isWrapper; first | (rw [if_pos (by decide +kernel)]; kernel_rfl) | (rw [if_neg (by decide +kernel)]; exact ⟨rfl, rfl⟩))
    (fun os started H enc _ => lifted os started H enc)

end Go.Proofs.Qxb6604710a.fnCommittingAfterSettles
namespace Go.Proofs.Qxb6604710a
/-- THE STATEMENT -/
theorem fnCommittingAfterSettles_proved : Rows.FnCommittingAfterSettlesSaid := fnCommittingAfterSettles.over
end Go.Proofs.Qxb6604710a
