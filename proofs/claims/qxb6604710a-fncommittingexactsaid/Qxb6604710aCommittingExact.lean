import Derived.Test.Qxb6604710aRows
import Derived.Test.Qxb6604710aS1
import Derived.ShutString
import Derived.ChangeOld
namespace Go.Proofs.Qxb6604710a.fnCommittingExact
open Go.ChangeShapes Go.WideShapes Go.ChangeAt Go.RowKit
set_option linter.unusedVariables false

theorem own : ownKnob Try.prog.godebug = none := by kernel_rfl
theorem laidOut : laidOutB Try.prog = true := by kernel_rfl

set_option maxHeartbeats 400000 in
theorem walk_over (w : World) (ao : Option Addr) (n cap : Nat) (h1 : n ≤ 1048576) (h2 : 4096 < n) :
    Calls Try.prog 5 #[.slice ao n cap] w fun e w' => e = .returned (.bool true) ∧ Below w.heap.size w w' := by
  have hby := hide (bytes24 w ao n cap h1)
  have h4 : (4096 : Int) < (n : Int) := by omega
  go_enter Try.func5, Try.ntmps5
  go_wp2_with fail
  refine (unhide hby).mono ?_
  rintro e w ⟨rfl, rfl⟩
  go_wp2_with fail
  go_ret
  exact ⟨rfl, Below.refl _ _⟩

set_option maxHeartbeats 400000 in
theorem walk_far (w : World) (ao : Option Addr) (n cap : Nat) (h1 : 1048576 < n) :
    Calls Try.prog 5 #[.slice ao n cap] w fun e w' => e = .returned (.bool true) ∧ Below w.heap.size w w' := by
  have hby := hide (bytes24_no w ao n cap h1)
  go_enter Try.func5, Try.ntmps5
  go_wp2_with fail
  refine (unhide hby).mono ?_
  rintro e w ⟨rfl, rfl⟩
  go_wp2_with fail
  go_ret
  exact ⟨rfl, Below.refl _ _⟩

theorem walk (a0 : Option Addr) (len0 cap0 : Nat) (Z : Nat → Nat → Int) (w : World) (w0 : IsRows qks w a0 len0 cap0 Z) :
    Calls Try.prog 5 #[.slice a0 len0 cap0] w fun e w' => e = .returned (.bool true) ∧ Below w.heap.size w w' := by
  by_cases h1 : 1048576 < len0
  · exact walk_far w a0 len0 cap0 h1
  · by_cases h2 : 4096 < len0
    · exact walk_over w a0 len0 cap0 (by omega) h2
    · exact committingExact_walk w a0 len0 cap0 Z w0 (by omega)

theorem fieldsQ : ∀ c k, qks[c]? = some k → ∃ f : Field, (#[{ name := "Site", type := 3, offset := 0, embedded := false, tag := "", pkgPath := "", byteOffset := 0 },
        { name := "N", type := 23, offset := 1, embedded := false, tag := "", pkgPath := "", byteOffset := 8 },
        { name := "Ts", type := 23, offset := 2, embedded := false, tag := "", pkgPath := "", byteOffset := 16 },
        { name := "Voted", type := 23, offset := 3, embedded := false, tag := "", pkgPath := "", byteOffset := 24 },
        { name := "Commits", type := 3, offset := 4, embedded := false, tag := "", pkgPath := "", byteOffset := 32 }] : Array Field)[c]? = some f ∧ f.offset = c ∧ Try.prog.cellsOf f.type = 1 ∧ Try.prog.underlying f.type = some (.int k) := by
  have c3 : Try.prog.cellsOf 3 = 1 := by kernel_rfl
  have c23 : Try.prog.cellsOf 23 = 1 := by kernel_rfl
  intro c k h
  match c, h with
  | 0, h => simp [qks] at h; subst h; exact ⟨_, rfl, rfl, c3, Try.underlying3⟩
  | 1, h => simp [qks] at h; subst h; exact ⟨_, rfl, rfl, c23, Try.underlying23⟩
  | 2, h => simp [qks] at h; subst h; exact ⟨_, rfl, rfl, c23, Try.underlying23⟩
  | 3, h => simp [qks] at h; subst h; exact ⟨_, rfl, rfl, c23, Try.underlying23⟩
  | 4, h => simp [qks] at h; subst h; exact ⟨_, rfl, rfl, c3, Try.underlying3⟩

set_option maxRecDepth 100000 in
theorem lifted (os : Os) (started : os.Started) (H : Type) (enc : TypeId × Value → H) :
    ReturnsInHanded {} Try.checked os 5 .any (Rows.fnCommittingExactSpec.pre6 enc Try.prog Try.f5 Rows.fnCommittingExactRow.domain false) (Rows.fnCommittingExactSpec.post enc Try.prog Try.f5 false true false false) := by
  refine returnsInHanded_of_change (C := Try.checked) own started (by kernel_rfl) Try.func5
    (ChangeSpec.witness6 (enc := enc) (C := Try.checked) false ⟨#[], #[.slice none 0 0], []⟩ 8 (by kernel_rfl) (by kernel_rfl) (by kernel_rfl) (by kernel_rfl)) ?_
  intro W base args ds gs before hval0 hW hcnd _
  have hval : ∀ (j : Nat) t v, Try.f5.params[j]? = some t → args[j]? = some v → Value.okWide Try.prog W .any base t v := hval0
  have hW' := hW
  obtain ⟨p, q, hA0, hV, rfl, hfz, hnd⟩ := hW
  have hA : DataW.TrodAll enc Try.prog W 0 (fun _ => true) true Try.f5.params.toList args.toList ds p := hA0
  rw [Try.params5] at hA hval
  obtain ⟨v0, vs0, d0, ds0, p0, q0, hargs, rfl, rfl, h0, r0⟩ := trodAll_cons hA
  obtain ⟨rfl, rfl, rfl⟩ := trodAll_nil r0
  obtain rfl : args = #[v0] := by cases args; simp_all
  obtain ⟨rfl, rfl⟩ := trodVars_none hV
  obtain ⟨a0, len0, cap0, rfl⟩ := okWide_slice Try.underlying22 (hval 0 22 v0 rfl rfl)
  have k0 := h0
  have lt0 : ∀ x ∈ p0, x.block < W.heap.size := by obtain ⟨m, hm⟩ := k0; exact DataW.trod_lt m _ _ _ hm
  obtain ⟨Z0, w0⟩ : ∃ Z, IsRows qks W a0 len0 cap0 Z := by
    obtain ⟨fuel, hf⟩ := h0
    exact open_rows Try.underlying22 Try.underlying29 (by kernel_rfl) fieldsQ (by simpa [Value.cells] using hf)
  clear hA0 hval0
  refine (walk a0 len0 cap0 Z0 W w0).mono fun e W' ⟨he, bel⟩ => ?_
  subst he
  exact ⟨_, rfl, _, _, _, [], _, [], hW', trodAll_mk1 (shut_bool Try.underlying4 _), (trodAll_cons_mk (Below.trod laidOut (by kernel_rfl) (of_decide_eq_true (by kernel_rfl)) k0 bel lt0) trodAll_mk0), rfl, bel.frame _, fun h => by cases h⟩

theorem over : Rows.fnCommittingExactRow.holds Try.pinned (OpenSpec.ofChange Rows.fnCommittingExactSpec) :=
  OpenClaim.holds_of_wide 5 Try.f5 rfl rfl rfl rfl rfl rfl rfl ⟨rfl, rfl, rfl, rfl, rfl⟩ rfl rfl rfl rfl rfl (by kernel_rfl) Try.func5 (by kernel_rfl)
    (of_decide_eq_true (by kernel_rfl)) (by unfold Func.isWrapper; first | (rw [if_pos (by decide +kernel)]; kernel_rfl) | (rw [if_neg (by decide +kernel)]; exact ⟨rfl, rfl⟩))
    (fun os started H enc _ => lifted os started H enc)

end Go.Proofs.Qxb6604710a.fnCommittingExact
namespace Go.Proofs.Qxb6604710a
/-- THE STATEMENT -/
theorem fnCommittingExact_proved : Rows.FnCommittingExactSaid := fnCommittingExact.over
end Go.Proofs.Qxb6604710a
