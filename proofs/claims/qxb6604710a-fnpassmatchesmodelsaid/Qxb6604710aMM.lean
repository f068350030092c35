import Derived.Test.Qxb6604710aRows
import Derived.Test.Qxb6604710aPL
import Derived.Test.Qxb6604710aFieldsP
import Derived.ShutString
import Derived.ChangeOld
namespace Go.Proofs.Qxb6604710a.fnPassMatchesModel
open Go.ChangeShapes Go.WideShapes Go.ChangeAt Go.RowKit
set_option linter.unusedVariables false

theorem own : ownKnob Try.prog.godebug = none := by kernel_rfl
theorem laidOut : laidOutB Try.prog = true := by kernel_rfl

def BoolRet (e : Ending) : Prop := ∃ b, e = .returned (.bool b)
theorem BoolRet.mk (b : Bool) : BoolRet (.returned (.bool b)) := ⟨b, rfl⟩

theorem bytes28_any (w : World) (k : Bool) (x : Int) (ao : Option Addr) (n cap : Nat) :
    Calls Try.prog 28 #[.bool k, .int .i64 x, .slice ao n cap] w fun e w' => BoolRet e ∧ w' = w := by
  by_cases h1 : 1048576 < n
  · have h1' : (1048576 : Int) < (n : Int) := by omega
    go_enter Try.func28, Try.ntmps28
    go_wp2_with fail
    go_ret
    exact ⟨BoolRet.mk _, rfl⟩
  have h1' : ¬ (1048576 : Int) < (n : Int) := by omega
  go_enter Try.func28, Try.ntmps28
  go_wp2_with fail
  go_ret
  exact ⟨BoolRet.mk _, rfl⟩

set_option maxRecDepth 100000 in
set_option maxHeartbeats 1000000 in
theorem walk_over (w : World) (k : Bool) (x : Int) (ao : Option Addr) (n cap : Nat) (h : 4096 < n ∨ x < 0 ∨ 1024 < x) :
    Calls Try.prog 7 #[.bool k, .int .i64 x, .slice ao n cap] w fun e w' => e = .returned (.bool true) ∧ Below w.heap.size w w' := by
  have hby := hide (bytes28_any w k x ao n cap)
  by_cases hn4 : 4096 < n
  · have d1 : (4096 : Int) < (n : Int) := by omega
    clear h hn4
    go_enter Try.func7, Try.ntmps7
    go_wp2_with fail
    refine (unhide hby).mono ?_
    rintro e w ⟨⟨b, rfl⟩, rfl⟩
    cases b with
    | true =>
      go_wp2_with fail
      go_ret
      exact ⟨rfl, Below.refl _ _⟩
    | false =>
      go_wp2_with fail
      go_ret
      exact ⟨rfl, Below.refl _ _⟩
  · have d1 : ¬ (4096 : Int) < (n : Int) := by omega
    by_cases hx : x < 0
    · have d2 : decide (x < 0) = true := by simpa using hx
      clear h hn4
      go_enter Try.func7, Try.ntmps7
      go_wp2_with fail
      refine (unhide hby).mono ?_
      rintro e w ⟨⟨b, rfl⟩, rfl⟩
      cases b with
      | true =>
        go_wp2_with fail
        go_ret
        exact ⟨rfl, Below.refl _ _⟩
      | false =>
        go_wp2_with fail
        go_ret
        exact ⟨rfl, Below.refl _ _⟩
    · have d2 : decide (x < 0) = false := by simpa using hx
      have d3 : (1024 : Int) < x := by omega
      clear h hn4
      go_enter Try.func7, Try.ntmps7
      go_wp2_with fail
      refine (unhide hby).mono ?_
      rintro e w ⟨⟨b, rfl⟩, rfl⟩
      cases b with
      | true =>
        go_wp2_with fail
        go_ret
        exact ⟨rfl, Below.refl _ _⟩
      | false =>
        go_wp2_with fail
        go_ret
        exact ⟨rfl, Below.refl _ _⟩

theorem walk (trim : TrimSaid) (a2 : Option Addr) (len2 cap2 : Nat) (Z : Nat → Nat → Int) (w : World) (k : Bool) (x : Int) (w2 : IsRows pks w a2 len2 cap2 Z) :
    Calls Try.prog 7 #[.bool k, .int .i64 x, .slice a2 len2 cap2] w fun e w' => e = .returned (.bool true) ∧ Below w.heap.size w w' := by
  by_cases h : 4096 < len2 ∨ x < 0 ∨ 1024 < x
  · exact walk_over w k x a2 len2 cap2 h
  · obtain ⟨i, rfl⟩ := Int.eq_ofNat_of_zero_le (show 0 ≤ x by omega)
    cases k with
    | false => exact matchesN_walk w i a2 len2 cap2 Z w2 (by omega) (by omega)
    | true => exact matches_walk trim w i a2 len2 cap2 Z w2 (by omega) (by omega)

set_option maxRecDepth 100000 in
theorem lifted (trim : TrimSaid) (os : Os) (started : os.Started) (H : Type) (enc : TypeId × Value → H) :
    ReturnsInHanded {} Try.checked os 7 .any (Rows.fnPassMatchesModelSpec.pre6 enc Try.prog Try.f7 Rows.fnPassMatchesModelRow.domain false) (Rows.fnPassMatchesModelSpec.post enc Try.prog Try.f7 false true false false) := by
  refine returnsInHanded_of_change (C := Try.checked) own started (by kernel_rfl) Try.func7
    (ChangeSpec.witness6 (enc := enc) (C := Try.checked) false ⟨#[], #[.bool false, .int .i64 0, .slice none 0 0], []⟩ 8 (by kernel_rfl) (by kernel_rfl) (by kernel_rfl) (by kernel_rfl)) ?_
  intro W base args ds gs before hval0 hW hcnd _
  have hval : ∀ (j : Nat) t v, Try.f7.params[j]? = some t → args[j]? = some v → Value.okWide Try.prog W .any base t v := hval0
  have hW' := hW
  obtain ⟨p, q, hA0, hV, rfl, hfz, hnd⟩ := hW
  have hA : DataW.TrodAll enc Try.prog W 0 (fun _ => true) true Try.f7.params.toList args.toList ds p := hA0
  rw [Try.params7] at hA hval
  obtain ⟨v0, vs0, d0, ds0, p0, q0, hargs, rfl, rfl, h0, r0⟩ := trodAll_cons hA
  obtain ⟨v1, vs1, d1, ds1, p1, q1, rfl, rfl, rfl, h1, r1⟩ := trodAll_cons r0
  obtain ⟨v2, vs2, d2, ds2, p2, q2, rfl, rfl, rfl, h2, r2⟩ := trodAll_cons r1
  obtain ⟨rfl, rfl, rfl⟩ := trodAll_nil r2
  obtain rfl : args = #[v0, v1, v2] := by cases args; simp_all
  obtain ⟨rfl, rfl⟩ := trodVars_none hV
  obtain ⟨a0, rfl, rfl, rfl⟩ := open_bool Try.underlying4 (hval 0 4 v0 rfl rfl) h0
  obtain ⟨a1, rfl, rfl, rfl, w1⟩ := open_int Try.underlying3 (hval 1 3 v1 rfl rfl) h1
  obtain ⟨a2, len2, cap2, rfl⟩ := okWide_slice Try.underlying51 (hval 2 51 v2 rfl rfl)
  have k2 := h2
  have lt2 : ∀ x ∈ p2, x.block < W.heap.size := by obtain ⟨m, hm⟩ := k2; exact DataW.trod_lt m _ _ _ hm
  obtain ⟨Z2, w2⟩ : ∃ Z, IsRows pks W a2 len2 cap2 Z := by
    obtain ⟨fuel, hf⟩ := h2
    exact open_rows Try.underlying51 Try.underlying55 (by kernel_rfl) fieldsP (by simpa [Value.cells] using hf)
  clear hA0 hval0
  refine (walk trim a2 len2 cap2 Z2 W a0 a1 w2).mono fun e W' ⟨he, bel⟩ => ?_
  subst he
  exact ⟨_, rfl, _, _, _, [], _, [], hW', trodAll_mk1 (shut_bool Try.underlying4 _), (trodAll_cons_mk (shut_bool Try.underlying4 _) (trodAll_cons_mk (shut_int Try.underlying3 w1) (trodAll_cons_mk (Below.trod laidOut (by kernel_rfl) (of_decide_eq_true (by kernel_rfl)) k2 bel lt2) trodAll_mk0))), rfl, bel.frame _, fun h => by cases h⟩

theorem over (trim : TrimSaid) : Rows.fnPassMatchesModelRow.holds Try.pinned (OpenSpec.ofChange Rows.fnPassMatchesModelSpec) :=
  OpenClaim.holds_of_wide 7 Try.f7 rfl rfl rfl rfl rfl rfl rfl ⟨rfl, rfl, rfl, rfl, rfl⟩ rfl rfl rfl rfl rfl (by kernel_rfl) Try.func7 (by kernel_rfl)
    (of_decide_eq_true (by kernel_rfl)) (by unfold Func.isWrapper; first | (rw [if_pos (by decide +kernel)]; kernel_rfl) | (rw [if_neg (by decide +kernel)]; exact ⟨rfl, rfl⟩))
    (fun os started H enc _ => lifted trim os started H enc)

end Go.Proofs.Qxb6604710a.fnPassMatchesModel
