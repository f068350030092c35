import Derived.Test.Qxb6604710aRows
import Derived.Test.Qxb6604710aU2
import Derived.Test.Qxb6604710aFieldsQ
import Derived.ShutString
import Derived.ChangeOld
namespace Go.Proofs.Qxb6604710a.fnSettleExact
open Go.ChangeShapes Go.WideShapes Go.ChangeAt Go.RowKit
set_option linter.unusedVariables false

theorem own : ownKnob Try.prog.godebug = none := by kernel_rfl
theorem laidOut : laidOutB Try.prog = true := by kernel_rfl

set_option maxRecDepth 100000 in
set_option maxHeartbeats 400000 in
theorem walk_far (w : World) (ao : Option Addr) (n cap : Nat) (at_ tSite tN tTs tVoted cm vt parts : Int) (h1 : 1048576 < n) :
    Calls Try.prog 3 #[.slice ao n cap, .int .i64 at_, .int .i64 tSite, .int .u64 tN, .int .u64 tTs, .int .u64 tVoted, .int .i64 cm, .int .i64 vt, .int .i64 parts] w fun e w' => e = .returned (.bool true) ∧ Below w.heap.size w w' := by
  have hby := hide (bytes9_no w ao n cap at_ tSite tN tTs tVoted cm vt parts h1)
  go_enter Try.func3, Try.ntmps3
  go_wp2_with fail
  refine (unhide hby).mono ?_
  rintro e w ⟨rfl, rfl⟩
  go_wp2_with fail
  go_ret
  exact ⟨rfl, Below.refl _ _⟩

set_option maxRecDepth 100000 in
set_option maxHeartbeats 400000 in
theorem walk_over (w : World) (ao : Option Addr) (n cap : Nat) (at_ tSite tN tTs tVoted cm vt parts : Int) (h1 : n ≤ 1048576) (h2 : 4096 < n) :
    Calls Try.prog 3 #[.slice ao n cap, .int .i64 at_, .int .i64 tSite, .int .u64 tN, .int .u64 tTs, .int .u64 tVoted, .int .i64 cm, .int .i64 vt, .int .i64 parts] w fun e w' => e = .returned (.bool true) ∧ Below w.heap.size w w' := by
  have hby := hide (bytes9 w ao n cap at_ tSite tN tTs tVoted cm vt parts h1)
  have h4 : (4096 : Int) < (n : Int) := by omega
  go_enter Try.func3, Try.ntmps3
  go_wp2_with fail
  refine (unhide hby).mono ?_
  rintro e w ⟨rfl, rfl⟩
  go_wp2_with fail
  go_ret
  exact ⟨rfl, Below.refl _ _⟩

set_option maxRecDepth 100000 in
set_option maxHeartbeats 1000000 in
theorem walk_out0 (w : World) (ao : Option Addr) (n cap : Nat) (at_ tSite tN tTs tVoted cm vt parts : Int) (h1 : n ≤ 4096)  (g0 : cm < 0) :
    Calls Try.prog 3 #[.slice ao n cap, .int .i64 at_, .int .i64 tSite, .int .u64 tN, .int .u64 tTs, .int .u64 tVoted, .int .i64 cm, .int .i64 vt, .int .i64 parts] w fun e w' => e = .returned (.bool true) ∧ Below w.heap.size w w' := by
  have hby := hide (bytes9 w ao n cap at_ tSite tN tTs tVoted cm vt parts (by omega))
  have h4 : ¬ (4096 : Int) < (n : Int) := by omega
  have d0 : decide (cm < 0) = true := by simpa using g0
  clear g0
  go_enter Try.func3, Try.ntmps3
  go_wp2_with fail
  refine (unhide hby).mono ?_
  rintro e w ⟨rfl, rfl⟩
  go_wp2_with fail
  go_ret
  exact ⟨rfl, Below.refl _ _⟩

set_option maxRecDepth 100000 in
set_option maxHeartbeats 1000000 in
theorem walk_out1 (w : World) (ao : Option Addr) (n cap : Nat) (at_ tSite tN tTs tVoted cm vt parts : Int) (h1 : n ≤ 4096) (g0 : ¬ cm < 0) (g1 : 536870912 < cm) :
    Calls Try.prog 3 #[.slice ao n cap, .int .i64 at_, .int .i64 tSite, .int .u64 tN, .int .u64 tTs, .int .u64 tVoted, .int .i64 cm, .int .i64 vt, .int .i64 parts] w fun e w' => e = .returned (.bool true) ∧ Below w.heap.size w w' := by
  have hby := hide (bytes9 w ao n cap at_ tSite tN tTs tVoted cm vt parts (by omega))
  have h4 : ¬ (4096 : Int) < (n : Int) := by omega
  have d0 : decide (cm < 0) = false := by simpa using g0
  have d1 : decide (536870912 < cm) = true := by simpa using g1
  clear g0 g1
  go_enter Try.func3, Try.ntmps3
  go_wp2_with fail
  refine (unhide hby).mono ?_
  rintro e w ⟨rfl, rfl⟩
  go_wp2_with fail
  go_ret
  exact ⟨rfl, Below.refl _ _⟩

set_option maxRecDepth 100000 in
set_option maxHeartbeats 1000000 in
theorem walk_out2 (w : World) (ao : Option Addr) (n cap : Nat) (at_ tSite tN tTs tVoted cm vt parts : Int) (h1 : n ≤ 4096) (g0 : ¬ cm < 0) (g1 : ¬ 536870912 < cm) (g2 : vt < 0) :
    Calls Try.prog 3 #[.slice ao n cap, .int .i64 at_, .int .i64 tSite, .int .u64 tN, .int .u64 tTs, .int .u64 tVoted, .int .i64 cm, .int .i64 vt, .int .i64 parts] w fun e w' => e = .returned (.bool true) ∧ Below w.heap.size w w' := by
  have hby := hide (bytes9 w ao n cap at_ tSite tN tTs tVoted cm vt parts (by omega))
  have h4 : ¬ (4096 : Int) < (n : Int) := by omega
  have d0 : decide (cm < 0) = false := by simpa using g0
  have d1 : decide (536870912 < cm) = false := by simpa using g1
  have d2 : decide (vt < 0) = true := by simpa using g2
  clear g0 g1 g2
  go_enter Try.func3, Try.ntmps3
  go_wp2_with fail
  refine (unhide hby).mono ?_
  rintro e w ⟨rfl, rfl⟩
  go_wp2_with fail
  go_ret
  exact ⟨rfl, Below.refl _ _⟩

set_option maxRecDepth 100000 in
set_option maxHeartbeats 1000000 in
theorem walk_out3 (w : World) (ao : Option Addr) (n cap : Nat) (at_ tSite tN tTs tVoted cm vt parts : Int) (h1 : n ≤ 4096) (g0 : ¬ cm < 0) (g1 : ¬ 536870912 < cm) (g2 : ¬ vt < 0) (g3 : 536870912 < vt) :
    Calls Try.prog 3 #[.slice ao n cap, .int .i64 at_, .int .i64 tSite, .int .u64 tN, .int .u64 tTs, .int .u64 tVoted, .int .i64 cm, .int .i64 vt, .int .i64 parts] w fun e w' => e = .returned (.bool true) ∧ Below w.heap.size w w' := by
  have hby := hide (bytes9 w ao n cap at_ tSite tN tTs tVoted cm vt parts (by omega))
  have h4 : ¬ (4096 : Int) < (n : Int) := by omega
  have d0 : decide (cm < 0) = false := by simpa using g0
  have d1 : decide (536870912 < cm) = false := by simpa using g1
  have d2 : decide (vt < 0) = false := by simpa using g2
  have d3 : decide (536870912 < vt) = true := by simpa using g3
  clear g0 g1 g2 g3
  go_enter Try.func3, Try.ntmps3
  go_wp2_with fail
  refine (unhide hby).mono ?_
  rintro e w ⟨rfl, rfl⟩
  go_wp2_with fail
  go_ret
  exact ⟨rfl, Below.refl _ _⟩

set_option maxRecDepth 100000 in
set_option maxHeartbeats 1000000 in
theorem walk_out4 (w : World) (ao : Option Addr) (n cap : Nat) (at_ tSite tN tTs tVoted cm vt parts : Int) (h1 : n ≤ 4096) (g0 : ¬ cm < 0) (g1 : ¬ 536870912 < cm) (g2 : ¬ vt < 0) (g3 : ¬ 536870912 < vt) (g4 : parts < -1) :
    Calls Try.prog 3 #[.slice ao n cap, .int .i64 at_, .int .i64 tSite, .int .u64 tN, .int .u64 tTs, .int .u64 tVoted, .int .i64 cm, .int .i64 vt, .int .i64 parts] w fun e w' => e = .returned (.bool true) ∧ Below w.heap.size w w' := by
  have hby := hide (bytes9 w ao n cap at_ tSite tN tTs tVoted cm vt parts (by omega))
  have h4 : ¬ (4096 : Int) < (n : Int) := by omega
  have d0 : decide (cm < 0) = false := by simpa using g0
  have d1 : decide (536870912 < cm) = false := by simpa using g1
  have d2 : decide (vt < 0) = false := by simpa using g2
  have d3 : decide (536870912 < vt) = false := by simpa using g3
  have d4 : decide (parts < -1) = true := by simpa using g4
  clear g0 g1 g2 g3 g4
  go_enter Try.func3, Try.ntmps3
  go_wp2_with fail
  refine (unhide hby).mono ?_
  rintro e w ⟨rfl, rfl⟩
  go_wp2_with fail
  go_ret
  exact ⟨rfl, Below.refl _ _⟩

set_option maxRecDepth 100000 in
set_option maxHeartbeats 1000000 in
theorem walk_out5 (w : World) (ao : Option Addr) (n cap : Nat) (at_ tSite tN tTs tVoted cm vt parts : Int) (h1 : n ≤ 4096) (g0 : ¬ cm < 0) (g1 : ¬ 536870912 < cm) (g2 : ¬ vt < 0) (g3 : ¬ 536870912 < vt) (g4 : ¬ parts < -1) (g5 : 65536 < parts) :
    Calls Try.prog 3 #[.slice ao n cap, .int .i64 at_, .int .i64 tSite, .int .u64 tN, .int .u64 tTs, .int .u64 tVoted, .int .i64 cm, .int .i64 vt, .int .i64 parts] w fun e w' => e = .returned (.bool true) ∧ Below w.heap.size w w' := by
  have hby := hide (bytes9 w ao n cap at_ tSite tN tTs tVoted cm vt parts (by omega))
  have h4 : ¬ (4096 : Int) < (n : Int) := by omega
  have d0 : decide (cm < 0) = false := by simpa using g0
  have d1 : decide (536870912 < cm) = false := by simpa using g1
  have d2 : decide (vt < 0) = false := by simpa using g2
  have d3 : decide (536870912 < vt) = false := by simpa using g3
  have d4 : decide (parts < -1) = false := by simpa using g4
  have d5 : decide (65536 < parts) = true := by simpa using g5
  clear g0 g1 g2 g3 g4 g5
  go_enter Try.func3, Try.ntmps3
  go_wp2_with fail
  refine (unhide hby).mono ?_
  rintro e w ⟨rfl, rfl⟩
  go_wp2_with fail
  go_ret
  exact ⟨rfl, Below.refl _ _⟩

theorem walk (a0 : Option Addr) (len0 cap0 : Nat) (Z : Nat → Nat → Int) (w : World) (w0 : IsRows qks w a0 len0 cap0 Z) (a1 a2 a3 a4 a5 a6 a7 a8 : Int) :
    Calls Try.prog 3 #[.slice a0 len0 cap0, .int .i64 a1, .int .i64 a2, .int .u64 a3, .int .u64 a4, .int .u64 a5, .int .i64 a6, .int .i64 a7, .int .i64 a8] w fun e w' => e = .returned (.bool true) ∧ Below w.heap.size w w' := by
  by_cases h1 : 1048576 < len0
  · exact walk_far w a0 len0 cap0 a1 a2 a3 a4 a5 a6 a7 a8 h1
  by_cases h2 : 4096 < len0
  · exact walk_over w a0 len0 cap0 a1 a2 a3 a4 a5 a6 a7 a8 (by omega) h2
  have hn : len0 ≤ 4096 := by omega
  by_cases g0 : a6 < 0
  · exact walk_out0 w a0 len0 cap0 a1 a2 a3 a4 a5 a6 a7 a8 hn g0
  by_cases g1 : 536870912 < a6
  · exact walk_out1 w a0 len0 cap0 a1 a2 a3 a4 a5 a6 a7 a8 hn g0 g1
  by_cases g2 : a7 < 0
  · exact walk_out2 w a0 len0 cap0 a1 a2 a3 a4 a5 a6 a7 a8 hn g0 g1 g2
  by_cases g3 : 536870912 < a7
  · exact walk_out3 w a0 len0 cap0 a1 a2 a3 a4 a5 a6 a7 a8 hn g0 g1 g2 g3
  by_cases g4 : a8 < -1
  · exact walk_out4 w a0 len0 cap0 a1 a2 a3 a4 a5 a6 a7 a8 hn g0 g1 g2 g3 g4
  by_cases g5 : 65536 < a8
  · exact walk_out5 w a0 len0 cap0 a1 a2 a3 a4 a5 a6 a7 a8 hn g0 g1 g2 g3 g4 g5
  exact settleExact_walk w a0 len0 cap0 Z a1 a2 a3 a4 a5 a6 a7 a8 w0 hn (by omega) (by omega) (by omega) (by omega) (by omega) (by omega)

set_option maxRecDepth 100000 in
theorem lifted (os : Os) (started : os.Started) (H : Type) (enc : TypeId × Value → H) :
    ReturnsInHanded {} Try.checked os 3 .any (Rows.fnSettleExactSpec.pre6 enc Try.prog Try.f3 Rows.fnSettleExactRow.domain false) (Rows.fnSettleExactSpec.post enc Try.prog Try.f3 false true false false) := by
  refine returnsInHanded_of_change (C := Try.checked) own started (by kernel_rfl) Try.func3
    (ChangeSpec.witness6 (enc := enc) (C := Try.checked) false ⟨#[], #[.slice none 0 0, .int .i64 0, .int .i64 0, .int .u64 0, .int .u64 0, .int .u64 0, .int .i64 0, .int .i64 0, .int .i64 0], []⟩ 8 (by kernel_rfl) (by kernel_rfl) (by kernel_rfl) (by kernel_rfl)) ?_
  intro W base args ds gs before hval0 hW hcnd _
  have hval : ∀ (j : Nat) t v, Try.f3.params[j]? = some t → args[j]? = some v → Value.okWide Try.prog W .any base t v := hval0
  have hW' := hW
  obtain ⟨p, q, hA0, hV, rfl, hfz, hnd⟩ := hW
  have hA : DataW.TrodAll enc Try.prog W 0 (fun _ => true) true Try.f3.params.toList args.toList ds p := hA0
  rw [Try.params3] at hA hval
  obtain ⟨v0, vs0, d0, ds0, p0, q0, hargs, rfl, rfl, h0, r0⟩ := trodAll_cons hA
  obtain ⟨v1, vs1, d1, ds1, p1, q1, rfl, rfl, rfl, h1, r1⟩ := trodAll_cons r0
  obtain ⟨v2, vs2, d2, ds2, p2, q2, rfl, rfl, rfl, h2, r2⟩ := trodAll_cons r1
  obtain ⟨v3, vs3, d3, ds3, p3, q3, rfl, rfl, rfl, h3, r3⟩ := trodAll_cons r2
  obtain ⟨v4, vs4, d4, ds4, p4, q4, rfl, rfl, rfl, h4, r4⟩ := trodAll_cons r3
  obtain ⟨v5, vs5, d5, ds5, p5, q5, rfl, rfl, rfl, h5, r5⟩ := trodAll_cons r4
  obtain ⟨v6, vs6, d6, ds6, p6, q6, rfl, rfl, rfl, h6, r6⟩ := trodAll_cons r5
  obtain ⟨v7, vs7, d7, ds7, p7, q7, rfl, rfl, rfl, h7, r7⟩ := trodAll_cons r6
  obtain ⟨v8, vs8, d8, ds8, p8, q8, rfl, rfl, rfl, h8, r8⟩ := trodAll_cons r7
  obtain ⟨rfl, rfl, rfl⟩ := trodAll_nil r8
  obtain rfl : args = #[v0, v1, v2, v3, v4, v5, v6, v7, v8] := by cases args; simp_all
  obtain ⟨rfl, rfl⟩ := trodVars_none hV
  obtain ⟨a0, len0, cap0, rfl⟩ := okWide_slice Try.underlying22 (hval 0 22 v0 rfl rfl)
  have k0 := h0
  have lt0 : ∀ x ∈ p0, x.block < W.heap.size := by obtain ⟨m, hm⟩ := k0; exact DataW.trod_lt m _ _ _ hm
  obtain ⟨Z0, w0⟩ : ∃ Z, IsRows qks W a0 len0 cap0 Z := by
    obtain ⟨fuel, hf⟩ := h0
    exact open_rows Try.underlying22 Try.underlying29 (by kernel_rfl) fieldsQ (by simpa [Value.cells] using hf)
  obtain ⟨a1, rfl, rfl, rfl, w1⟩ := open_int Try.underlying3 (hval 1 3 v1 rfl rfl) h1
  obtain ⟨a2, rfl, rfl, rfl, w2⟩ := open_int Try.underlying3 (hval 2 3 v2 rfl rfl) h2
  obtain ⟨a3, rfl, rfl, rfl, w3⟩ := open_int Try.underlying23 (hval 3 23 v3 rfl rfl) h3
  obtain ⟨a4, rfl, rfl, rfl, w4⟩ := open_int Try.underlying23 (hval 4 23 v4 rfl rfl) h4
  obtain ⟨a5, rfl, rfl, rfl, w5⟩ := open_int Try.underlying23 (hval 5 23 v5 rfl rfl) h5
  obtain ⟨a6, rfl, rfl, rfl, w6⟩ := open_int Try.underlying3 (hval 6 3 v6 rfl rfl) h6
  obtain ⟨a7, rfl, rfl, rfl, w7⟩ := open_int Try.underlying3 (hval 7 3 v7 rfl rfl) h7
  obtain ⟨a8, rfl, rfl, rfl, w8⟩ := open_int Try.underlying3 (hval 8 3 v8 rfl rfl) h8
  clear hA0 hval0
  refine (walk a0 len0 cap0 Z0 W w0 a1 a2 a3 a4 a5 a6 a7 a8).mono fun e W' ⟨he, bel⟩ => ?_
  subst he
  exact ⟨_, rfl, _, _, _, [], _, [], hW', trodAll_mk1 (shut_bool Try.underlying4 _), (trodAll_cons_mk (Below.trod laidOut (by kernel_rfl) (of_decide_eq_true (by kernel_rfl)) k0 bel lt0) (trodAll_cons_mk (shut_int Try.underlying3 w1) (trodAll_cons_mk (shut_int Try.underlying3 w2) (trodAll_cons_mk (shut_int Try.underlying23 w3) (trodAll_cons_mk (shut_int Try.underlying23 w4) (trodAll_cons_mk (shut_int Try.underlying23 w5) (trodAll_cons_mk (shut_int Try.underlying3 w6) (trodAll_cons_mk (shut_int Try.underlying3 w7) (trodAll_cons_mk (shut_int Try.underlying3 w8) trodAll_mk0))))))))), rfl, bel.frame _, fun h => by cases h⟩

theorem over : Rows.fnSettleExactRow.holds Try.pinned (OpenSpec.ofChange Rows.fnSettleExactSpec) :=
  OpenClaim.holds_of_wide 3 Try.f3 rfl rfl rfl rfl rfl rfl rfl ⟨rfl, rfl, rfl, rfl, rfl⟩ rfl rfl rfl rfl rfl (by kernel_rfl) Try.func3 (by kernel_rfl)
    (of_decide_eq_true (by kernel_rfl)) (by unfold Func.isWrapper; first | (rw [if_pos (by decide +kernel)]; kernel_rfl) | (rw [if_neg (by decide +kernel)]; exact ⟨rfl, rfl⟩))
    (fun os started H enc _ => lifted os started H enc)

end Go.Proofs.Qxb6604710a.fnSettleExact
namespace Go.Proofs.Qxb6604710a
/-- THE STATEMENT -/
theorem fnSettleExact_proved : Rows.FnSettleExactSaid := fnSettleExact.over
end Go.Proofs.Qxb6604710a
