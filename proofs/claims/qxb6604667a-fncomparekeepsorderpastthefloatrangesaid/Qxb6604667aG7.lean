import Derived.Test.Qxb6604667aF7
namespace Go.Proofs.Qxb6604667a
open Go.RowKit

set_option maxRecDepth 100000
set_option maxHeartbeats 4000000

theorem div_ok {n d : Nat} (hn : NumOk n) (hd0 : 0 < d) (hd : d < 9218868437227405312) : ∃ q, Ieee.double.div n d = some q ∧ Okw q := by
  have hn' := hn
  unfold NumOk at hn
  rcases hn with h | ⟨h1, h2⟩
  · exact ⟨n, div_zero h hd0 hd, hn'.ok⟩
  · by_cases c : n = 9218868437227405312
    · subst c; exact ⟨_, div_inf hd, hn'.ok⟩
    · obtain ⟨r, e1, e2, _⟩ := div_pos h1 (show n < 9218868437227405312 by omega) hd0 hd
      exact ⟨r, e1, ok_le e2⟩

theorem ratArg_of {n d : Nat} (h : ratArg n d = true) : NumOk n ∧ 0 < d ∧ d < 9218868437227405312 := by
  unfold ratArg finpos at h
  rw [Bool.and_eq_true] at h
  exact ⟨of_decide_eq_true h.2, of_decide_eq_true h.1⟩

theorem orders_any (n1 d1 n2 d2 : Nat) (hn1 : n1 < 18446744073709551616) (hd1 : d1 < 18446744073709551616) (hn2 : n2 < 18446744073709551616) (hd2 : d2 < 18446744073709551616) (w : World) :
    Calls Try.prog 3 #[fl n1, fl d1, fl n2, fl d2] w fun e w' => e = .returned (.bool true) ∧ Below w.heap.size w w' := by
  have a1 := hide (fun w => ratArg_any n1 d1 hn1 hd1 w)
  have a2 := hide (fun w => ratArg_any n2 d2 hn2 hd2 w)
  by_cases c1 : ratArg n1 d1 = true
  · rw [c1] at a1
    by_cases c2 : ratArg n2 d2 = true
    · rw [c2] at a2
      obtain ⟨x1, x2, x3⟩ := ratArg_of c1
      obtain ⟨y1, y2, y3⟩ := ratArg_of c2
      obtain ⟨q1, e1, o1⟩ := div_ok x1 x2 x3
      obtain ⟨q2, e2, o2⟩ := div_ok y1 y2 y3
      have v1 : ∀ w : World, (binOp .quo 22 (fl n1) (fl d1)).run Try.prog w = .ok (fl q1) w := fun w => run_float_arith w .quo 22 .f64 _ _ _ e1
      have v2 : ∀ w : World, (binOp .quo 22 (fl n2) (fl d2)).run Try.prog w = .ok (fl q2) w := fun w => run_float_arith w .quo 22 .f64 _ _ _ e2
      have k1 := hide (fun w => kept_any n1 q1 x1 o1 w)
      have k2 := hide (fun w => kept_any n2 q2 y1 o2 w)
      have r1 := hide (fun w => zzratio_any n1 d1 x1 x2 x3 w)
      have r2 := hide (fun w => zzratio_any n2 d2 y1 y2 y3 w)
      have cp := hide (fun w => zzcompare_any w (ratF n1 d1) (ratF n2 d2) (ratE n1 d1) (ratE n2 d2) (rat_ok x1 x2 x3) (rat_ok y1 y2 y3))
      have sg := hide (fun w => sign_any q1 q2 o1 o2 w)
      have pl1 := hide (fun h1 h2 => plain1 x1 y1 x2 x3 y2 y3 e1 e2 h1 h2)
      generalize cmpR (ratF n1 d1) (ratE n1 d1) (ratF n2 d2) (ratE n2 d2) = g at *
      generalize cmpI (rg q1) (rg q2) = s at *
      generalize ratF n1 d1 = f1 at *
      generalize ratF n2 d2 = f2 at *
      generalize ratE n1 d1 = t1 at *
      generalize ratE n2 d2 = t2 at *
      by_cases b1 : qKept n1 q1 = true
      · rw [b1] at k1
        by_cases b2 : qKept n2 q2 = true
        · rw [b2] at k2
          have hgs := unhide pl1 b1 b2
          subst hgs
          clear pl1 c1 c2 x1 x2 x3 y1 y2 y3 e1 e2 o1 o2 b1 b2 hn1 hd1 hn2 hd2
          go_enter Try.func3, Try.ntmps3
          go_wp2_with fail
          go_at_call 5
          refine (unhide a1 _).mono ?_
          rintro e w ⟨rfl, rfl⟩
          go_wp2_with fail
          go_at_call 5
          refine (unhide a2 _).mono ?_
          rintro e w ⟨rfl, rfl⟩
          go_wp2_with fail
          go_at_call 6
          refine (unhide k1 _).mono ?_
          rintro e w ⟨rfl, rfl⟩
          go_wp2_with fail
          go_at_call 6
          refine (unhide k2 _).mono ?_
          rintro e w ⟨rfl, rfl⟩
          go_wp2_with fail
          go_at_call 7
          refine (unhide r1 _).mono ?_
          rintro e w1 ⟨rfl, hb1⟩
          go_wp2_with fail
          go_at_call 7
          refine (unhide r2 _).mono ?_
          rintro e w2 ⟨rfl, hb2⟩
          replace hb2 := hb1.trans (hb2.mono hb1.size)
          go_wp2_with fail
          go_at_call 8
          refine (unhide cp _).mono ?_
          rintro e w3 ⟨rfl, hb3⟩
          replace hb3 := hb2.trans (hb3.mono hb2.size)
          go_wp2_with fail
          go_at_call 9
          refine (unhide sg _).mono ?_
          rintro e w3 ⟨rfl, rfl⟩
          go_wp2_with fail
          go_ret
          exact ⟨by simp, hb3⟩
        · have b2 : qKept n2 q2 = false := by simpa using b2
          rw [b2] at k2
          clear pl1 c1 c2 x1 x2 x3 y1 y2 y3 e1 e2 o1 o2 b1 b2 hn1 hd1 hn2 hd2
          go_enter Try.func3, Try.ntmps3
          go_wp2_with fail
          go_at_call 5
          refine (unhide a1 _).mono ?_
          rintro e w ⟨rfl, rfl⟩
          go_wp2_with fail
          go_at_call 5
          refine (unhide a2 _).mono ?_
          rintro e w ⟨rfl, rfl⟩
          go_wp2_with fail
          go_at_call 6
          refine (unhide k1 _).mono ?_
          rintro e w ⟨rfl, rfl⟩
          go_wp2_with fail
          go_at_call 6
          refine (unhide k2 _).mono ?_
          rintro e w ⟨rfl, rfl⟩
          go_wp2_with fail
          go_ret
          exact ⟨rfl, Below.refl _ _⟩
      · have b1 : qKept n1 q1 = false := by simpa using b1
        rw [b1] at k1
        clear pl1 c1 c2 x1 x2 x3 y1 y2 y3 e1 e2 o1 o2 b1 hn1 hd1 hn2 hd2
        go_enter Try.func3, Try.ntmps3
        go_wp2_with fail
        go_at_call 5
        refine (unhide a1 _).mono ?_
        rintro e w ⟨rfl, rfl⟩
        go_wp2_with fail
        go_at_call 5
        refine (unhide a2 _).mono ?_
        rintro e w ⟨rfl, rfl⟩
        go_wp2_with fail
        go_at_call 6
        refine (unhide k1 _).mono ?_
        rintro e w ⟨rfl, rfl⟩
        go_wp2_with fail
        go_ret
        exact ⟨rfl, Below.refl _ _⟩
    · have c2 : ratArg n2 d2 = false := by simpa using c2
      rw [c2] at a2
      clear c1 c2 hn1 hd1 hn2 hd2
      go_enter Try.func3, Try.ntmps3
      go_wp2_with fail
      go_at_call 5
      refine (unhide a1 _).mono ?_
      rintro e w ⟨rfl, rfl⟩
      go_wp2_with fail
      go_at_call 5
      refine (unhide a2 _).mono ?_
      rintro e w ⟨rfl, rfl⟩
      go_wp2_with fail
      go_ret
      exact ⟨rfl, Below.refl _ _⟩
  · have c1 : ratArg n1 d1 = false := by simpa using c1
    rw [c1] at a1
    clear c1 hn1 hd1 hn2 hd2
    go_enter Try.func3, Try.ntmps3
    go_wp2_with fail
    go_at_call 5
    refine (unhide a1 _).mono ?_
    rintro e w ⟨rfl, rfl⟩
    go_wp2_with fail
    go_ret
    exact ⟨rfl, Below.refl _ _⟩

end Go.Proofs.Qxb6604667a
