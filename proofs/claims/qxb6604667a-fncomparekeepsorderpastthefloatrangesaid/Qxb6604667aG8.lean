import Derived.Test.Qxb6604667aG7
namespace Go.Proofs.Qxb6604667a
open Go.RowKit

set_option maxRecDepth 100000
set_option maxHeartbeats 4000000

theorem wrap_neg {g : Int} (h1 : -1 ≤ g) (h2 : g ≤ 1) : wrap64 (-g) = -g := wrap_small (by omega) (by omega)

theorem cmpI_bounds (a b : Int) : -1 ≤ cmpI a b ∧ cmpI a b ≤ 1 := by unfold cmpI; split <;> (try split) <;> omega
theorem cmpR_bounds (f f' : Nat) (e e' : Int) : -1 ≤ cmpR f e f' e' ∧ cmpR f e f' e' ≤ 1 := by
  unfold cmpR; split <;> exact cmpI_bounds _ _

theorem keeps_any (a b d : Nat) (ha : a < 18446744073709551616) (hb : b < 18446744073709551616) (hd : d < 18446744073709551616) (w : World) :
    Calls Try.prog 4 #[fl a, fl b, fl d] w fun e w' => e = .returned (.bool true) ∧ Below w.heap.size w w' := by
  have a1 := hide (fun w => ratArg_any a d ha hd w)
  have a2 := hide (fun w => ratArg_any b d hb hd w)
  by_cases c1 : ratArg a d = true
  · rw [c1] at a1
    by_cases c2 : ratArg b d = true
    · rw [c2] at a2
      obtain ⟨x1, x2, x3⟩ := ratArg_of c1
      obtain ⟨y1, _, _⟩ := ratArg_of c2
      have r1 := hide (fun w => zzratio_any a d x1 x2 x3 w)
      have r2 := hide (fun w => zzratio_any b d y1 x2 x3 w)
      have cp := hide (fun w => zzcompare_any w (ratF a d) (ratF b d) (ratE a d) (ratE b d) (rat_ok x1 x2 x3) (rat_ok y1 x2 x3))
      have cq := hide (fun w => zzcompare_any w (ratF b d) (ratF a d) (ratE b d) (ratE a d) (rat_ok y1 x2 x3) (rat_ok x1 x2 x3))
      rw [cmpR_swap (ratF a d) (ratF b d) (ratE a d) (ratE b d)] at cq
      have sg := hide (fun w => sign_any a b x1.ok y1.ok w)
      have pw := hide (fun w => pow2_any d x2 x3 w)
      have pl2 := plain2 x1 y1 x2 x3
      have gb := cmpR_bounds (ratF a d) (ratF b d) (ratE a d) (ratE b d)
      generalize cmpR (ratF a d) (ratE a d) (ratF b d) (ratE b d) = g at *
      generalize cmpI (rg a) (rg b) = s at *
      generalize ratF a d = f1 at *
      generalize ratF b d = f2 at *
      generalize ratE a d = t1 at *
      generalize ratE b d = t2 at *
      have hng := wrap_neg gb.1 gb.2
      have hne : (-g != -g) = false := by simp
      have Hpl := hide pl2
      clear pl2 c1 c2 x1 x2 x3 y1 ha hb hd gb
      go_enter Try.func4, Try.ntmps4
      go_wp2_with fail
      go_at_call 5
      refine (unhide a1 _).mono ?_
      rintro e w ⟨rfl, rfl⟩
      go_wp2_with fail
      go_at_call 5
      refine (unhide a2 _).mono ?_
      rintro e w ⟨rfl, rfl⟩
      go_wp2_with fail
      go_at_call 7
      refine (unhide r1 _).mono ?_
      rintro e w1 ⟨rfl, hb1⟩
      go_wp2_with fail
      go_at_call 7
      refine (unhide r2 _).mono ?_
      rintro e w2 ⟨rfl, hb2⟩
      replace hb2 := hb1.trans (hb2.mono hb1.size)
      go_wp2_with fail
      go_at_call 8
      refine (unhide cp _).mono ?_
      rintro e w3 ⟨rfl, hb3⟩
      replace hb3 := hb2.trans (hb3.mono hb2.size)
      go_wp2_with fail
      go_at_call 8
      refine (unhide cq _).mono ?_
      rintro e w4 ⟨rfl, hb4⟩
      replace hb4 := hb3.trans (hb4.mono hb3.size)
      go_wp2_with fail
      go_at_call 9
      refine (unhide sg _).mono ?_
      rintro e w4 ⟨rfl, rfl⟩
      go_wp2_with fail
      go_at_call 10
      refine (unhide pw _).mono ?_
      rintro e w4 ⟨r, rfl, rfl, hr⟩
      cases r with
      | true =>
        have hgs : g = s := (unhide Hpl).2 (hr rfl)
        subst hgs
        clear hr
        go_wp2_with fail
        go_ret
        exact ⟨by simp, hb4⟩
      | false =>
        clear hr
        have hp := (unhide Hpl).1
        by_cases hs : s = 0
        · have hgs : g = s := by omega
          subst hgs
          have d1 : (g == 0) = true := by simp [hs]
          clear hp
          go_wp2_with fail
          go_ret
          exact ⟨by simp, hb4⟩
        · have d1 : (s == 0) = false := by simp [hs]
          by_cases hgs : g = s
          · subst hgs
            clear hp
            go_wp2_with fail
            go_ret
            exact ⟨by simp, hb4⟩
          · have hg0 : g = 0 := by omega
            subst hg0
            have d2 : ((0 : Int) == s) = false := by simp; omega
            clear hp
            go_wp2_with fail
            go_ret
            exact ⟨by simp, hb4⟩
    · have c2 : ratArg b d = false := by simpa using c2
      rw [c2] at a2
      clear c1 c2 ha hb hd
      go_enter Try.func4, Try.ntmps4
      go_wp2_with fail
      go_at_call 5
      refine (unhide a1 _).mono ?_
      rintro e w ⟨rfl, rfl⟩
      go_wp2_with fail
      go_at_call 5
      refine (unhide a2 _).mono ?_
      rintro e w ⟨rfl, rfl⟩
      go_wp2_with fail
      go_ret
      exact ⟨rfl, Below.refl _ _⟩
  · have c1 : ratArg a d = false := by simpa using c1
    rw [c1] at a1
    clear c1 ha hb hd
    go_enter Try.func4, Try.ntmps4
    go_wp2_with fail
    go_at_call 5
    refine (unhide a1 _).mono ?_
    rintro e w ⟨rfl, rfl⟩
    go_wp2_with fail
    go_ret
    exact ⟨rfl, Below.refl _ _⟩

end Go.Proofs.Qxb6604667a
