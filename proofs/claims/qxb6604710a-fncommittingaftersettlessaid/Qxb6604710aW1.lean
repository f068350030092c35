import Derived.Test.Qxb6604710aV5
namespace Go.Proofs.Qxb6604710a
open Go.RowKit

theorem IsRows.below {ks : List IntKind} {w w' : World} {a : Option Addr} {len cap : Nat} {Z : Nat → Nat → Int} (h : IsRows ks w a len cap Z) (hb : Below w.heap.size w w') : IsRows ks w' a len cap Z := by
  rcases h with h | ⟨x, h1, h2, h3, h4⟩
  · exact Or.inl h
  · refine Or.inr ⟨x, h1, h2, h3, fun i hi c k hk => ?_⟩
    obtain ⟨g1, g2⟩ := h4 i hi c k hk
    refine ⟨?_, g2⟩
    rw [hb.cell ?_]
    · exact g1
    · rcases Nat.lt_or_ge (x.add (i * ks.length + c)).block w.heap.size with h5 | h5
      · exact h5
      · unfold World.cell? at g1
        rw [Array.getElem?_eq_none h5] at g1
        cases g1

def cnt (P al : List Nat) (i : Nat) : Nat := ((al.take i).filter fun t => decide (t ∈ P)).length

theorem cnt_zero (P al : List Nat) : cnt P al 0 = 0 := by simp [cnt]
theorem cnt_snoc {P al : List Nat} {i t : Nat} (h : al[i]? = some t) : cnt P al (i + 1) = cnt P al i + if t ∈ P then 1 else 0 := by
  unfold cnt
  rw [List.take_add_one, h]
  by_cases hp : t ∈ P <;> simp [List.filter_append, hp]
theorem cnt_le (P al : List Nat) (i : Nat) : cnt P al i ≤ i := by
  unfold cnt
  exact Nat.le_trans (List.length_filter_le _ _) (by simp; omega)

theorem filter_left {P C : List Nat} (hd : ∀ t ∈ P, t ∉ C) : (P ++ C).filter (fun t => decide (t ∈ P)) = P := by
  rw [List.filter_append]
  have h1 : P.filter (fun t => decide (t ∈ P)) = P := by
    rw [List.filter_eq_self]; intro a ha; simpa using ha
  have h2 : C.filter (fun t => decide (t ∈ P)) = [] := by
    rw [List.filter_eq_nil_iff]; intro a ha hb; exact hd a (by simpa using hb) ha
  rw [h1, h2, List.append_nil]
theorem filter_right {P C : List Nat} (hd : ∀ t ∈ P, t ∉ C) : (P ++ C).filter (fun t => decide (t ∈ C)) = C := by
  rw [List.filter_append]
  have h1 : C.filter (fun t => decide (t ∈ C)) = C := by
    rw [List.filter_eq_self]; intro a ha; simpa using ha
  have h2 : P.filter (fun t => decide (t ∈ C)) = [] := by
    rw [List.filter_eq_nil_iff]; intro a ha hb; exact hd a ha (by simpa using hb)
  rw [h1, h2, List.nil_append]

theorem cnt_P {P C al : List Nat} (hp : (P ++ C).Perm al) (hd : ∀ t ∈ P, t ∉ C) : cnt P al al.length = P.length := by
  unfold cnt
  rw [List.take_length, ← (hp.filter _).length_eq, filter_left hd]
theorem cnt_C {P C al : List Nat} (hp : (P ++ C).Perm al) (hd : ∀ t ∈ P, t ∉ C) : cnt C al al.length = C.length := by
  unfold cnt
  rw [List.take_length, ← (hp.filter _).length_eq, filter_right hd]

set_option maxHeartbeats 400000 in
theorem bytes21 (w : World) (ao so : Option Addr) (n cap m capS : Nat) (hn : n ≤ 4096) (hm : m ≤ 4096) :
    Calls Try.prog 21 #[.slice ao n cap, .slice so m capS] w fun e w' => e = .returned (.bool true) ∧ w' = w := by
  have h1 : ¬ (1048576 : Int) < (n : Int) := by omega
  have h2 : ¬ (1048576 : Int) < (m : Int) := by omega
  have h3 : ¬ (1048576 : Int) < (n : Int) + (m : Int) := by omega
  go_enter Try.func21, Try.ntmps21
  go_wp2_with fail
  go_ret
  exact ⟨rfl, rfl⟩

set_option maxHeartbeats 400000 in
theorem bytes27 (w : World) (ao so : Option Addr) (n cap m capS : Nat) (hn : n ≤ 4096) (hm : m ≤ 4096) :
    Calls Try.prog 27 #[.slice ao n cap, .slice so m capS] w fun e w' => e = .returned (.bool true) ∧ w' = w := by
  have h1 : ¬ (1048576 : Int) < (n : Int) := by omega
  have h2 : ¬ (1048576 : Int) < (m : Int) := by omega
  have h3 : ¬ (1048576 : Int) < (n : Int) + (m : Int) := by omega
  go_enter Try.func27, Try.ntmps27
  go_wp2_with fail
  go_ret
  exact ⟨rfl, rfl⟩

def BoolRet (e : Ending) : Prop := ∃ b, e = .returned (.bool b)
theorem BoolRet.mk (b : Bool) : BoolRet (.returned (.bool b)) := ⟨b, rfl⟩

/-- Whatever the lengths: it answers a bool and turns nothing. -/
theorem bytes21_any (w : World) (ao so : Option Addr) (n cap m capS : Nat) (hn : n ≤ 9223372036854775807) (hm : m ≤ 9223372036854775807) :
    Calls Try.prog 21 #[.slice ao n cap, .slice so m capS] w fun e w' => BoolRet e ∧ w' = w := by
  by_cases h1 : 1048576 < n
  · have h1' : (1048576 : Int) < (n : Int) := by omega
    go_enter Try.func21, Try.ntmps21
    go_wp2_with fail
    go_ret
    exact ⟨BoolRet.mk _, rfl⟩
  have h1' : ¬ (1048576 : Int) < (n : Int) := by omega
  by_cases h2 : 1048576 < m
  · have h2' : (1048576 : Int) < (m : Int) := by omega
    go_enter Try.func21, Try.ntmps21
    go_wp2_with fail
    go_ret
    exact ⟨BoolRet.mk _, rfl⟩
  have h2' : ¬ (1048576 : Int) < (m : Int) := by omega
  by_cases h3 : 1048576 < n + m
  · have h3' : (1048576 : Int) < (n : Int) + (m : Int) := by omega
    go_enter Try.func21, Try.ntmps21
    go_wp2_with fail
    go_ret
    exact ⟨BoolRet.mk _, rfl⟩
  have h3' : ¬ (1048576 : Int) < (n : Int) + (m : Int) := by omega
  go_enter Try.func21, Try.ntmps21
  go_wp2_with fail
  go_ret
  exact ⟨BoolRet.mk _, rfl⟩

theorem bytes27_any (w : World) (ao so : Option Addr) (n cap m capS : Nat) (hn : n ≤ 9223372036854775807) (hm : m ≤ 9223372036854775807) :
    Calls Try.prog 27 #[.slice ao n cap, .slice so m capS] w fun e w' => BoolRet e ∧ w' = w := by
  by_cases h1 : 1048576 < n
  · have h1' : (1048576 : Int) < (n : Int) := by omega
    go_enter Try.func27, Try.ntmps27
    go_wp2_with fail
    go_ret
    exact ⟨BoolRet.mk _, rfl⟩
  have h1' : ¬ (1048576 : Int) < (n : Int) := by omega
  by_cases h2 : 1048576 < m
  · have h2' : (1048576 : Int) < (m : Int) := by omega
    go_enter Try.func27, Try.ntmps27
    go_wp2_with fail
    go_ret
    exact ⟨BoolRet.mk _, rfl⟩
  have h2' : ¬ (1048576 : Int) < (m : Int) := by omega
  by_cases h3 : 1048576 < n + m
  · have h3' : (1048576 : Int) < (n : Int) + (m : Int) := by omega
    go_enter Try.func27, Try.ntmps27
    go_wp2_with fail
    go_ret
    exact ⟨BoolRet.mk _, rfl⟩
  have h3' : ¬ (1048576 : Int) < (n : Int) + (m : Int) := by omega
  go_enter Try.func27, Try.ntmps27
  go_wp2_with fail
  go_ret
  exact ⟨BoolRet.mk _, rfl⟩

set_option maxRecDepth 100000 in
set_option maxHeartbeats 16000000 in
theorem scriptKeeps_walk (w : World) (ao so : Option Addr) (n cap m capS : Nat) (Z ZS : Nat → Nat → Int) (hr : IsRows qks w ao n cap Z) (hs : IsRows sks w so m capS ZS) (hn : n ≤ 4096) (hm : m ≤ 4096) :
    Calls Try.prog 4 #[.slice ao n cap, .slice so m capS] w fun e w' => e = .returned (.bool true) ∧ Below w.heap.size w w' := by
  have hby := hide (bytes21 w ao so n cap m capS hn hm)
  have hfi := hide (scriptFits_any w ao so n cap m capS ZS hs hn hm)
  have hru := hide (fun w' mp hb => runScript_any w' ao so n cap m capS Z ZS mp (hr.below hb) (hs.below hb) hn hm)
  clear hr hs
  have h7 : ¬ (4096 : Int) < (n : Int) := by omega
  have h8 : ¬ (4096 : Int) < (m : Int) := by omega
  have h7' : decide ((4096 : Int) < (n : Int)) = false := by simpa using h7
  go_enter Try.func4, Try.ntmps4
  go_wp2_with fail
  refine (unhide hby).mono ?_
  rintro e w ⟨rfl, rfl⟩
  go_wp2_with fail
  refine (unhide hfi).mono ?_
  rintro e w1 ⟨hb1, ⟨mp, rfl, hfit⟩ | rfl⟩
  · have hr1 := hide (unhide hru w1 mp hb1 hfit)
    have Hb1 := hide hb1
    clear hb1 hfit hru hfi hby
    go_wp2_with fail
    refine (unhide hr1).mono ?_
    rintro e w2 ⟨base, M, A, S, Cm, mc, vp, vc, P, C, T, al, st, cm, hM, hMA, hAS, hSC, hCb, rfl, hrun⟩
    have hcp := hrun.mg.p.cell
    have hcc := hrun.mg.c.cell
    obtain ⟨av, cv, hvp⟩ := hrun.mg.p.shape
    obtain ⟨ac, cc, hvc⟩ := hrun.mg.c.shape
    subst hvp
    subst hvc
    have hpl := hide (placed_any _ _ _ hcp)
    have hco := hide (complete_any _ _ _ hcc)
    have hPC : P.length + C.length = n := by have := hrun.perm.length_eq; have := hrun.len; simp at *; omega
    have HR := hide hrun
    clear hrun hcp hcc hr1
    go_wp2_with fail
    refine (unhide hpl).mono ?_
    rintro e w2 ⟨rfl, rfl⟩
    go_wp2_with fail
    refine (unhide hco).mono ?_
    rintro e w2 ⟨rfl, rfl⟩
    clear hpl hco
    go_wp2_with fail
    go_loopw [13, 14, 15] (fun qv cv it wr => ∃ i : Nat, i ≤ n ∧ it = .int .i64 i ∧ qv = .int .i64 (cnt P al i) ∧ cv = .int .i64 (cnt C al i) ∧ ∃ x, wr = w2.drewN x) (fun _ _ it _ => n - (intOf it).toNat)
    case atStart => exact ⟨0, Nat.zero_le _, rfl, by rw [cnt_zero]; rfl, by rw [cnt_zero]; rfl, 0, rfl⟩
    case round =>
      obtain ⟨i, hle, rfl, rfl, rfl, x, rfl⟩ := hrel
      have hq1 := cnt_le P al i
      have hq2 := cnt_le C al i
      by_cases hlt : i < n
      · have hlt' : (i : Int) < (n : Int) := by omega
        obtain ⟨t, ht⟩ : ∃ t, al[i]? = some t := ⟨_, List.getElem?_eq_getElem (by have := (unhide HR).len; omega)⟩
        have hcA := (unhide HR).arr.cell ht
        have hcS := (unhide HR).sta.cell hlt
        have hn1 := cnt_snoc (P := P) ht
        have hn2 := cnt_snoc (P := C) ht
        rcases (unhide HR).stP i t ht with ⟨hst, htP⟩ | ⟨hst, htC⟩
        · have htC : t ∉ C := (unhide HR).mg.dj t htP
          rw [if_pos htP] at hn1
          rw [if_neg htC] at hn2
          rw [hst] at hcS
          have Hn1 := hide hn1
          have Hn2 := hide hn2
          have hzi := hide (zzIn_any (w2.drewN x) _ _ _ _ _ _ _ ((unhide HR).mg.p.drewN x) t htP (by omega) true ((unhide HR).mg.fp t htP))
          clear hn1 hn2 hst htP htC ht
          generalize cnt P al i = q1 at *
          generalize cnt C al i = q2 at *
          go_wp2_with fail
          refine (unhide hzi).mono ?_
          rintro e w3 ⟨rfl, y, rfl⟩
          go_wp2_with fail
          go_roundw
          case rel => exact ⟨i + 1, by omega, by go_num, by rw [unhide Hn1]; go_num, by rw [unhide Hn2]; rfl, _, rfl⟩
          case measure => simp [intOf]; omega
        · have htP : t ∉ P := fun e => (unhide HR).mg.dj t e htC
          rw [if_neg htP] at hn1
          rw [if_pos htC] at hn2
          rw [hst] at hcS
          have Hn1 := hide hn1
          have Hn2 := hide hn2
          have hzi := hide (zzIn_any (w2.drewN x) _ _ _ _ _ _ _ ((unhide HR).mg.c.drewN x) t htC (by omega) false ((unhide HR).mg.fc t htC))
          clear hn1 hn2 hst htP htC ht
          generalize cnt P al i = q1 at *
          generalize cnt C al i = q2 at *
          go_wp2_with fail
          refine (unhide hzi).mono ?_
          rintro e w3 ⟨rfl, y, rfl⟩
          go_wp2_with fail
          go_roundw
          case rel => exact ⟨i + 1, by omega, by go_num, by rw [unhide Hn1]; rfl, by rw [unhide Hn2]; go_num, _, rfl⟩
          case measure => simp [intOf]; omega
      · have hlt' : ¬ (i : Int) < (n : Int) := by omega
        have hin : i = al.length := by have := (unhide HR).len; omega
        have e1 : cnt P al i = P.length := by rw [hin]; exact cnt_P (unhide HR).perm (unhide HR).mg.dj
        have e2 : cnt C al i = C.length := by rw [hin]; exact cnt_C (unhide HR).perm (unhide HR).mg.dj
        rw [e1, e2]
        have hhp := hide (fun m => heapOK_any (w2.drewN m) _ _ _ _ _ _ _ ((unhide HR).mg.p.drewN m) (by omega) (unhide HR).mg.hp)
        have hhc := hide (fun m => heapOK_any (w2.drewN m) _ _ _ _ _ _ _ ((unhide HR).mg.c.drewN m) (by omega) (unhide HR).mg.hc)
        clear e1 e2 hq1 hq2 hin
        go_wp2_with fail
        refine (unhide hhp _).mono ?_
        rintro e w3 ⟨rfl, y, rfl⟩
        go_wp2_with fail
        refine (unhide hhc _).mono ?_
        rintro e w3 ⟨rfl, z, rfl⟩
        go_wp2_with fail
        go_ret
        refine ⟨rfl, ?_⟩
        have hb := unhide Hb1
        exact (hb.trans ((unhide HR).bel.mono hb.size)).trans (below_drewN _ _ _)
  · have Hb1 := hide hb1
    clear hb1 hru hfi hby
    go_wp2_with fail
    go_ret
    exact ⟨rfl, unhide Hb1⟩

end Go.Proofs.Qxb6604710a
