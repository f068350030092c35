import Derived.Test.Qxb6604710aW1
namespace Go.Proofs.Qxb6604710a
open Go.RowKit
attribute [local go_sem] run_eql30_same

def cw (T : Nat → Tx) (P al : List Nat) (i : Nat) : Nat := (comm T ((al.take i).filter fun t => decide (t ∈ P))).length

theorem cw_zero (T : Nat → Tx) (P al : List Nat) : cw T P al 0 = 0 := by simp [cw, comm]
theorem cw_le (T : Nat → Tx) (P al : List Nat) (i : Nat) : cw T P al i ≤ i := Nat.le_trans (comm_le T _) (cnt_le P al i)
theorem cw_in {T : Nat → Tx} {P al : List Nat} {i t : Nat} (h : al[i]? = some t) (hP : t ∈ P) : cw T P al (i + 1) = cw T P al i + if 0 < (T t).commits then 1 else 0 := by
  unfold cw comm
  rw [List.take_add_one, h]
  by_cases hc : 0 < (T t).commits <;> simp [List.filter_append, hP, hc]
theorem cw_out {T : Nat → Tx} {P al : List Nat} {i t : Nat} (h : al[i]? = some t) (hP : t ∉ P) : cw T P al (i + 1) = cw T P al i := by
  unfold cw comm
  rw [List.take_add_one, h]
  simp [List.filter_append, hP]
theorem cw_full {T : Nat → Tx} {P C al : List Nat} (hp : (P ++ C).Perm al) (hd : ∀ t ∈ P, t ∉ C) : cw T P al al.length = (comm T P).length := by
  unfold cw
  rw [List.take_length]
  refine comm_perm ?_
  have := (hp.filter fun t => decide (t ∈ P)).symm
  rw [filter_left hd] at this
  exact this

theorem comm_mem {T : Nat → Tx} {P : List Nat} {t : Nat} (h : t ∈ comm T P) : t ∈ P ∧ 0 < (T t).commits := by
  unfold comm at h
  rw [List.mem_filter] at h
  simpa using h

set_option maxRecDepth 100000 in
set_option maxHeartbeats 16000000 in
theorem afterSettles_walk (w : World) (ao so : Option Addr) (n cap m capS : Nat) (Z ZS : Nat → Nat → Int) (hr : IsRows qks w ao n cap Z) (hs : IsRows sks w so m capS ZS) (hn : n ≤ 4096) (hm : m ≤ 4096) :
    Calls Try.prog 6 #[.slice ao n cap, .slice so m capS] w fun e w' => e = .returned (.bool true) ∧ Below w.heap.size w w' := by
  have hby := hide (bytes27 w ao so n cap m capS hn hm)
  have hfi := hide (scriptFits_any w ao so n cap m capS ZS hs hn hm)
  have hru := hide (fun w' mp hb => runScript_any w' ao so n cap m capS Z ZS mp (hr.below hb) (hs.below hb) hn hm)
  clear hr hs
  have h7 : ¬ (4096 : Int) < (n : Int) := by omega
  have h8 : ¬ (4096 : Int) < (m : Int) := by omega
  have h7' : decide ((4096 : Int) < (n : Int)) = false := by simpa using h7
  go_enter Try.func6, Try.ntmps6
  go_wp2_with fail
  refine (unhide hby).mono ?_
  rintro e w ⟨rfl, rfl⟩
  go_wp2_with fail
  refine (unhide hfi).mono ?_
  rintro e w1 ⟨hb1, ⟨mp, rfl, hfit⟩ | rfl⟩
  · have hr1 := hide (unhide hru w1 mp hb1 hfit)
    have Hb1 := hide hb1
    clear hb1 hfit hru hfi hby
    go_wp2_with fail
    refine (unhide hr1).mono ?_
    rintro e w2 ⟨base, M, A, S, Cm, mc, vp, vc, P, C, T, al, st, cm, hM, hMA, hAS, hSC, hCb, rfl, hrun⟩
    have hcp := hrun.mg.p.cell
    have hcc := hrun.mg.c.cell
    obtain ⟨av, cv, hvp⟩ := hrun.mg.p.shape
    obtain ⟨ac, cc, hvc⟩ := hrun.mg.c.shape
    subst hvp
    subst hvc
    have hpl := hide (placed_any _ _ _ hcp)
    have hco := hide (complete_any _ _ _ hcc)
    have hPC : P.length + C.length = n := by have := hrun.perm.length_eq; have := hrun.len; simp at *; omega
    have HR := hide hrun
    clear hrun hcp hcc hr1
    go_wp2_with fail
    refine (unhide hpl).mono ?_
    rintro e w2 ⟨rfl, rfl⟩
    go_wp2_with fail
    refine (unhide hco).mono ?_
    rintro e w2 ⟨rfl, rfl⟩
    clear hpl hco
    go_wp2_with fail
    go_loopw [13, 14, 15] (fun qv cv it wr => ∃ i : Nat, i ≤ n ∧ it = .int .i64 i ∧ qv = .int .i64 (cnt P al i) ∧ cv = .int .i64 (cw T P al i) ∧ ∃ x, wr = w2.drewN x) (fun _ _ it _ => n - (intOf it).toNat)
    case atStart => exact ⟨0, Nat.zero_le _, rfl, by rw [cnt_zero]; rfl, by rw [cw_zero]; rfl, 0, rfl⟩
    case round =>
      obtain ⟨i, hle, rfl, rfl, rfl, x, rfl⟩ := hrel
      have hq1 := cnt_le P al i
      have hq2 := cw_le T P al i
      by_cases hlt : i < n
      · have hlt' : (i : Int) < (n : Int) := by omega
        obtain ⟨t, ht⟩ : ∃ t, al[i]? = some t := ⟨_, List.getElem?_eq_getElem (by have := (unhide HR).len; omega)⟩
        have hcA := (unhide HR).arr.cell ht
        have hcS := (unhide HR).sta.cell hlt
        have hcC := (unhide HR).cma.cell hlt
        have hcmT := (unhide HR).cmT i t ht
        have hn1 := cnt_snoc (P := P) ht
        rcases (unhide HR).stP i t ht with ⟨hst, htP⟩ | ⟨hst, htC⟩
        · have hn2 := cw_in (T := T) ht htP
          rw [hcmT] at hn2
          rw [if_pos htP] at hn1
          rw [hst] at hcS
          have Hn1 := hide hn1
          have Hn2 := hide hn2
          have hzi := hide (zzIn_any (w2.drewN x) _ _ _ _ _ _ _ ((unhide HR).mg.p.drewN x) t htP (by omega) true ((unhide HR).mg.fp t htP))
          clear hn1 hn2 hst htP ht hcmT
          generalize cnt P al i = q1 at *
          generalize cw T P al i = q2 at *
          generalize cm i = ci at *
          by_cases hpos : 0 < ci
          · rw [if_pos hpos] at Hn2
            go_wp2_with fail
            refine (unhide hzi).mono ?_
            rintro e w3 ⟨rfl, y, rfl⟩
            go_wp2_with fail
            go_roundw
            case rel => exact ⟨i + 1, by omega, by go_num, by rw [unhide Hn1]; go_num, by rw [unhide Hn2]; go_num, _, rfl⟩
            case measure => simp [intOf]; omega
          · rw [if_neg hpos] at Hn2
            go_wp2_with fail
            refine (unhide hzi).mono ?_
            rintro e w3 ⟨rfl, y, rfl⟩
            go_wp2_with fail
            go_roundw
            case rel => exact ⟨i + 1, by omega, by go_num, by rw [unhide Hn1]; go_num, by rw [unhide Hn2]; rfl, _, rfl⟩
            case measure => simp [intOf]; omega
        · have htP : t ∉ P := fun e => (unhide HR).mg.dj t e htC
          have hn2 := cw_out (T := T) ht htP
          rw [if_neg htP] at hn1
          rw [hst] at hcS
          have Hn1 := hide hn1
          have Hn2 := hide hn2
          have hzi := hide (zzIn_any (w2.drewN x) _ _ _ _ _ _ _ ((unhide HR).mg.c.drewN x) t htC (by omega) false ((unhide HR).mg.fc t htC))
          clear hn1 hn2 hst htP htC ht hcmT hcC
          generalize cnt P al i = q1 at *
          generalize cw T P al i = q2 at *
          go_wp2_with fail
          refine (unhide hzi).mono ?_
          rintro e w3 ⟨rfl, y, rfl⟩
          go_wp2_with fail
          go_roundw
          case rel => exact ⟨i + 1, by omega, by go_num, by rw [unhide Hn1]; rfl, by rw [unhide Hn2], _, rfl⟩
          case measure => simp [intOf]; omega
      · have hlt' : ¬ (i : Int) < (n : Int) := by omega
        have hin : i = al.length := by have := (unhide HR).len; omega
        have e1 : cnt P al i = P.length := by rw [hin]; exact cnt_P (unhide HR).perm (unhide HR).mg.dj
        have e2 : cw T P al i = (comm T P).length := by rw [hin]; exact cw_full (unhide HR).perm (unhide HR).mg.dj
        rw [e1, e2]
        have hmo := hide (zzcommitting_any (w2.drewN x) _ _ _ _ _ _ ((unhide HR).mg.p.drewN x) (by omega) 0 (Nat.zero_le _))
        have hcl := comm_le T P
        clear e1 e2 hq1 hq2 hin
        have hne : ((P.length : Int) != (P.length : Int)) = false := by simp
        go_wp2_with fail
        refine (unhide hmo).mono ?_
        rintro e w3 ⟨ag, capg, rfl, hown3, hb3⟩
        have hb3' : Below w2.heap.size w2 w3 := (below_drewN w2 _ x).trans hb3
        have hR3 := (unhide HR).below hb3'
        have hlo := hide (listOK_any w3 _ _ _ _ _ _ hR3.mg.p hR3.mg.fp (by omega) _ _ hown3)
        obtain ⟨ag', capg', hsl, hgc⟩ := ownsRow_shape hown3
        cases hsl
        have Hgc := hide hgc
        have HR3 := hide hR3
        have hne2 : (((comm T P).length : Int) != ((comm T P).length : Int)) = false := by simp
        clear hmo hown3 hb3 hb3' hR3 hgc HR
        go_wp2_with fail
        refine (unhide hlo).mono ?_
        rintro e w4 ⟨rfl, y, rfl⟩
        clear hlo
        go_wp2_with fail
        go_loopw [17] (fun jt wr => ∃ j : Nat, j ≤ (comm T P).length ∧ jt = .int .i64 j ∧ ∃ x, wr = w3.drewN x) (fun jt _ => (comm T P).length - (intOf jt).toNat)
        case atStart => exact ⟨0, Nat.zero_le _, rfl, y, rfl⟩
        case round =>
          obtain ⟨j, hjle, rfl, x2, rfl⟩ := hrel
          by_cases hjl : j < (comm T P).length
          · have hjl' : (j : Int) < ((comm T P).length : Int) := by omega
            obtain ⟨u, hu⟩ : ∃ u, (comm T P)[j]? = some u := ⟨_, List.getElem?_eq_getElem hjl⟩
            obtain ⟨huP, huc⟩ := comm_mem (List.mem_of_getElem? hu)
            obtain ⟨g, hag, hcg⟩ := unhide Hgc j (ptr u) (by simp [hu])
            subst hag
            have hcg' : w3.cell? ⟨g, j, none⟩ = some (.pointer (some ⟨u, 0, none⟩)) := hcg
            obtain ⟨iu, hiu⟩ := List.getElem?_of_mem ((unhide HR3).perm.mem_iff.1 (List.mem_append.2 (Or.inl huP)))
            have hiun : iu < n := by have := lt_of_some hiu; have := (unhide HR3).len; omega
            obtain ⟨ju, _, hutx⟩ := (unhide HR3).mg.p.memTx huP
            have Hiu := hide hiu
            have Hutx := hide hutx
            have HuP := hide huP
            clear hu huP hcg hiu hutx
            go_wp2_with fail
            go_loopw [18, 19] (fun fv it wr => ∃ i : Nat, i ≤ n ∧ it = .int .i64 i ∧ fv = .bool (decide (iu < i)) ∧ ∃ x, wr = w3.drewN x) (fun _ it _ => n - (intOf it).toNat)
            case atStart => exact ⟨0, Nat.zero_le _, rfl, by simp, x2, rfl⟩
            case round =>
              obtain ⟨i2, hile, rfl, rfl, x3, rfl⟩ := hrel
              by_cases hil : i2 < n
              · have hil' : (i2 : Int) < (n : Int) := by omega
                obtain ⟨t, ht⟩ : ∃ t, al[i2]? = some t := ⟨_, List.getElem?_eq_getElem (by have := (unhide HR3).len; omega)⟩
                have hcA := (unhide HR3).arr.cell ht
                have hcS := (unhide HR3).sta.cell hil
                have hcC := (unhide HR3).cma.cell hil
                by_cases htu : t = u
                · have hii : i2 = iu := (unhide HR3).inj ht (htu ▸ unhide Hiu)
                  subst htu
                  have hcmT := (unhide HR3).cmT i2 t ht
                  rw [hcmT] at huc
                  have hst : st i2 = 1 := by
                    rcases (unhide HR3).stP i2 t ht with ⟨h1, _⟩ | ⟨_, h2⟩
                    · exact h1
                    · exact absurd h2 ((unhide HR3).mg.dj t (unhide HuP))
                  rw [hst] at hcS
                  have hd0 : decide (iu < i2) = false := by simp; omega
                  have hd1 : decide (iu < i2 + 1) = true := by simp; omega
                  rw [hd0]
                  have Hd1 := hide hd1
                  clear hii ht hcmT hst hd0 hd1
                  generalize cm i2 = ci at *
                  have hcp : decide (ci ≤ 0) = false := by simp; omega
                  go_wp2_with fail
                  go_quiet (fail)
                  go_wp2_with fail
                  go_roundw
                  case rel => exact ⟨i2 + 1, by omega, by go_num, by rw [unhide Hd1], _, rfl⟩
                  case measure => simp [intOf]; omega
                · have hii : i2 ≠ iu := by
                    intro e
                    have h1 := unhide Hiu
                    rw [← e, ht] at h1
                    exact htu (Option.some.inj h1)
                  have hd1 : decide (iu < i2 + 1) = decide (iu < i2) := by
                    by_cases h1 : iu < i2
                    · simp [h1]; omega
                    · simp [h1]; omega
                  have Hd1 := hide hd1
                  have httx : ∃ jt, IsTx w3 t ((T t).at jt) := by
                    rcases (unhide HR3).stP i2 t ht with ⟨_, h2⟩ | ⟨_, h2⟩
                    · obtain ⟨a, _, b⟩ := (unhide HR3).mg.p.memTx h2; exact ⟨a, b⟩
                    · obtain ⟨a, _, b⟩ := (unhide HR3).mg.c.memTx h2; exact ⟨a, b⟩
                  obtain ⟨jt2, httx⟩ := httx
                  have hne : ∀ q, (binOp .eql 30 (.pointer (some ⟨t, 0, none⟩)) (.pointer (some ⟨u, 0, none⟩))).run Try.prog (w3.drewN q) = .ok (.bool false) (w3.drewN q) := fun q => run_eql30_ne (w3.drewN q) t u _ _ (httx.drewN q) ((unhide Hutx).drewN q) htu
                  clear hd1 ht httx hii
                  generalize decide (iu < i2) = fd at *
                  go_wp2_with fail
                  go_quiet (fail)
                  go_wp2_with fail
                  go_roundw
                  case rel => exact ⟨i2 + 1, by omega, by go_num, by rw [unhide Hd1], _, rfl⟩
                  case measure => simp [intOf]; omega
              · have hil' : ¬ (i2 : Int) < (n : Int) := by omega
                have hd0 : decide (iu < i2) = true := by simp; omega
                rw [hd0]
                clear hd0
                go_wp2_with fail
                go_roundw
                case rel => exact ⟨j + 1, by omega, by go_num, _, rfl⟩
                case measure => simp [intOf]; omega
          · have hjl' : ¬ (j : Int) < ((comm T P).length : Int) := by omega
            go_wp2_with fail
            go_ret
            refine ⟨rfl, ?_⟩
            have hb := unhide Hb1
            exact (hb.trans ((unhide HR3).bel.mono hb.size)).trans (below_drewN _ _ _)
  · have Hb1 := hide hb1
    clear hb1 hru hfi hby
    go_wp2_with fail
    go_ret
    exact ⟨rfl, unhide Hb1⟩

end Go.Proofs.Qxb6604710a
