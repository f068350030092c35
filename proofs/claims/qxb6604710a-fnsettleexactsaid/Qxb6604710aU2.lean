import Derived.Test.Qxb6604710aU3
namespace Go.Proofs.Qxb6604710a
open Go.RowKit
attribute [local go_sem] run_eql30_same

set_option maxHeartbeats 400000 in
theorem bytes9 (w : World) (ao : Option Addr) (n cap : Nat) (a1 a2 a3 a4 a5 a6 a7 a8 : Int) (hn : n ≤ 1048576) :
    Calls Try.prog 9 #[.slice ao n cap, .int .i64 a1, .int .i64 a2, .int .u64 a3, .int .u64 a4, .int .u64 a5, .int .i64 a6, .int .i64 a7, .int .i64 a8] w fun e w' => e = .returned (.bool true) ∧ w' = w := by
  have h1 : ¬ (1048576 : Int) < (n : Int) := by omega
  go_enter Try.func9, Try.ntmps9
  go_wp2_with fail
  go_ret
  exact ⟨rfl, rfl⟩

set_option maxHeartbeats 400000 in
theorem bytes9_no (w : World) (ao : Option Addr) (n cap : Nat) (a1 a2 a3 a4 a5 a6 a7 a8 : Int) (hn : 1048576 < n) :
    Calls Try.prog 9 #[.slice ao n cap, .int .i64 a1, .int .i64 a2, .int .u64 a3, .int .u64 a4, .int .u64 a5, .int .i64 a6, .int .i64 a7, .int .i64 a8] w fun e w' => e = .returned (.bool false) ∧ w' = w := by
  have h1 : (1048576 : Int) < (n : Int) := by omega
  go_enter Try.func9, Try.ntmps9
  go_wp2_with fail
  go_ret
  exact ⟨rfl, rfl⟩

theorem Try.info3 : (Try.prog.info? 3).map (fun i => (i.zero, i.size, i.bytes)) = some (some (.int .i64 0), 1, 8) := by kernel_rfl

/-- The world before the placing: the merger and 'all'. -/
theorem plAll_start {w w1 w2 : World} (hw1 : w1 = (w.alloc (.map #[] 0)).alloc (.cells (mergerCells (.map (some w.heap.size)) (.slice none 0 0) (.slice none 0 0) (.map none)) 71)) {n : Nat} {xs : List Value}
    (hown : w2.ownsRow 0 30 1 (.slice (some ⟨w1.heap.size, 0, none⟩) n n) n xs) (hg : w1.grownBy w2 none) (Z : Nat → Nat → Int) :
    w1.heap.size = w.heap.size + 2 ∧ w.heap.size + 2 < w2.heap.size ∧ PlAll w w2.heap.size (w.heap.size + 1) (w.heap.size + 2) n Z 0 w2 (mergerCells (.map (some w.heap.size)) (.slice none 0 0) (.slice none 0 0) (.map none)) (.slice none 0 0) [] (fun _ => newTx 0 0 0 0 0 0 (.slice none 0 0)) [] := by
  have hsz : w1.heap.size = w.heap.size + 2 := by rw [hw1]; simp
  have hA := (hown.lt w1.heap.size rfl).2
  have hb12 : Below (w.heap.size + 2) w1 w2 := (Below.refl _ _).grown hg (by omega) (by intro k hk; cases hk)
  have hb01 : Below w.heap.size w w1 := by rw [hw1]; exact ((Below.refl _ _).alloc (Nat.le_refl _) _).alloc (by simp) _
  refine ⟨hsz, by omega, mg_init w _ _ (by omega) (by rw [← hw1]; exact hb12) (Nat.le_refl _), List.Perm.refl _, rfl, ?_, hb01.trans (hb12.mono (by omega)), ?_⟩
  · rcases hown.2 with ⟨h1, _⟩ | ⟨g, cap, cur, hv, _, hh, _, _, hs, _⟩
    · cases h1
    · simp at hv
      obtain ⟨rfl, rfl⟩ := hv
      refine ⟨cur, ?_, by simpa using hs, ?_⟩
      · rw [← hsz]; exact hh
      · intro k t hk; simp at hk
  · intro k t hk; simp at hk

set_option maxRecDepth 100000 in
set_option maxHeartbeats 16000000 in
theorem settleExact_walk (w : World) (ao : Option Addr) (n cap : Nat) (Z : Nat → Nat → Int) (at_ tSite tN tTs tVoted cm vt parts : Int) (hr : IsRows qks w ao n cap Z) (hn : n ≤ 4096)
    (h1 : 0 ≤ cm) (h2 : cm ≤ 536870912) (h3 : 0 ≤ vt) (h4 : vt ≤ 536870912) (h5 : -1 ≤ parts) (h6 : parts ≤ 65536) :
    Calls Try.prog 3 #[.slice ao n cap, .int .i64 at_, .int .i64 tSite, .int .u64 tN, .int .u64 tTs, .int .u64 tVoted, .int .i64 cm, .int .i64 vt, .int .i64 parts] w fun e w' => e = .returned (.bool true) ∧ Below w.heap.size w w' := by
  have hby := hide (bytes9 w ao n cap at_ tSite tN tTs tVoted cm vt parts (by omega))
  have hnm := hide (newMerger_any w)
  have Hr := hide hr
  clear hr
  obtain ⟨ti, hi, hz0, hz1, hz2⟩ := info_parts Try.info30
  have Hi := hide hi
  have Hz0 := hide hz0
  have Hz1 := hide hz1
  have Hz2 := hide hz2
  clear hi hz0 hz1 hz2
  have d1 : decide (cm < 0) = false := by simp; omega
  have d2 : decide (536870912 < cm) = false := by simp; omega
  have d3 : decide (vt < 0) = false := by simp; omega
  have d4 : decide (536870912 < vt) = false := by simp; omega
  have d5 : decide (parts < -1) = false := by simp; omega
  have d6 : decide (65536 < parts) = false := by simp; omega
  have h7 : ¬ (4096 : Int) < (n : Int) := by omega
  go_enter Try.func3, Try.ntmps3
  go_wp2_with fail
  refine (unhide hby).mono ?_
  rintro e w ⟨rfl, rfl⟩
  go_wp2_with fail
  refine (unhide hnm).mono ?_
  rintro e w1 ⟨rfl, hw1⟩
  have Hw1 := hide hw1
  clear hw1
  go_wp2_with (at_make; refine wpList_make_full _ rfl _ _ 27 rfl 0 30 ti (.pointer none) 1 Try.underlying27 (unhide Hi) (unhide Hz0) (unhide Hz1) _ _ _ _ n rfl rfl rfl rfl ?b2 ?b3 ?b4 ?_)
  case b2 => rw [unhide Hz2]; omega
  case b3 => simp only [maxLen]; omega
  case b4 => exact Nat.zero_le _
  intro w2 hown hg
  obtain ⟨hs1, hs2, hpl⟩ := plAll_start (unhide Hw1) hown hg Z
  have hs1' := hs1
  rw [hs1]
  have H0 := hide hpl
  have hbase := hs2
  clear hown hg hpl hs1' hs2 hnm hby Hw1 hs1
  generalize hbs : w2.heap.size = base at *
  have Hbs := hide hbs
  clear hbs
  go_wp2_with fail
  go_loopw [21] (fun it wr => ∃ (i : Nat) (mc : Array Value) (vp : Value) (P : List Nat) (T : Nat → Tx) (al : List Nat), it = .int .i64 i ∧ i ≤ n ∧ PlAll w base (w.heap.size + 1) (w.heap.size + 2) n Z i wr mc vp P T al) (fun it _ => n - (intOf it).toNat)
  case atStart => exact ⟨0, _, _, _, _, _, rfl, Nat.zero_le _, unhide H0⟩
  case round =>
    obtain ⟨i, mc, vp, P, T, al, rfl, hle, hrel⟩ := hrel
    have Hrel := hide hrel
    clear hrel H0
    by_cases hlt : i < n
    · have hlt' : (i : Int) < (n : Int) := by omega
      obtain ⟨b, off, rfl, c0, c1, c2, c3, c4⟩ := (unhide Hr).q5 (unhide Hrel).bel hlt
      go_wp2_with fail
      generalize hW : wr.alloc _ = W
      have hWb : Below wr.heap.size wr W := by rw [← hW]; exact (Below.refl _ _).alloc (Nat.le_refl _) _
      have hpl := hide (placeAll (unhide Hrel) (by omega) (by omega) (by omega) hlt hn hWb (newTx (Z i 0) (Z i 1) (Z i 2) (Z i 3) (Z i 4) 0 (.slice none 0 0)) rfl rfl rfl)
      have harr := ((unhide Hrel).arr.below hWb).below ((Below.refl W.heap.size W).alloc (Nat.le_refl _) (.cells (newTx (Z i 0) (Z i 1) (Z i 2) (Z i 3) (Z i 4) 0 (.slice none 0 0)).cells 76))
      obtain ⟨va, hva⟩ := harr.some hlt
      have hfa := harr.fz i
      clear hW hWb harr c0 c1 c2 c3 c4
      refine (newTxn_any W (Z i 0) (Z i 1) (Z i 2) (Z i 3) (Z i 4) 0 none 0 0).mono ?_
      rintro e w3 ⟨rfl, hw3⟩
      rw [← hw3] at hpl hva hfa
      clear hw3
      go_wp2_with fail
      refine (unhide hpl).mono ?_
      rintro e w4 ⟨rfl, mc', vp', P', T', hst⟩
      have Hst := hide hst
      clear hst hpl hva hfa
      go_wp2_with fail
      go_roundw
      case rel => exact ⟨i + 1, mc', vp', P', T', _, by go_num, by omega, unhide Hst⟩
      case measure => simp [intOf]; omega
    · have hlt' : ¬ (i : Int) < (n : Int) := by omega
      have hin : i = n := by omega
      rw [hin] at Hrel
      clear hin
      obtain ⟨tj, hj, hj0, hj1, hj2⟩ := info_parts Try.info3
      have Hj := hide hj
      have Hj0 := hide hj0
      have Hj1 := hide hj1
      have Hj2 := hide hj2
      clear hj hj0 hj1 hj2
      go_upto_if 110 with fail
      go_cut [23] from 110 to 112 (fun s23 wc => ∃ ap lp cp, s23 = .slice ap lp cp ∧ IsParts parts (.slice ap lp cp) ∧ PlAll w base (w.heap.size + 1) (w.heap.size + 2) n Z n wc mc vp P T al)
      case first =>
        by_cases hp : 0 ≤ parts
        · obtain ⟨l, hl⟩ := Int.eq_ofNat_of_zero_le hp
          have Hl := hide hl
          clear hl
          go_wp2_with (at_make; refine wpList_make_full _ rfl _ _ 33 rfl 0 3 tj (.int .i64 0) 1 Try.underlying33 (unhide Hj) (unhide Hj0) (unhide Hj1) _ _ _ _ l rfl rfl (unhide Hl) (unhide Hl) (by rw [unhide Hj2]; have := unhide Hl; omega) (by simp only [maxLen]; have := unhide Hl; omega) (Nat.zero_le _) ?_)
          intro w5 hown5 hg5
          have H5 := hide ((unhide Hrel).below ((Below.refl _ _).grown hg5 (Nat.le_refl _) (by intro k hk; cases hk)))
          clear hown5 hg5
          go_wp2_with fail
          go_meet
          case rel => exact ⟨_, _, _, rfl, Or.inr ⟨_, l, l, unhide Hl, rfl⟩, unhide H5⟩
        · have hp' : ¬ (0 : Int) ≤ parts := hp
          go_wp2_with fail
          go_meet
          case rel => exact ⟨none, 0, 0, rfl, Or.inl ⟨by omega, rfl⟩, unhide Hrel⟩
      case rest =>
        obtain ⟨ap, lp, cp, rfl, hpa, hpl⟩ := hcut
        have Hpa := hide hpa
        have Hpl := hide hpl
        clear hpa hpl Hrel
        go_upto_region 19 with fail
        go_cut [25] from 113 to 120 (fun s25 wc => ∃ qd : Bool, s25 = .bool qd ∧ (qd = true ↔ 0 ≤ at_ ∧ at_ < n) ∧ PlAll w base (w.heap.size + 1) (w.heap.size + 2) n Z n wc mc vp P T al)
        case first =>
          by_cases ha : 0 ≤ at_
          · by_cases hb : at_ < n
            · go_wp2_with fail
              go_meet
              case rel => exact ⟨true, rfl, ⟨fun _ => ⟨ha, hb⟩, fun _ => rfl⟩, unhide Hpl⟩
            · have hb' : ¬ at_ < (n : Int) := hb
              go_wp2_with fail
              go_meet
              case rel => exact ⟨false, rfl, (by simp; omega), unhide Hpl⟩
          · have ha' : decide (0 ≤ at_) = false := by simpa using ha
            go_wp2_with fail
            go_meet
            case rel => exact ⟨false, rfl, (by simp; omega), unhide Hpl⟩
        case rest =>
          obtain ⟨qd, rfl, hqd, hpl⟩ := hcut
          have Hqd := hide hqd
          have Hpl2 := hide hpl
          clear hpl hqd Hpl
          go_upto_if 121 with fail
          go_cut [24] from 122 to 140 (fun s24 wc => ∃ t T1 T0, s24 = .pointer (some ⟨t, 0, none⟩) ∧ TPre w base (w.heap.size + 1) (w.heap.size + 2) n tTs tVoted cm vt parts qd wc mc vp P T1 T0 al t)
          case first =>
            rename_i wc1 _
            cases qd with
            | true =>
              obtain ⟨ha, hb⟩ := (unhide Hqd).1 rfl
              obtain ⟨k, hk⟩ := Int.eq_ofNat_of_zero_le ha
              subst hk
              have hkn : k < n := by omega
              obtain ⟨t, ht⟩ : ∃ t, al[k]? = some t := ⟨_, List.getElem?_eq_getElem (by have := (unhide Hpl2).len; omega)⟩
              have hca := (unhide Hpl2).arr.cell ht
              obtain ⟨ip, hip⟩ := List.getElem?_of_mem ((unhide Hpl2).perm.mem_iff.2 (List.mem_of_getElem? ht))
              have htx := (unhide Hpl2).mg.p.tx ip t hip
              have hset := hide (setTxn_any _ t _ tTs tVoted cm vt ap lp cp htx)
              have Hip := hide hip
              clear htx ht hip
              go_wp2_with fail
              refine (unhide hset).mono ?_
              rintro e w6 ⟨rfl, htx6, hk6, hs6⟩
              have H6 := hide (tpre_queued (unhide Hpl2) hn (by omega) (by omega) (by omega) (unhide Hip) (unhide Hpa) h1 h2 h3 h4 hk6 htx6)
              clear htx6 hk6 hs6 hset
              go_wp2_with fail
              go_meet
              case rel => exact ⟨t, _, _, rfl, unhide H6⟩
            | false =>
              have H6 := hide (fun site nn => tpre_new (site := site) (nn := nn) (ts := tTs) (voted := tVoted) (unhide Hpl2) hn (unhide Hpa) h1 h2 h3 h4)
              go_wp2_with fail
              refine (newTxn_any _ tSite tN tTs tVoted cm vt ap lp cp).mono ?_
              rintro e w6 ⟨rfl, rfl⟩
              go_wp2_with fail
              go_meet
              case rel => exact ⟨_, _, _, rfl, unhide H6 tSite tN⟩
          case rest =>
            obtain ⟨t, T1, T0, rfl, hpre⟩ := hcut
            have hse := hide (zzsettle_any _ _ _ _ _ _ _ _ _ _ t parts hpre.pre hpre.hin)
            rw [hpre.fcm, hpre.fvt] at hse
            have hdo := hide (fun W => zzDone_any W cm vt parts h1 h2 h3 h4)
            have Hpost := hide (fun w' hs => tpost hpre (by omega) (by omega) (by omega) (w' := w') hs)
            clear hpre Hpl2 Hpa Hqd
            generalize doneB cm vt parts = dn at *
            go_wp2_with fail
            refine (unhide hse).mono ?_
            rintro e w6 ⟨rfl, hs6⟩
            obtain ⟨mc6, vp6, vc6, P6, C6, T6, h6⟩ := unhide Hpost w6 hs6
            have H6 := hide h6
            clear h6 hs6 Hpost hse
            go_wp2_with fail
            refine (unhide hdo _).mono ?_
            rintro e w6 ⟨rfl, rfl⟩
            have hcp := (unhide H6).mg.p.cell
            have hcc := (unhide H6).mg.c.cell
            obtain ⟨av, cv, hvp⟩ := (unhide H6).mg.p.shape
            obtain ⟨ac, cc, hvc⟩ := (unhide H6).mg.c.shape
            subst hvp
            subst hvc
            have hpl := hide (placed_any _ _ _ hcp)
            have hco := hide (complete_any _ _ _ hcc)
            clear hcp hcc
            have hnP : P6.length ≤ n + 1 := by have := (unhide H6).lenP; split at this <;> split at this <;> omega
            have hnC : C6.length ≤ 1 := by
              cases dn with
              | true => rw [(unhide H6).tin.1 rfl]; simp
              | false => rw [((unhide H6).tin.2 rfl).1]; simp
            go_wp2_with fail
            refine (unhide hpl).mono ?_
            rintro e w6 ⟨rfl, rfl⟩
            go_wp2_with fail
            refine (unhide hco).mono ?_
            rintro e w6 ⟨rfl, rfl⟩
            go_upto_region 29 with fail
            go_cut [157] from 154 to 157 (fun s wc => s = .bool (dn && qd) ∧ w6 = wc)
            case first =>
              cases dn with
              | true =>
                go_wp2_with fail
                go_meet
                case rel => exact ⟨rfl, rfl⟩
              | false =>
                go_wp2_with fail
                go_meet
                case rel => exact ⟨rfl, rfl⟩
            case rest =>
              obtain ⟨rfl, rfl⟩ := hcut
              go_upto_if 157 with fail
              go_cut [29] from 157 to 159 (fun s wc => ∃ q : Int, s = .int .i64 q ∧ q = (n : Int) - (if (dn && qd) then 1 else 0) ∧ w6 = wc)
              case first =>
                cases hb : (dn && qd) with
                | true =>
                  have Hb := hide hb
                  clear hb
                  go_wp2_with fail
                  go_meet
                  case rel => exact ⟨_, rfl, by rw [unhide Hb]; simp, rfl⟩
                | false =>
                  have Hb := hide hb
                  clear hb
                  go_wp2_with fail
                  go_meet
                  case rel => exact ⟨_, rfl, by rw [unhide Hb]; simp, rfl⟩
              case rest =>
                obtain ⟨nq, rfl, hnq, rfl⟩ := hcut
                have Hnq := hide hnq
                clear hnq
                go_upto_region 31 with fail
                go_cut [165] from 160 to 165 (fun s wc => s = .bool (!dn && !qd) ∧ w6 = wc)
                case first =>
                  cases dn with
                  | true =>
                    go_wp2_with fail
                    go_meet
                    case rel => exact ⟨rfl, rfl⟩
                  | false =>
                    go_wp2_with fail
                    go_meet
                    case rel => exact ⟨rfl, rfl⟩
                case rest =>
                  obtain ⟨rfl, rfl⟩ := hcut
                  have hlP := hide (unhide H6).lenP
                  go_upto_if 165 with fail
                  go_cut [29] from 165 to 167 (fun s wc => s = .int .i64 P6.length ∧ w6 = wc)
                  case first =>
                    have HP : Hid ((P6.length : Int) = nq + if (!dn && !qd) then 1 else 0) := by
                      have h1 := unhide hlP
                      have h2 := unhide Hnq
                      show _ = _
                      cases dn <;> cases qd <;> simp at h1 h2 ⊢ <;> omega
                    have hnq0 : -1 ≤ nq := by have := unhide Hnq; split at this <;> omega
                    have hnq1 : nq ≤ 5000 := by have := unhide Hnq; split at this <;> omega
                    cases hb : (!dn && !qd) with
                    | true =>
                      rw [hb] at HP
                      clear hb
                      go_wp2_with fail
                      go_meet
                      case rel => exact ⟨by have := unhide HP; simp at this; rw [this], rfl⟩
                    | false =>
                      rw [hb] at HP
                      clear hb
                      go_wp2_with fail
                      go_meet
                      case rel => exact ⟨by have := unhide HP; simp at this; rw [this], rfl⟩
                  case rest =>
                    obtain ⟨rfl, rfl⟩ := hcut
                    have hw : ((P6.length : Int) != (P6.length : Int)) = false := by simp
                    go_wp2_with fail
                    go_loopw [30] (fun it wr => ∃ k : Nat, k ≤ n ∧ it = .int .i64 k ∧ ∃ m, wr = w6.drewN m) (fun it _ => n - (intOf it).toNat)
                    case atStart => exact ⟨0, Nat.zero_le _, rfl, 0, rfl⟩
                    case round =>
                      obtain ⟨k, hk, rfl, m, rfl⟩ := hrel
                      by_cases hkn : k < n
                      · have hkn' : (k : Int) < (n : Int) := by omega
                        obtain ⟨u, hu⟩ : ∃ u, al[k]? = some u := ⟨_, List.getElem?_eq_getElem (by have := (unhide H6).len; omega)⟩
                        have hca := (unhide H6).arr.cell hu
                        by_cases hut : u = t
                        · subst hut
                          clear hu
                          go_wp2_with fail
                          go_roundw
                          case rel => exact ⟨k + 1, by omega, by go_num, m, rfl⟩
                          case measure => simp [intOf]; omega
                        · have huP := (unhide H6).alP u (List.mem_of_getElem? hu) hut
                          obtain ⟨iu, _, htu⟩ := (unhide H6).mg.p.memTx huP
                          obtain ⟨jt, htt⟩ := (unhide H6).tTx
                          have hne := run_eql30_ne (w6.drewN m) u t _ _ (htu.drewN m) (htt.drewN m) hut
                          have hzi := hide (zzIn_any (w6.drewN m) _ _ _ _ _ _ _ ((unhide H6).mg.p.drewN m) u huP (by omega) true ((unhide H6).mg.fp u huP))
                          clear hu htu htt huP
                          go_wp2_with fail
                          refine (unhide hzi).mono ?_
                          rintro e w7 ⟨rfl, m2, rfl⟩
                          go_wp2_with fail
                          go_roundw
                          case rel => exact ⟨k + 1, by omega, by go_num, m + m2, rfl⟩
                          case measure => simp [intOf]; omega
                      · have hkn' : ¬ (k : Int) < (n : Int) := by omega
                        obtain ⟨jt, htt⟩ := (unhide H6).tTx
                        have hfl := hide (fun m => fields_any (w6.drewN m) t _ (htt.drewN m))
                        simp only [Tx.at, (unhide H6).fts, (unhide H6).fvo, (unhide H6).fcm, (unhide H6).fvt] at hfl
                        clear htt
                        have e1 : (tTs != tTs) = false := by simp
                        have e2 : (tVoted != tVoted) = false := by simp
                        have e3 : (cm != cm) = false := by simp
                        have e4 : (vt != vt) = false := by simp
                        have hhp := hide (fun m => heapOK_any (w6.drewN m) _ _ _ _ _ _ _ ((unhide H6).mg.p.drewN m) (by omega) (unhide H6).mg.hp)
                        have hhc := hide (fun m => heapOK_any (w6.drewN m) _ _ _ _ _ _ _ ((unhide H6).mg.c.drewN m) (by omega) (unhide H6).mg.hc)
                        go_wp2_with fail
                        refine (unhide hfl _).mono ?_
                        rintro e w7 ⟨rfl, m2, rfl⟩
                        cases dn with
                        | true =>
                          have hC := (unhide H6).tin.1 rfl
                          have hzi := hide (fun m => zzIn_any (w6.drewN m) _ _ _ _ _ _ _ ((unhide H6).mg.c.drewN m) t (by rw [hC]; simp) (by omega) false ((unhide H6).mg.fc t (by rw [hC]; simp)))
                          have hlC : C6.length = 1 := by rw [hC]; rfl
                          have HlC := hide hlC
                          clear hC hlC
                          have hl1 : ((C6.length : Int) != 1) = false := by rw [unhide HlC]; rfl
                          go_wp2_with fail
                          refine (unhide hzi _).mono ?_
                          rintro e w7 ⟨rfl, m3, rfl⟩
                          go_wp2_with fail
                          refine (unhide hhp _).mono ?_
                          rintro e w7 ⟨rfl, m4, rfl⟩
                          go_wp2_with fail
                          refine (unhide hhc _).mono ?_
                          rintro e w7 ⟨rfl, m5, rfl⟩
                          go_wp2_with fail
                          go_ret
                          exact ⟨rfl, (unhide H6).bel.trans (below_drewN _ _ _)⟩
                        | false =>
                          have hC := (unhide H6).tin.2 rfl
                          have hzi := hide (fun m => zzIn_any (w6.drewN m) _ _ _ _ _ _ _ ((unhide H6).mg.p.drewN m) t hC.2 (by omega) true ((unhide H6).mg.fp t hC.2))
                          have hlC : C6.length = 0 := by rw [hC.1]; rfl
                          have HlC := hide hlC
                          clear hC hlC
                          have hl1 : ((C6.length : Int) != 0) = false := by rw [unhide HlC]; rfl
                          go_wp2_with fail
                          refine (unhide hzi _).mono ?_
                          rintro e w7 ⟨rfl, m3, rfl⟩
                          go_wp2_with fail
                          refine (unhide hhp _).mono ?_
                          rintro e w7 ⟨rfl, m4, rfl⟩
                          go_wp2_with fail
                          refine (unhide hhc _).mono ?_
                          rintro e w7 ⟨rfl, m5, rfl⟩
                          go_wp2_with fail
                          go_ret
                          exact ⟨rfl, (unhide H6).bel.trans (below_drewN _ _ _)⟩

end Go.Proofs.Qxb6604710a
