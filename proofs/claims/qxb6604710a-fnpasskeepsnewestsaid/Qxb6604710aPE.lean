import Derived.Test.Qxb6604710aPD
namespace Go.Proofs.Qxb6604710a
open Go.RowKit

set_option maxRecDepth 100000 in
set_option maxHeartbeats 60000000 in
theorem keepsNewest_walk (trim : TrimSaid) (w : World) (inf : Nat) (ao : Option Addr) (n cap : Nat) (Z : Nat → Nat → Int) (hr : IsRows pks w ao n cap Z) (hn : n ≤ 4096) (hi : inf ≤ 1024) :
    Calls Try.prog 8 #[.int .i64 inf, .slice ao n cap] w fun e w' => e = .returned (.bool true) ∧ Below w.heap.size w w' := by
  have hby := hide (bytes37 w inf ao n cap hn)
  have Hr := hide hr
  have d1 : ¬ (4096 : Int) < (n : Int) := by omega
  have d2 : decide ((inf : Int) < 0) = false := by simp
  have d3 : ¬ (1024 : Int) < (inf : Int) := by omega
  clear hr
  go_enter Try.func8, Try.ntmps8
  go_wp2_with fail
  refine (unhide hby).mono ?_
  rintro e w ⟨rfl, rfl⟩
  clear hby
  go_wp2_with fail
  go_loopw [5, 6, 7] (fun v5 v6 it wr => ∃ (j : Nat) (ps pl : List Int), it = .int .i64 j ∧ j ≤ n ∧ F1 w Z j wr v5 v6 ps pl) (fun _ _ it _ => n - (intOf it).toNat)
  case atStart =>
    refine ⟨0, [], [], rfl, Nat.zero_le _, Row.nil _ _ _ _, Row.nil _ _ _ _, ?_, Below.refl _ _, rfl, Nat.le_refl _, List.nodup_nil, fun i hi => by omega, fun i i' _ h => by omega⟩
    intro g e; cases e
  case round =>
    obtain ⟨j, ps, pl, rfl, hle, hf⟩ := hrel
    have Hf := hide hf
    clear hf
    by_cases hlt : j < n
    · have hlt' : (j : Int) < (n : Int) := by omega
      obtain ⟨b, off, rfl, c0, c1, c2, c3, w0, w1, w2, w3⟩ := (unhide Hr).p4 (unhide Hf).bel hlt
      generalize hz0 : Z j 0 = z0 at *
      generalize hz1 : Z j 1 = z1 at *
      generalize hz2 : Z j 2 = z2 at *
      generalize hz3 : Z j 3 = z3 at *
      have Hz0 := hide hz0
      have Hz3 := hide hz3
      clear hz0 hz1 hz2 hz3
      have hlj := (unhide Hf).lj
      have hu5 := hide (fun g (e : u5.ownBlock = some g) => ((unhide Hf).r5.lt g e).2)
      have hfi := hide (findInt_any (wr.alloc (.cells #[.int .i64 z0, .int .i64 z1, .int .u64 z2, .int .u64 z3] 55)) w.heap.size _ ps z0 ((unhide Hf).r5.alloc _) (by omega))
      go_upto_region 13 with fail
      generalize hW : wr.alloc _ = W
      rw [hW] at hfi
      have hfW : F1 w Z j W u5 u6 ps pl := by rw [← hW]; exact (unhide Hf).alloc _
      have cW0 : W.cell? ⟨wr.heap.size, 0, none⟩ = some (.int .i64 z0) := by rw [← hW]; unfold World.cell?; rw [heap_alloc_new]; rfl
      have cW3 : W.cell? ⟨wr.heap.size, 3, none⟩ = some (.int .u64 z3) := by rw [← hW]; unfold World.cell?; rw [heap_alloc_new]; rfl
      have hsW : W.heap.size = wr.heap.size + 1 := by rw [← hW]; simp
      have HfW := hide hfW
      have HsW := hide hsW
      clear hfW hW Hf c0 c1 c2 c3 hsW
      go_wp2_with fail
      go_at_call 31
      refine (unhide hfi).mono ?_
      rintro e w' ⟨hw', ⟨i, hi1, rfl, hi2⟩ | ⟨rfl, hnot⟩⟩
      · subst hw'
        clear hfi
        have hlen := (unhide HfW).len
        obtain ⟨g, cap', hu6, hg1, hg2, hc6, hfz⟩ := (unhide HfW).r6.at (i := i) (by omega)
        subst hu6
        have hci := hc6 i (by omega)
        have hfzi := hfz i
        have hil : (i : Int) < (pl.length : Int) := by omega
        clear hc6 hfz
        by_cases hv : z3 ≤ nth pl i
        · generalize hy : nth pl i = y at *
          go_wp2_with fail
          go_quiet (fail)
          go_wp2_with fail
          go_ret
          exact ⟨rfl, (unhide HfW).bel.trans ⟨rfl, rfl, rfl, Nat.le_refl _, fun _ _ => rfl⟩⟩
        · have hold := fun q => ((unhide HfW).drewN q).old (a := i) hi1 (by rw [unhide Hz0]; exact hi2) (by rw [unhide Hz3]; exact hv)
          rw [unhide Hz3] at hold
          have Hold := hide hold
          clear hold
          generalize hy : nth pl i = y at *
          go_wp2_with fail
          go_quiet (fail)
          go_wp2_with fail
          go_roundw
          case rel =>
            exact ⟨j + 1, ps, pl.set i z3, by go_num, by omega, unhide Hold nq⟩
          case measure => simp [intOf]; omega
      · subst hw'
        clear hfi
        have hcA : (w'.alloc (.cells #[.int .i64 z0] 3)).cell? ⟨w'.heap.size, 0, none⟩ = some (.int .i64 z0) := cell_alloc_new _ _ _
        go_wp2_with (at_builtin; refine wpList_append_row _ rfl _ _ 33 rfl 3 .i64 Try.underlying33 info3' w.heap.size _ ps rfl ((unhide HfW).r5.alloc _) _ _ z0 rfl hcA (by omega) (by simp; have := (unhide HfW).bel.size; omega) ?_)
        intro v5' w2 r5 g2 l5
        have hs2 := g2.size
        have hbs := (unhide HfW).bel.size
        have hsW := unhide HsW
        have hcB : (w2.alloc (.cells #[.int .u64 z3] 23)).cell? ⟨w2.heap.size, 0, none⟩ = some (.int .u64 z3) := cell_alloc_new _ _ _
        have c23 : w2.cell? ⟨wr.heap.size, 3, none⟩ = some (.int .u64 z3) := by
          rw [World.cell?_of_block (w := w'.alloc (.cells #[.int .i64 z0] 3)) (g2.block wr.heap.size (by simp; omega) (fun e => by have := unhide hu5 _ e.symm; omega))]
          rw [World.cell?_of_block (w := w') (Below.heap_alloc w' _ wr.heap.size (by omega))]
          exact cW3
        have Hmid := hide ((unhide HfW).mid _ g2)
        have Hb2 := hide (show w.heap.size ≤ w2.heap.size by simp at hs2; omega)
        have Hr5 := hide r5
        have Hg2 := hide g2
        have Hl5 := hide l5
        clear r5 g2 l5 hs2 hbs hsW hcA cW0 cW3
        go_wp2_with (at_builtin; refine wpList_append_row _ rfl _ _ 53 rfl 23 .u64 Try.underlying53 info23' w.heap.size _ pl rfl ((unhide Hmid).alloc _) _ _ z3 rfl hcB (by have := (unhide HfW).len; omega) (by simp; have := unhide Hb2; omega) ?_)
        intro v6' w3 r6 g3 l6
        have hnew := (unhide HfW).new (by rw [unhide Hz0]; exact hnot) _ _ (by rw [unhide Hz0]; exact unhide Hr5) (unhide Hg2) ((unhide Hl5).imp id (fun e => by rw [e]; simp)) (by rw [unhide Hz3]; exact r6) g3 (l6.imp id (fun e => by rw [e]; simp))
        have Hnew := hide hnew
        clear hnew r6 g3 l6 hcB c23
        go_wp2_with fail
        go_roundw
        case rel => exact ⟨j + 1, _, _, by go_num, by omega, unhide Hnew⟩
        case measure => simp [intOf]; omega
    · have hlt' : ¬ (j : Int) < (n : Int) := by omega
      have hjn : j = n := by omega
      have hinc := hide (fun i i' => (unhide Hf).inc i i')
      rw [hjn] at hinc
      have Hbel := hide (unhide Hf).bel
      have hmg := hide (newMergerP wr)
      clear Hf hjn
      go_wp2_with fail
      go_at_call 10
      refine (unhide hmg).mono ?_
      rintro e w4 ⟨rfl, hpi, hb4⟩
      have hBle : w.heap.size ≤ wr.heap.size := (unhide Hbel).size
      have Hb4 := hide ((unhide Hbel).trans (hb4.mono hBle))
      have hB4 := hb4.size
      generalize hB : wr.heap.size = B at *
      have Hpi := hide hpi
      clear hpi hb4 hmg Hbel hB
      go_wp2_with fail
      go_loopw [11] (fun it wr => ∃ i : Nat, it = .int .i64 i ∧ i ≤ inf ∧ PI wr B (B + 1) B (B + 2) i ∧ Below w.heap.size w wr ∧ B ≤ wr.heap.size) (fun it _ => inf - (intOf it).toNat)
      case atStart => exact ⟨0, rfl, Nat.zero_le _, unhide Hpi, unhide Hb4, hB4⟩
      case round =>
        obtain ⟨i, rfl, hile, hpi, hbel, hBs⟩ := hrel
        have HPi := hide hpi
        have Hbl := hide hbel
        clear hpi hbel Hpi Hb4
        by_cases hil : i < inf
        · have hil' : (i : Int) < (inf : Int) := by omega
          have hnt := hide (newTxnP wr (-1) ((i : Int) + 1))
          have htx : IsTx (wr.alloc (.cells (newTxP (-1) ((i : Int) + 1)).cells 76)) wr.heap.size (newTxP (-1) ((i : Int) + 1)) := heap_alloc_new wr _
          have had := hide (addInflight_any (wr.alloc (.cells (newTxP (-1) ((i : Int) + 1)).cells 76)) B (B + 1) B (B + 2) i wr.heap.size ((unhide HPi).alloc _) (by omega) htx)
          have hbb := hide ((unhide Hbl).alloc (unhide Hbl).size (.cells (newTxP (-1) ((i : Int) + 1)).cells 76))
          clear htx
          go_wp2_with fail
          go_at_call 11
          refine (unhide hnt).mono ?_
          rintro e w5 ⟨rfl, hw5⟩
          rw [← hw5] at had hbb
          have hsz5 : B ≤ w5.heap.size := by rw [hw5]; simp; omega
          clear hnt hw5
          go_wp2_with fail
          go_at_call 29
          refine (unhide had).mono ?_
          rintro e w6 ⟨rfl, hp6, hg6⟩
          have Hp6 := hide hp6
          have hsz6 := hg6.size
          have Hb6 := hide ((unhide hbb).grown hg6 (by omega) (fun k e => by cases e; exact hBle))
          clear hp6 hg6 had hbb
          go_wp2_with fail
          go_roundw
          case rel => exact ⟨i + 1, by go_num, by omega, unhide Hp6, unhide Hb6, by omega⟩
          case measure => simp [intOf]; omega
        · have hil' : ¬ (i : Int) < (inf : Int) := by omega
          have hin : i = inf := by omega
          have hpm := (unhide HPi).pm (fun _ => ⟨0, 0, 0, .map [], 0, []⟩)
          rw [hin] at hpm
          have Hpm := hide hpm
          have hi64 : (i : Int) = (inf : Int) := by omega
          clear hpm HPi hin
          go_wp2_with fail
          go_loopw [13] (fun it wr => ∃ (j : Nat) (S : List Int) (st : Int → Sit), it = .int .i64 j ∧ j ≤ n ∧ PM wr B (B + 1) B (B + 2) inf (2 * j) S st ∧ (∀ z ∈ S, Inv Z (inf + 64) j z (st z).L (st z).since) ∧ Below w.heap.size w wr ∧ B ≤ wr.heap.size) (fun it _ => n - (intOf it).toNat)
          case atStart => exact ⟨0, [], _, rfl, Nat.zero_le _, unhide Hpm, by simp, unhide Hbl, hBs⟩
          case round =>
            obtain ⟨j, S, st, rfl, hjle, hpm, hinv, hbel, hBw⟩ := hrel
            clear Hpm Hbl
            by_cases hjn : j < n
            · have hjn' : (j : Int) < (n : Int) := by omega
              obtain ⟨b, off, rfl, c0, c1, c2, c3, w0, w1, w2, w3⟩ := (unhide Hr).p4 hbel hjn
              have hlt3 := fun i hi => unhide hinc i j hi hjn
              have hv0 := wf_u64_nonneg w3
              have hstep := fun (k : Int × Int) L' s' (h : Inv Z (inf + 64) j (Z j 0) (oldL S st (Z j 0)) (oldS S st (Z j 0))) hs => h.step (k := k) (L' := L') (s' := s') hs (by omega) hv0 hlt3
              have hiold : Inv Z (inf + 64) j (Z j 0) (oldL S st (Z j 0)) (oldS S st (Z j 0)) := by
                unfold oldL oldS
                by_cases hz : Z j 0 ∈ S
                · simp only [hz, if_true]; exact hinv _ hz
                · simp only [hz, if_false]; exact Inv.empty _ _ _ _
              have hst2 := fun k L' s' hs => hstep k L' s' hiold hs
              generalize hz0 : Z j 0 = z0 at *
              generalize hz1 : Z j 1 = z1 at *
              generalize hz2 : Z j 2 = z2 at *
              generalize hz3 : Z j 3 = z3 at *
              have Hst := hide hst2
              have Hinv := hide hinv
              have Hpm := hide hpm
              have Hbl := hide hbel
              clear hz0 hz1 hz2 hz3 hstep hiold hst2 hlt3 hinv hpm hbel
              go_upto_region 30 with fail
              generalize hW : wr.alloc _ = W
              have hpW : PM W B (B + 1) B (B + 2) inf (2 * j) S st := by rw [← hW]; exact (unhide Hpm).alloc _
              have hbW : Below w.heap.size w W := by rw [← hW]; exact (unhide Hbl).alloc (unhide Hbl).size _
              have hcW : W.heap[wr.heap.size]? = some (.cells #[.int .i64 z0, .int .i64 z1, .int .u64 z2, .int .u64 z3] 55 (0, 0)) := by rw [← hW]; exact heap_alloc_new wr _
              have hsW : W.heap.size = wr.heap.size + 1 := by rw [← hW]; simp
              have hpas := hide (zzpass_any trim W B (B + 1) B (B + 2) inf (2 * j) S st z0 z1 z2 z3 hpW w0 w1 w2 w3 (by omega) hi (by omega))
              have x0 : W.cell? ⟨wr.heap.size, 0, none⟩ = some (.int .i64 z0) := by unfold World.cell?; rw [hcW]; rfl
              have x1 : W.cell? ⟨wr.heap.size, 1, none⟩ = some (.int .i64 z1) := by unfold World.cell?; rw [hcW]; rfl
              have x2 : W.cell? ⟨wr.heap.size, 2, none⟩ = some (.int .u64 z2) := by unfold World.cell?; rw [hcW]; rfl
              have x3 : W.cell? ⟨wr.heap.size, 3, none⟩ = some (.int .u64 z3) := by unfold World.cell?; rw [hcW]; rfl
              have HpW := hide hpW
              have HbW := hide hbW
              have HcW := hide hcW
              have HsW := hide hsW
              clear hW hpW hbW hcW hsW c0 c1 c2 c3 w0 w1 w2 w3
              go_wp2_with fail
              go_at_call 30
              refine (unhide hpas).mono ?_
              rintro e w5 ⟨rfl, S', x, hpost⟩
              have hzS' : z0 ∈ S' := by
                rcases hpost.set with ⟨hz, e⟩ | ⟨_, e⟩
                · rw [e]; exact hz
                · rw [e]; exact List.mem_cons_self ..
              obtain ⟨hi5, hmem, hsn⟩ := unhide Hst _ _ _ hpost.step
              have hnt : ¬ turns (B + 2) S st wr.heap.size := by
                intro e
                have := ((unhide Hpm).turns_lt e).1
                omega
              have hc5 : w5.heap[wr.heap.size]? = some (.cells #[.int .i64 z0, .int .i64 z1, .int .u64 z2, .int .u64 z3] 55 (0, 0)) := by
                rw [hpost.kept.block wr.heap.size (by have := unhide HsW; omega) hnt]
                exact unhide HcW
              have y0 : w5.cell? ⟨wr.heap.size, 0, none⟩ = some (.int .i64 z0) := by unfold World.cell?; rw [hc5]; rfl
              have y1 : w5.cell? ⟨wr.heap.size, 1, none⟩ = some (.int .i64 z1) := by unfold World.cell?; rw [hc5]; rfl
              have y2 : w5.cell? ⟨wr.heap.size, 2, none⟩ = some (.int .u64 z2) := by unfold World.cell?; rw [hc5]; rfl
              have y3 : w5.cell? ⟨wr.heap.size, 3, none⟩ = some (.int .u64 z3) := by unfold World.cell?; rw [hc5]; rfl
              have hlast := last_any hpost.pm hzS' (ts := z1) (tn := z2) (v := z3) (by rw [updS_same]; exact hmem)
              have h34 := fun q => len_any (hpost.pm.drewN q) hzS'
              have h35 := fun q => since_any (hpost.pm.drewN q) hzS'
              simp only [updS_same] at h34 h35
              have hb5 : Below w.heap.size w w5 := (unhide HbW).trans ((hpost.kept.below (B := w.heap.size) (by have := unhide HsW; omega) (fun k hk => by have := ((unhide HpW).turns_lt hk).2; omega)))
              have hbig : B ≤ w5.heap.size := by have := hpost.kept.size; have := unhide HsW; omega
              have hinv5 : ∀ z ∈ S', Inv Z (inf + 64) (j + 1) z (updS st z0 x z).L (updS st z0 x z).since := by
                intro z hz
                by_cases e : z = z0
                · subst e; rw [updS_same]; exact hi5
                · rw [updS_other e]
                  refine (unhide Hinv z ?_).later
                  rcases hpost.set with ⟨_, e2⟩ | ⟨_, e2⟩
                  · rw [e2] at hz; exact hz
                  · rw [e2] at hz
                    rcases List.mem_cons.1 hz with e3 | h3
                    · exact absurd e3 e
                    · exact h3
              have hpm5 := hpost.pm
              have hfew := hi5.few
              have hk2 : wrap64 (2 * ((inf : Int) + 64)) = 2 * ((inf : Int) + 64) := by unfold wrap64; omega
              have dl : ¬ 2 * ((inf : Int) + 64) < (x.L.length : Int) := by omega
              have dl' : decide (2 * ((inf : Int) + 64) < (x.L.length : Int)) = false := by simpa using dl
              have ds : ¬ z3 < x.since := by omega
              have Hlast := hide hlast
              have H34 := hide h34
              have H35 := hide h35
              have Hb5 := hide hb5
              have Hinv5 := hide hinv5
              have Hpm5 := hide hpm5
              clear hlast h34 h35 hb5 hinv5 hpm5 hi5 hmem hsn hnt hc5 hpost hpas x0 x1 x2 x3 hzS' HpW HbW HcW HsW Hst Hinv Hpm Hbl
              go_wp2_with fail
              go_at_call 36
              refine (unhide Hlast).mono ?_
              rintro e w6 ⟨rfl, hw6⟩
              subst hw6
              clear Hlast
              go_wp2_with fail
              go_quiet (first | (go_at_call 34; exact Calls.quiet_of_same (unhide H34 _)) | (go_at_call 35; exact Calls.quiet_of_same (unhide H35 _)))
              go_wp2_with fail
              go_roundw
              case rel => exact ⟨j + 1, S', _, by go_num, by omega, (unhide Hpm5).drewN nq, unhide Hinv5, (unhide Hb5).trans ⟨rfl, rfl, rfl, Nat.le_refl _, fun _ _ => rfl⟩, hbig⟩
              case measure => simp [intOf]; omega
            · have hjn' : ¬ (j : Int) < (n : Int) := by omega
              go_wp2_with fail
              go_ret
              exact ⟨rfl, hbel⟩

end Go.Proofs.Qxb6604710a
