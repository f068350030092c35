import Derived.Test.Qxb6604710aPJ
import Derived.Test.Qxb6604710aPH
import Derived.Test.Qxb6604710aPR
namespace Go.Proofs.Qxb6604710a
open Go.RowKit

theorem findInt_one (w : World) (base : Nat) (v : Value) (xs : List Int) (x : Int) (h : Row w base 3 .i64 v xs) (hl : xs.length ≤ 1000000) :
    Calls Try.prog 31 #[v, .int .i64 x] w fun e w' => w = w' ∧ ∃ r : Int, e = .returned (.int .i64 r) ∧ ((∃ i : Nat, i < xs.length ∧ r = i ∧ nth xs i = x) ∨ (r = -1 ∧ x ∉ xs)) := by
  refine (findInt_any w base v xs x h hl).mono ?_
  rintro e w' ⟨hw, ⟨i, h1, he, h2⟩ | ⟨he, h1⟩⟩
  · exact ⟨hw.symm, i, he, Or.inl ⟨i, h1, rfl, h2⟩⟩
  · exact ⟨hw.symm, -1, he, Or.inr ⟨rfl, h1⟩⟩

set_option maxRecDepth 100000 in
set_option maxHeartbeats 200000000 in
theorem matches_walk (trim : TrimSaid) (w : World) (inf : Nat) (ao : Option Addr) (n cap : Nat) (Z : Nat → Nat → Int) (hr : IsRows pks w ao n cap Z) (hn : n ≤ 4096) (hi : inf ≤ 1024) :
    Calls Try.prog 7 #[.bool true, .int .i64 inf, .slice ao n cap] w fun e w' => e = .returned (.bool true) ∧ Below w.heap.size w w' := by
  have hby := hide (bytes28 w true inf ao n cap hn)
  have Hr := hide hr
  have d1 : ¬ (4096 : Int) < (n : Int) := by omega
  have d2 : decide ((inf : Int) < 0) = false := by simp
  have d3 : ¬ (1024 : Int) < (inf : Int) := by omega
  clear hr
  go_enter Try.func7, Try.ntmps7
  go_wp2_with fail
  refine (unhide hby).mono ?_
  rintro e w ⟨rfl, rfl⟩
  clear hby
  have hmg := hide (newMergerP w)
  go_wp2_with fail
  go_at_call 10
  refine (unhide hmg).mono ?_
  rintro e w4 ⟨rfl, hpi, hb4⟩
  have Hpi := hide hpi
  have Hb4 := hide hb4
  clear hpi hb4 hmg
  go_wp2_with fail
  go_loopw [8] (fun it wr => ∃ i : Nat, it = .int .i64 i ∧ i ≤ inf ∧ PI wr w.heap.size (w.heap.size + 1) w.heap.size (w.heap.size + 2) i ∧ Below w.heap.size w wr) (fun it _ => inf - (intOf it).toNat)
  case atStart => exact ⟨0, rfl, Nat.zero_le _, unhide Hpi, unhide Hb4⟩
  case round =>
    obtain ⟨i, rfl, hile, hpi, hbel⟩ := hrel
    have HPi := hide hpi
    have Hbl := hide hbel
    clear hpi hbel Hpi Hb4
    by_cases hil : i < inf
    · as_aux_lemma =>
      have hil' : (i : Int) < (inf : Int) := by omega
      have hnt := hide (newTxnP wr (-1) ((i : Int) + 1))
      have htx : IsTx (wr.alloc (.cells (newTxP (-1) ((i : Int) + 1)).cells 76)) wr.heap.size (newTxP (-1) ((i : Int) + 1)) := heap_alloc_new wr _
      have had := hide (addInflight_any (wr.alloc (.cells (newTxP (-1) ((i : Int) + 1)).cells 76)) w.heap.size (w.heap.size + 1) w.heap.size (w.heap.size + 2) i wr.heap.size ((unhide HPi).alloc _) (by omega) htx)
      have hbb := hide ((unhide Hbl).alloc (unhide Hbl).size (.cells (newTxP (-1) ((i : Int) + 1)).cells 76))
      clear htx
      go_wp2_with fail
      go_at_call 11
      refine (unhide hnt).mono ?_
      rintro e w5 ⟨rfl, hw5⟩
      rw [← hw5] at had hbb
      clear hnt hw5
      go_wp2_with fail
      go_at_call 29
      refine (unhide had).mono ?_
      rintro e w6 ⟨rfl, hp6, hg6⟩
      have Hp6 := hide hp6
      have Hb6 := hide ((unhide hbb).grown hg6 (unhide hbb).size (fun k e => by cases e; exact Nat.le_refl _))
      clear hp6 hg6 had hbb
      go_wp2_with fail
      go_roundw
      case rel => exact ⟨i + 1, by go_num, by omega, unhide Hp6, unhide Hb6⟩
      case measure => simp [intOf]; omega
    · as_aux_lemma =>
      have hil' : ¬ (i : Int) < (inf : Int) := by omega
      have hin : i = inf := by omega
      have hpm := (unhide HPi).pm (fun _ => ⟨0, 0, 0, .map [], 0, []⟩)
      rw [hin] at hpm
      have Hpm := hide hpm
      clear hpm HPi hin
      have hi64 : (i : Int) = (inf : Int) := by omega
      go_wp2_with fail
      go_loopw [10, 11, 12, 13, 14, 15, 16] (fun v10 v11 v12 v13 v14 v15 it wr => ∃ (j : Nat) (S : List Int) (st : Int → Sit) (ps sn : List Int) (E : List En), it = .int .i64 j ∧ j ≤ n ∧ Bk w wr (w.heap.size + 1) w.heap.size (w.heap.size + 2) inf (2 * j) S st [] (rowsE v10 v11 v12 v13 v14 v15 ps sn E) ∧ Mod j S st ps sn E) (fun _ _ _ _ _ _ it _ => n - (intOf it).toNat)
      case atStart =>
        refine ⟨0, [], _, [], [], [], rfl, Nat.zero_le _, ⟨unhide Hpm, ?_, ?_, ?_, by simp, unhide Hbl⟩, ⟨List.nodup_nil, rfl, by simp, by simp, by simp, by simp, Nat.le_refl _, Nat.le_refl _⟩⟩
        · intro i r hr
          match i, hr with
          | 0, hr => cases hr; exact Row.nil _ _ _ _
          | 1, hr => cases hr; exact Row.nil _ _ _ _
          | 2, hr => cases hr; exact Row.nil _ _ _ _
          | 3, hr => cases hr; exact Row.nil _ _ _ _
          | 4, hr => cases hr; exact Row.nil _ _ _ _
          | 5, hr => cases hr; exact Row.nil _ _ _ _
          | i + 6, hr => simp [rowsE] at hr
        · intro i j a b _ ha _ g hg
          match i, ha with
          | 0, ha => cases ha; cases hg
          | 1, ha => cases ha; cases hg
          | 2, ha => cases ha; cases hg
          | 3, ha => cases ha; cases hg
          | 4, ha => cases ha; cases hg
          | 5, ha => cases ha; cases hg
          | i + 6, ha => simp [rowsE] at ha
        · intro i a ha g hg
          match i, ha with
          | 0, ha => cases ha; cases hg
          | 1, ha => cases ha; cases hg
          | 2, ha => cases ha; cases hg
          | 3, ha => cases ha; cases hg
          | 4, ha => cases ha; cases hg
          | 5, ha => cases ha; cases hg
          | i + 6, ha => simp [rowsE] at ha
      case round =>
        obtain ⟨j, S, st, ps, sn, E, rfl, hjle, hbk, hmod⟩ := hrel
        have Hbk := hide hbk
        have Hmod := hide hmod
        clear hbk hmod Hpm Hbl
        by_cases hjn : j < n
        · as_aux_lemma =>
          have hjn' : (j : Int) < (n : Int) := by omega
          obtain ⟨b, off, rfl, c0, c1, c2, c3, x0, x1, x2, x3⟩ := (unhide Hr).p4 (unhide Hbk).bel hjn
          generalize Z j 0 = z0 at *
          generalize Z j 1 = z1 at *
          generalize Z j 2 = z2 at *
          generalize Z j 3 = z3 at *
          go_upto_region 23 with fail
          generalize hW : wr.alloc _ = W
          have hbW : Bk w W (w.heap.size + 1) w.heap.size (w.heap.size + 2) inf (2 * j) S st [(wr.heap.size, .cells #[.int .i64 z0, .int .i64 z1, .int .u64 z2, .int .u64 z3] 55 (0, 0))] (rowsE u10 u11 u12 u13 u14 u15 ps sn E) := by
            rw [← hW]; exact (unhide Hbk).box _ _
          have HbW := hide hbW
          have hcW := hbW.fix (List.mem_cons_self ..)
          have y0 : W.cell? ⟨wr.heap.size, 0, none⟩ = some (.int .i64 z0) := by unfold World.cell?; rw [hcW]; rfl
          have y1 : W.cell? ⟨wr.heap.size, 1, none⟩ = some (.int .i64 z1) := by unfold World.cell?; rw [hcW]; rfl
          have y2 : W.cell? ⟨wr.heap.size, 2, none⟩ = some (.int .u64 z2) := by unfold World.cell?; rw [hcW]; rfl
          have y3 : W.cell? ⟨wr.heap.size, 3, none⟩ = some (.int .u64 z3) := by unfold World.cell?; rw [hcW]; rfl
          have hpas := hide (zzpass_any trim W w.heap.size (w.heap.size + 1) w.heap.size (w.heap.size + 2) inf (2 * j) S st z0 z1 z2 z3 hbW.pm x0 x1 x2 x3 (by omega) hi hbW.size)
          have Hnd := hide (old_nodup hbW.pm z0)
          generalize wr.heap.size = bx at *
          clear hW hbW hcW c0 c1 c2 c3 Hbk
          go_wp2_with fail
          go_at_call 30
          refine (unhide hpas).mono ?_
          rintro e w5 ⟨rfl, S', x, hpost⟩
          have hb5 := (unhide HbW).pass hpost
          have hcB := hb5.fix (List.mem_cons_self ..)
          have Hset := hide hpost.set
          have Hstep := hide hpost.step
          have Hb5 := hide hb5
          have Hbx0 : w5.cell? ⟨bx, 0, none⟩ = some (.int .i64 z0) := by unfold World.cell?; rw [hcB]; rfl
          have hfi := hide (findInt_one w5 w.heap.size u10 ps z0 (hb5.rows 0 _ rfl) (by have := (unhide Hmod).lp; omega))
          clear hpas hpost hb5 hcB y0 y1 y2 y3 HbW
          generalize hst' : updS st z0 x = st' at *
          have Hst' := hide hst'
          clear hst'
          go_wp2_with fail
          go_at_call 31
          refine (unhide hfi).mono ?_
          rintro e w' ⟨rfl, r, rfl, hr⟩
          go_upto_if 90 with fail
          go_cut [10, 11, 18] from 90 to 101 (fun v10 v11 s18 wc => ∃ (ps' sn' : List Int) (si : Nat), s18 = .int .i64 si ∧ Added ps sn z0 ps' sn' si ∧ Bk w wc (w.heap.size + 1) w.heap.size (w.heap.size + 2) inf (2 * j + 2) S' st' [(bx, .cells #[.int .i64 z0, .int .i64 z1, .int .u64 z2, .int .u64 z3] 55 (0, 0))] (rowsE v10 v11 u12 u13 u14 u15 ps' sn' E))
          case first =>
            as_aux_lemma =>
            rcases hr with ⟨i1, hi1, rfl, hi2⟩ | ⟨rfl, hnot⟩
            · as_aux_lemma =>
              have hd : ¬ (i1 : Int) < 0 := by omega
              go_wp2_with fail
              go_meet
              case rel => exact ⟨ps, sn, i1, rfl, ⟨hi1, hi2, Or.inl ⟨hi2 ▸ nth_mem hi1, rfl, rfl⟩⟩, unhide Hb5⟩
            · as_aux_lemma =>
              have hlp := (unhide Hmod).lp
              have hln := (unhide Hmod).len
              have hcA : (w5.alloc (.cells #[.int .i64 z0] 3)).cell? ⟨w5.heap.size, 0, none⟩ = some (.int .i64 z0) := cell_alloc_new _ _ _
              go_wp2_with (at_builtin; refine wpList_append_row _ rfl _ _ 33 rfl 3 .i64 Try.underlying33 info3' w.heap.size _ ps rfl (((unhide Hb5).rows 0 _ rfl).alloc _) _ _ z0 rfl hcA (by omega) (by simp; have := (unhide Hb5).size; omega) ?_)
              intro v10' w6 r6 g6 l6
              have hb6 : Bk w w6 (w.heap.size + 1) w.heap.size (w.heap.size + 2) inf (2 * j + 2) S' st' [(bx, .cells #[.int .i64 z0, .int .i64 z1, .int .u64 z2, .int .u64 z3] 55 (0, 0))] (rowsE v10' u11 u12 u13 u14 u15 (ps ++ [z0]) sn E) := (unhide Hb5).append (k := 0) rfl _ r6 g6 (l6.imp id (fun e => by rw [e]; simp))
              obtain ⟨ao10, cap10, hv10⟩ := hb6.form (k := 0) rfl
              have hv10' : v10' = .slice ao10 (ps.length + 1) cap10 := by simpa using hv10
              subst hv10'
              have Hb6 := hide hb6
              have hcB : (w6.alloc (.cells #[.int .u64 0] 23)).cell? ⟨w6.heap.size, 0, none⟩ = some (.int .u64 0) := cell_alloc_new _ _ _
              clear hb6 r6 g6 l6 hcA hv10
              go_wp2_with (at_builtin; refine wpList_append_row _ rfl _ _ 53 rfl 23 .u64 Try.underlying53 info23' w.heap.size _ sn rfl (((unhide Hb6).rows 1 _ rfl).alloc _) _ _ 0 rfl hcB (by omega) (by simp; have := (unhide Hb6).size; omega) ?_)
              intro v11' w7 r7 g7 l7
              have hb7 : Bk w w7 (w.heap.size + 1) w.heap.size (w.heap.size + 2) inf (2 * j + 2) S' st' [(bx, .cells #[.int .i64 z0, .int .i64 z1, .int .u64 z2, .int .u64 z3] 55 (0, 0))] (rowsE (.slice ao10 (ps.length + 1) cap10) v11' u12 u13 u14 u15 (ps ++ [z0]) (sn ++ [0]) E) := (unhide Hb6).append (k := 1) rfl _ r7 g7 (l7.imp id (fun e => by rw [e]; simp))
              have Hb7 := hide hb7
              clear hb7 r7 g7 l7 hcB
              go_wp2_with fail
              go_meet
              case rel =>
                refine ⟨ps ++ [z0], sn ++ [0], ps.length, by go_num, ⟨by simp, nth_append_at _ _, Or.inr ⟨hnot, rfl, rfl⟩⟩, unhide Hb7⟩
          case rest =>
            as_aux_lemma =>
            obtain ⟨ps', sn', si, rfl, hadd, hbc⟩ := hcut
            have Hadd := hide hadd
            have Hbc := hide hbc
            clear hadd hbc hr Hbx0 Hb5 hfi
            have hle4 : E.length ≤ 4096 := by have := (unhide Hmod).lE; omega
            go_wp2_with fail
            go_loopw [19, 20, 21] (fun f19 c20 it wr => ∃ (e cn : Nat) (fb : Bool), it = .int .i64 e ∧ e ≤ E.length ∧ f19 = .bool fb ∧ (E.take e).any (hit z0 (z1, z2)) = fb ∧ c20 = .int .i64 cn ∧ (ents (E.take e) z0).length = cn ∧ Bk w wr (w.heap.size + 1) w.heap.size (w.heap.size + 2) inf (2 * j + 2) S' st' [(bx, .cells #[.int .i64 z0, .int .i64 z1, .int .u64 z2, .int .u64 z3] 55 (0, 0))] (rowsE u10 u11 u12 u13 u14 u15 ps' sn' (part z0 (z1, z2) z3 E e))) (fun _ _ it _ => E.length - (intOf it).toNat)
            case atStart => exact ⟨0, 0, false, rfl, Nat.zero_le _, rfl, rfl, rfl, rfl, by rw [part_zero]; exact unhide Hbc⟩
            case round =>
              obtain ⟨e, cn, fb, rfl, hele, rfl, hfb0, rfl, hcn0, hbe⟩ := hrel
              clear Hbc
              obtain ⟨ao12, cap12, h12⟩ := hbe.form (k := 2) rfl
              have h12' : u12 = .slice ao12 E.length cap12 := by simpa [part_length] using h12
              subst h12'
              clear h12
              have hcl := ents_take_le (E := E) (z := z0) e
              rw [hcn0] at hcl
              have Hfb0 := hide hfb0
              have Hcn0 := hide hcn0
              have Hbe := hide hbe
              clear hbe hfb0 hcn0
              by_cases helt : e < E.length
              · as_aux_lemma =>
                have helt' : (e : Int) < (E.length : Int) := by omega
                have hany := take_any helt (hit z0 (z1, z2))
                have hent := congrArg List.length (take_ents (z := z0) helt)
                rw [List.length_append, unhide Hcn0] at hent
                rw [unhide Hfb0] at hany
                obtain ⟨g12, hg12, k12, _⟩ := (unhide Hbe).rd (k := 2) rfl (i := e) (by rw [List.length_map, part_length]; exact helt)
                rw [part_mapS, nth_map _ helt] at k12
                subst hg12
                have k12' : wr.cell? ⟨g12, e, none⟩ = some (.int .i64 E[e].1) := k12
                clear k12
                have hcX := (unhide Hbe).fix (List.mem_cons_self ..)
                have y0 : wr.cell? ⟨bx, 0, none⟩ = some (.int .i64 z0) := by unfold World.cell?; rw [hcX]; rfl
                have y1 : wr.cell? ⟨bx, 1, none⟩ = some (.int .i64 z1) := by unfold World.cell?; rw [hcX]; rfl
                have y2 : wr.cell? ⟨bx, 2, none⟩ = some (.int .u64 z2) := by unfold World.cell?; rw [hcX]; rfl
                have y3 : wr.cell? ⟨bx, 3, none⟩ = some (.int .u64 z3) := by unfold World.cell?; rw [hcX]; rfl
                clear hcX
                by_cases hs0 : E[e].1 = z0
                · rw [hs0] at k12'
                  rw [if_pos hs0] at hent
                  have hent2 : (ents (E.take (e + 1)) z0).length = cn + 1 := hent
                  obtain ⟨ao13, cap13, h13⟩ := (unhide Hbe).form (k := 3) rfl
                  have h13' : u13 = .slice ao13 E.length cap13 := by simpa [part_length] using h13
                  subst h13'
                  obtain ⟨ao14, cap14, h14⟩ := (unhide Hbe).form (k := 4) rfl
                  have h14' : u14 = .slice ao14 E.length cap14 := by simpa [part_length] using h14
                  subst h14'
                  obtain ⟨ao15, cap15, h15⟩ := (unhide Hbe).form (k := 5) rfl
                  have h15' : u15 = .slice ao15 E.length cap15 := by simpa [part_length] using h15
                  subst h15'
                  clear h13 h14 h15 hent
                  obtain ⟨g13, hg13, k13, _⟩ := (unhide Hbe).rd (k := 3) rfl (i := e) (by rw [List.length_map, part_length]; exact helt)
                  rw [part_mapT, nth_map _ helt] at k13
                  subst hg13
                  have k13' : wr.cell? ⟨g13, e, none⟩ = some (.int .i64 E[e].2.1.1) := k13
                  obtain ⟨g14, hg14, k14, _⟩ := (unhide Hbe).rd (k := 4) rfl (i := e) (by rw [List.length_map, part_length]; exact helt)
                  rw [part_mapN, nth_map _ helt] at k14
                  subst hg14
                  have k14' : wr.cell? ⟨g14, e, none⟩ = some (.int .u64 E[e].2.1.2) := k14
                  obtain ⟨g15, hg15, k15, f15⟩ := (unhide Hbe).rd (k := 5) rfl (i := e) (by rw [List.length_map, part_length]; exact helt)
                  subst hg15
                  clear k13 k14
                  have HC := hide hent2
                  clear hent2
                  by_cases ht0 : E[e].2.1.1 = z1
                  · rw [ht0] at k13'
                    by_cases hn0 : E[e].2.1.2 = z2
                    · rw [hn0] at k14'
                      have hh : hit z0 (z1, z2) E[e] = true := by simp [hit, hs0, Prod.ext_iff, ht0, hn0]
                      rw [hh, Bool.or_true] at hany
                      have HF := hide hany
                      have hset : ∀ q, Bk w ((wr.drewN q).setCell ⟨g15, e, none⟩ (.int .u64 z3)) (w.heap.size + 1) w.heap.size (w.heap.size + 2) inf (2 * j + 2) S' st' [(bx, .cells #[.int .i64 z0, .int .i64 z1, .int .u64 z2, .int .u64 z3] 55 (0, 0))] (rowsE u10 u11 (.slice (some ⟨g12, 0, none⟩) E.length cap12) (.slice (some ⟨g13, 0, none⟩) E.length cap13) (.slice (some ⟨g14, 0, none⟩) E.length cap14) (.slice (some ⟨g15, 0, none⟩) E.length cap15) ps' sn' (part z0 (z1, z2) z3 E (e + 1))) := by
                        intro q
                        have hb := (unhide Hbe).drewN q
                        have hk : (rowsE u10 u11 (.slice (some ⟨g12, 0, none⟩) E.length cap12) (.slice (some ⟨g13, 0, none⟩) E.length cap13) (.slice (some ⟨g14, 0, none⟩) E.length cap14) (.slice (some ⟨g15, 0, none⟩) E.length cap15) ps' sn' (part z0 (z1, z2) z3 E e))[5]? = some ⟨23, .u64, .slice (some ⟨g15, 0, none⟩) ((part z0 (z1, z2) z3 E e).map eV).length cap15, (part z0 (z1, z2) z3 E e).map eV⟩ := by
                          simp [rowsE, part_length]
                        have hb2 := hb.setc (k := 5) hk e z3
                        unfold rowsE at hb2 ⊢
                        rw [part_hit helt hh]
                        rw [part_mapS, part_mapT, part_mapN] at hb2 ⊢
                        simpa [part_length] using hb2
                      have Hsetc := hide hset
                      clear hany hh hset
                      generalize nth ((part z0 (z1, z2) z3 E e).map eV) e = v0 at *
                      clear hs0 ht0 hn0
                      go_wp2_with fail
                      go_quiet (fail)
                      go_wp2_with fail
                      go_quiet (fail)
                      go_wp2_with fail
                      go_roundw
                      case rel => exact ⟨e + 1, cn + 1, true, by go_num, by omega, rfl, unhide HF, by go_num, unhide HC, unhide Hsetc _⟩
                      case measure => simp [intOf]; omega
                    · have hh : hit z0 (z1, z2) E[e] = false := by simp [hit, Prod.ext_iff, hn0]
                      rw [hh, Bool.or_false] at hany
                      have HF := hide hany
                      have Hpart := hide (part_stay (v := z3) helt hh)
                      clear hany hh k15
                      generalize hne : E[e].2.1.2 = n0 at *
                      clear hs0 ht0 hne
                      go_wp2_with fail
                      go_quiet (fail)
                      go_wp2_with fail
                      go_quiet (fail)
                      go_wp2_with fail
                      go_roundw
                      case rel => exact ⟨e + 1, cn + 1, fb, by go_num, by omega, rfl, unhide HF, by go_num, unhide HC, by rw [unhide Hpart]; exact (unhide Hbe).drewN _⟩
                      case measure => simp [intOf]; omega
                  · have hh : hit z0 (z1, z2) E[e] = false := by simp [hit, Prod.ext_iff, ht0]
                    rw [hh, Bool.or_false] at hany
                    have HF := hide hany
                    have Hpart := hide (part_stay (v := z3) helt hh)
                    have hd0 : decide (E[e].2.1.1 = z1) = false := by simpa using ht0
                    clear hany hh k15
                    generalize hne : E[e].2.1.1 = t0 at *
                    clear hs0 hne
                    go_wp2_with fail
                    go_quiet (fail)
                    go_wp2_with fail
                    go_quiet (fail)
                    go_wp2_with fail
                    go_roundw
                    case rel => exact ⟨e + 1, cn + 1, fb, by go_num, by omega, rfl, unhide HF, by go_num, unhide HC, by rw [unhide Hpart]; exact (unhide Hbe).drewN _⟩
                    case measure => simp [intOf]; omega
                · have hh : hit z0 (z1, z2) E[e] = false := by simp [hit, hs0]
                  rw [hh, Bool.or_false] at hany
                  rw [if_neg hs0] at hent
                  have HF := hide hany
                  have hent2 : (ents (E.take (e + 1)) z0).length = cn := hent
                  have HC := hide hent2
                  have Hpart := hide (part_stay (v := z3) helt hh)
                  clear hany hent hh hent2
                  generalize hse : E[e].1 = s0 at *
                  clear hse
                  go_wp2_with fail
                  go_quiet (fail)
                  go_wp2_with fail
                  go_roundw
                  case rel => exact ⟨e + 1, cn, fb, by go_num, by omega, rfl, unhide HF, rfl, unhide HC, by rw [unhide Hpart]; exact (unhide Hbe).drewN nq⟩
                  case measure => simp [intOf]; omega
              · as_aux_lemma =>
                have helt' : ¬ (e : Int) < (E.length : Int) := by omega
                have hen : e = E.length := by omega
                have hbm : Bk w wr (w.heap.size + 1) w.heap.size (w.heap.size + 2) inf (2 * j + 2) S' st' [(bx, .cells #[.int .i64 z0, .int .i64 z1, .int .u64 z2, .int .u64 z3] 55 (0, 0))] (rowsE u10 u11 (.slice ao12 E.length cap12) u13 u14 u15 ps' sn' (E.map (upd z0 (z1, z2) z3))) := by
                  have := unhide Hbe
                  rw [hen, part_end] at this
                  exact this
                have et : E.take e = E := by rw [hen, List.take_length]
                have hfb : E.any (hit z0 (z1, z2)) = fb := by
                  have := unhide Hfb0
                  rw [et] at this
                  exact this
                have hcn : (ents E z0).length = cn := by
                  have := unhide Hcn0
                  rw [et] at this
                  exact this
                have Hbm := hide hbm
                have Hfb := hide hfb
                have Hcn := hide hcn
                clear hbm Hbe et hen hfb hcn Hfb0 Hcn0
                go_upto_if 139 with fail
                go_cut [12, 13, 14, 15, 20] from 139 to 161 (fun v12 v13 v14 v15 c20 wc => c20 = .int .i64 ((ents (noted z0 (z1, z2) z3 E) z0).length : Nat) ∧ Bk w wc (w.heap.size + 1) w.heap.size (w.heap.size + 2) inf (2 * j + 2) S' st' [(bx, .cells #[.int .i64 z0, .int .i64 z1, .int .u64 z2, .int .u64 z3] 55 (0, 0))] (rowsE u10 u11 v12 v13 v14 v15 ps' sn' (noted z0 (z1, z2) z3 E)))
                case first =>
                  as_aux_lemma =>
                  cases fb with
                  | true =>
                    as_aux_lemma =>
                    go_wp2_with fail
                    go_meet
                    case rel =>
                      refine ⟨?_, ?_⟩
                      · rw [count_noted, if_pos (unhide Hfb), unhide Hcn]; rfl
                      · unfold noted; rw [if_pos (unhide Hfb)]; exact unhide Hbm
                  | false =>
                    as_aux_lemma =>
                    have hb0 : Bk w wr (w.heap.size + 1) w.heap.size (w.heap.size + 2) inf (2 * j + 2) S' st' [(bx, .cells #[.int .i64 z0, .int .i64 z1, .int .u64 z2, .int .u64 z3] 55 (0, 0))] [⟨3, .i64, u10, ps'⟩, ⟨23, .u64, u11, sn'⟩, ⟨3, .i64, (.slice ao12 E.length cap12), E.map eS⟩, ⟨3, .i64, u13, E.map eT⟩, ⟨23, .u64, u14, E.map eN⟩, ⟨23, .u64, u15, E.map eV⟩] := by
                      have := unhide Hbm
                      rw [upd_none (unhide Hfb)] at this
                      exact this
                    have Hb0 := hide hb0
                    clear hb0 Hbm
                    have hc2 : (wr.alloc (.cells #[.int .i64 z0] 3)).cell? ⟨wr.heap.size, 0, none⟩ = some (.int .i64 z0) := cell_alloc_new _ _ _
                    have hcX := (unhide Hb0).fix (List.mem_cons_self ..)
                    have y0 : wr.cell? ⟨bx, 0, none⟩ = some (.int .i64 z0) := by unfold World.cell?; rw [hcX]; rfl
                    clear hcX
                    go_wp2_with (at_builtin; refine wpList_append_row _ rfl _ _ 33 rfl 3 .i64 Try.underlying33 info3' w.heap.size _ (E.map eS) rfl (((unhide Hb0).rows 2 _ rfl).alloc _) _ _ z0 rfl hc2 (by simp; omega) (by simp; have := (unhide Hb0).size; omega) ?_)
                    intro v12' w6 ra ga la
                    have hbn : Bk w w6 (w.heap.size + 1) w.heap.size (w.heap.size + 2) inf (2 * j + 2) S' st' [(bx, .cells #[.int .i64 z0, .int .i64 z1, .int .u64 z2, .int .u64 z3] 55 (0, 0))] [⟨3, .i64, u10, ps'⟩, ⟨23, .u64, u11, sn'⟩, ⟨3, .i64, v12', E.map eS ++ [z0]⟩, ⟨3, .i64, u13, E.map eT⟩, ⟨23, .u64, u14, E.map eN⟩, ⟨23, .u64, u15, E.map eV⟩] := (unhide Hb0).append (k := 2) rfl _ ra ga (la.imp id (fun e => by rw [e]; simp))
                    have Hb6 := hide hbn
                    clear hbn ra ga la hc2 y0

                    have hc3 : (w6.alloc (.cells #[.int .i64 z1] 3)).cell? ⟨w6.heap.size, 0, none⟩ = some (.int .i64 z1) := cell_alloc_new _ _ _
                    have hcX := (unhide Hb6).fix (List.mem_cons_self ..)
                    have y1 : w6.cell? ⟨bx, 1, none⟩ = some (.int .i64 z1) := by unfold World.cell?; rw [hcX]; rfl
                    clear hcX
                    go_wp2_with (at_builtin; refine wpList_append_row _ rfl _ _ 33 rfl 3 .i64 Try.underlying33 info3' w.heap.size _ (E.map eT) rfl (((unhide Hb6).rows 3 _ rfl).alloc _) _ _ z1 rfl hc3 (by simp; omega) (by simp; have := (unhide Hb6).size; omega) ?_)
                    intro v13' w7 ra ga la
                    have hbn : Bk w w7 (w.heap.size + 1) w.heap.size (w.heap.size + 2) inf (2 * j + 2) S' st' [(bx, .cells #[.int .i64 z0, .int .i64 z1, .int .u64 z2, .int .u64 z3] 55 (0, 0))] [⟨3, .i64, u10, ps'⟩, ⟨23, .u64, u11, sn'⟩, ⟨3, .i64, v12', E.map eS ++ [z0]⟩, ⟨3, .i64, v13', E.map eT ++ [z1]⟩, ⟨23, .u64, u14, E.map eN⟩, ⟨23, .u64, u15, E.map eV⟩] := (unhide Hb6).append (k := 3) rfl _ ra ga (la.imp id (fun e => by rw [e]; simp))
                    have Hb7 := hide hbn
                    clear hbn ra ga la hc3 y1

                    have hc4 : (w7.alloc (.cells #[.int .u64 z2] 23)).cell? ⟨w7.heap.size, 0, none⟩ = some (.int .u64 z2) := cell_alloc_new _ _ _
                    have hcX := (unhide Hb7).fix (List.mem_cons_self ..)
                    have y2 : w7.cell? ⟨bx, 2, none⟩ = some (.int .u64 z2) := by unfold World.cell?; rw [hcX]; rfl
                    clear hcX
                    go_wp2_with (at_builtin; refine wpList_append_row _ rfl _ _ 53 rfl 23 .u64 Try.underlying53 info23' w.heap.size _ (E.map eN) rfl (((unhide Hb7).rows 4 _ rfl).alloc _) _ _ z2 rfl hc4 (by simp; omega) (by simp; have := (unhide Hb7).size; omega) ?_)
                    intro v14' w8 ra ga la
                    have hbn : Bk w w8 (w.heap.size + 1) w.heap.size (w.heap.size + 2) inf (2 * j + 2) S' st' [(bx, .cells #[.int .i64 z0, .int .i64 z1, .int .u64 z2, .int .u64 z3] 55 (0, 0))] [⟨3, .i64, u10, ps'⟩, ⟨23, .u64, u11, sn'⟩, ⟨3, .i64, v12', E.map eS ++ [z0]⟩, ⟨3, .i64, v13', E.map eT ++ [z1]⟩, ⟨23, .u64, v14', E.map eN ++ [z2]⟩, ⟨23, .u64, u15, E.map eV⟩] := (unhide Hb7).append (k := 4) rfl _ ra ga (la.imp id (fun e => by rw [e]; simp))
                    have Hb8 := hide hbn
                    clear hbn ra ga la hc4 y2

                    have hc5 : (w8.alloc (.cells #[.int .u64 z3] 23)).cell? ⟨w8.heap.size, 0, none⟩ = some (.int .u64 z3) := cell_alloc_new _ _ _
                    have hcX := (unhide Hb8).fix (List.mem_cons_self ..)
                    have y3 : w8.cell? ⟨bx, 3, none⟩ = some (.int .u64 z3) := by unfold World.cell?; rw [hcX]; rfl
                    clear hcX
                    go_wp2_with (at_builtin; refine wpList_append_row _ rfl _ _ 53 rfl 23 .u64 Try.underlying53 info23' w.heap.size _ (E.map eV) rfl (((unhide Hb8).rows 5 _ rfl).alloc _) _ _ z3 rfl hc5 (by simp; omega) (by simp; have := (unhide Hb8).size; omega) ?_)
                    intro v15' w9 ra ga la
                    have hbn : Bk w w9 (w.heap.size + 1) w.heap.size (w.heap.size + 2) inf (2 * j + 2) S' st' [(bx, .cells #[.int .i64 z0, .int .i64 z1, .int .u64 z2, .int .u64 z3] 55 (0, 0))] [⟨3, .i64, u10, ps'⟩, ⟨23, .u64, u11, sn'⟩, ⟨3, .i64, v12', E.map eS ++ [z0]⟩, ⟨3, .i64, v13', E.map eT ++ [z1]⟩, ⟨23, .u64, v14', E.map eN ++ [z2]⟩, ⟨23, .u64, v15', E.map eV ++ [z3]⟩] := (unhide Hb8).append (k := 5) rfl _ ra ga (la.imp id (fun e => by rw [e]; simp))
                    have Hb9 := hide hbn
                    clear hbn ra ga la hc5 y3

                    go_wp2_with fail
                    go_meet
                    case rel =>
                      refine ⟨?_, ?_⟩
                      · rw [count_noted, if_neg (by rw [unhide Hfb]; simp), unhide Hcn]; go_num
                      · rw [rows_noted (unhide Hfb)]; exact unhide Hb9
                case rest =>
                  as_aux_lemma =>
                  obtain ⟨rfl, hbn⟩ := hcut
                  have Hbn := hide hbn
                  have hc4 : (ents (noted z0 (z1, z2) z3 E) z0).length ≤ 4097 := by
                    have h1 := (ents_take_le (E := (noted z0 (z1, z2) z3 E)) (z := z0) (noted z0 (z1, z2) z3 E).length)
                    rw [List.take_length] at h1
                    have h2 := noted_length z0 (z1, z2) z3 E
                    omega
                  clear hbn Hbm
                  have hE4 : (noted z0 (z1, z2) z3 E).length ≤ 4097 := by
                    have h2 := noted_length z0 (z1, z2) z3 E
                    omega
                  generalize hE1 : (noted z0 (z1, z2) z3 E) = E1 at *
                  have HE1 := hide hE1
                  clear hE1
                  have hk2 : wrap64 (2 * ((inf : Int) + 64)) = 2 * ((inf : Int) + 64) := by unfold wrap64; omega
                  by_cases hbig : 2 * (inf + 64) < (ents E1 z0).length
                  · as_aux_lemma =>
                    have hbg : 2 * ((inf : Int) + 64) < ((ents E1 z0).length : Int) := by omega
                    have hcut := (unhide Hmod).cuts (unhide Hnd) (unhide Hset) (unhide Hstep) (unhide Hadd) (by omega) (by rw [unhide HE1]; exact hbig)
                    rw [unhide HE1, unhide Hst'] at hcut
                    have Hcut := hide hcut
                    clear hcut
                    go_wp2_with fail
                    go_loopw [22, 23] (fun v22 it wr => ∃ e : Nat, it = .int .i64 e ∧ e ≤ E1.length ∧ Bk w wr (w.heap.size + 1) w.heap.size (w.heap.size + 2) inf (2 * j + 2) S' st' [(bx, .cells #[.int .i64 z0, .int .i64 z1, .int .u64 z2, .int .u64 z3] 55 (0, 0))] (rowsE u10 u11 u12 u13 u14 u15 ps' sn' E1 ++ [⟨23, .u64, v22, (ents (E1.take e) z0).map Prod.snd⟩])) (fun _ it _ => E1.length - (intOf it).toNat)
                    case atStart => exact ⟨0, rfl, Nat.zero_le _, (unhide Hbn).push 23 .u64⟩
                    case round =>
                      obtain ⟨e, rfl, hele, hbe⟩ := hrel
                      clear Hbn
                      obtain ⟨ao12, cap12, h12⟩ := hbe.form (k := 2) rfl
                      have h12' : u12 = .slice ao12 E1.length cap12 := by simpa using h12
                      subst h12'
                      clear h12
                      have Hbe := hide hbe
                      clear hbe
                      by_cases helt : e < E1.length
                      · as_aux_lemma =>
                        have helt' : (e : Int) < (E1.length : Int) := by omega
                        have hent := take_ents (z := z0) helt
                        obtain ⟨g12, hg12, k12, _⟩ := (unhide Hbe).rd (k := 2) rfl (i := e) (by rw [List.length_map]; exact helt)
                        rw [nth_map _ helt] at k12
                        subst hg12
                        have k12' : wr.cell? ⟨g12, e, none⟩ = some (.int .i64 E1[e].1) := k12
                        clear k12
                        have hcX := (unhide Hbe).fix (List.mem_cons_self ..)
                        have y0 : wr.cell? ⟨bx, 0, none⟩ = some (.int .i64 z0) := by unfold World.cell?; rw [hcX]; rfl
                        clear hcX
                        by_cases hs0 : E1[e].1 = z0
                        · as_aux_lemma =>
                          rw [hs0] at k12'
                          rw [if_pos hs0] at hent
                          obtain ⟨ao15, cap15, h15⟩ := (unhide Hbe).form (k := 5) rfl
                          have h15' : u15 = .slice ao15 E1.length cap15 := by simpa using h15
                          subst h15'
                          obtain ⟨g15, hg15, k15, _⟩ := (unhide Hbe).rd (k := 5) rfl (i := e) (by rw [List.length_map]; exact helt)
                          rw [nth_map _ helt] at k15
                          subst hg15
                          have k15' : wr.cell? ⟨g15, e, none⟩ = some (.int .u64 E1[e].2.2) := k15
                          have hvs : (ents (E1.take (e + 1)) z0).map Prod.snd = (ents (E1.take e) z0).map Prod.snd ++ [E1[e].2.2] := by rw [hent]; simp
                          have hvl : ((ents (E1.take e) z0).map Prod.snd).length ≤ 4097 := by
                            rw [List.length_map]
                            have := ents_take_le (E := E1) (z := z0) e
                            omega
                          have Hvs := hide hvs
                          clear k15 hent hvs h15 hs0
                          generalize E1[e].2.2 = v0 at *
                          go_wp2_with fail
                          go_quiet (fail)
                          have hcA : ((wr.drewN nq).alloc (.cells #[.int .u64 v0] 23)).cell? ⟨(wr.drewN nq).heap.size, 0, none⟩ = some (.int .u64 v0) := cell_alloc_new _ _ _
                          have Hbq := hide ((unhide Hbe).drewN nq)
                          go_wp2_with (at_builtin; refine wpList_append_row _ rfl _ _ 53 rfl 23 .u64 Try.underlying53 info23' w.heap.size _ ((ents (E1.take e) z0).map Prod.snd) rfl (((unhide Hbq).rows 6 _ rfl).alloc _) _ _ v0 rfl hcA (by omega) (by simp; have := (unhide Hbq).size; simp at this; omega) ?_)
                          intro v22' w6 ra ga la
                          have hbn : Bk w w6 (w.heap.size + 1) w.heap.size (w.heap.size + 2) inf (2 * j + 2) S' st' [(bx, .cells #[.int .i64 z0, .int .i64 z1, .int .u64 z2, .int .u64 z3] 55 (0, 0))] (rowsE u10 u11 (.slice (some ⟨g12, 0, none⟩) E1.length cap12) u13 u14 (.slice (some ⟨g15, 0, none⟩) E1.length cap15) ps' sn' E1 ++ [⟨23, .u64, v22', (ents (E1.take e) z0).map Prod.snd ++ [v0]⟩]) := (unhide Hbq).append (k := 6) rfl _ ra ga (la.imp id (fun e => by rw [e]; simp))
                          have Hbn2 := hide hbn
                          clear hbn ra ga la hcA y0 k15' k12' Hbq
                          go_wp2_with fail
                          go_roundw
                          case rel => exact ⟨e + 1, by go_num, by omega, by rw [unhide Hvs]; exact unhide Hbn2⟩
                          case measure => simp [intOf]; omega
                        · as_aux_lemma =>
                          rw [if_neg hs0, List.append_nil] at hent
                          have Hent := hide hent
                          clear hent
                          generalize hse : E1[e].1 = s0 at *
                          clear hse
                          go_wp2_with fail
                          go_quiet (fail)
                          go_wp2_with fail
                          go_roundw
                          case rel => exact ⟨e + 1, by go_num, by omega, by rw [unhide Hent]; exact (unhide Hbe).drewN nq⟩
                          case measure => simp [intOf]; omega
                      · as_aux_lemma =>
                        have helt' : ¬ (e : Int) < (E1.length : Int) := by omega
                        have hen : e = E1.length := by omega
                        have hbv : Bk w wr (w.heap.size + 1) w.heap.size (w.heap.size + 2) inf (2 * j + 2) S' st' [(bx, .cells #[.int .i64 z0, .int .i64 z1, .int .u64 z2, .int .u64 z3] 55 (0, 0))] (rowsE u10 u11 (.slice ao12 E1.length cap12) u13 u14 u15 ps' sn' E1 ++ [⟨23, .u64, u22, (ents E1 z0).map Prod.snd⟩]) := by
                          have := unhide Hbe
                          rw [hen, List.take_length] at this
                          exact this
                        have hkth := kth_any wr w.heap.size u22 ((ents E1 z0).map Prod.snd) (inf + 64) x.since (hbv.rows 6 _ rfl) (by rw [List.length_map]; omega) (unhide Hcut).1.1 (unhide Hcut).1.2.1 (unhide Hcut).1.2.2
                        have hcast : ((inf + 64 : Nat) : Int) = (inf : Int) + 64 := by omega
                        rw [hcast] at hkth
                        have Hkth := hide hkth
                        obtain ⟨ao11, cap11, h11⟩ := hbv.form (k := 1) rfl
                        have h11' : u11 = .slice ao11 sn'.length cap11 := by simpa using h11
                        subst h11'
                        have hsi : si < sn'.length := by
                          rw [(Added.length (unhide Hmod) (unhide Hadd)).1]
                          exact (unhide Hadd).1
                        have hsi' : (si : Int) < (sn'.length : Int) := by omega
                        obtain ⟨g11, hg11, k11, f11⟩ := hbv.rd (k := 1) rfl (i := si) hsi
                        subst hg11
                        generalize nth sn' si = v11 at *
                        have hbs : Bk w (wr.setCell ⟨g11, si, none⟩ (.int .u64 x.since)) (w.heap.size + 1) w.heap.size (w.heap.size + 2) inf (2 * j + 2) S' st' [(bx, .cells #[.int .i64 z0, .int .i64 z1, .int .u64 z2, .int .u64 z3] 55 (0, 0))] (rowsE u10 (.slice (some ⟨g11, 0, none⟩) sn'.length cap11) (.slice ao12 E1.length cap12) u13 u14 u15 ps' (sn'.set si x.since) E1) := hbv.pop.setc (k := 1) rfl si x.since
                        have Hbs := hide hbs
                        clear hbs hbv hkth Hbe hen h11
                        go_wp2_with fail
                        go_at_call 32
                        refine (unhide Hkth).mono ?_
                        rintro e' w' ⟨rfl, hw'⟩
                        subst hw'
                        clear Hkth hcast
                        go_upto_region 55 with fail
                        generalize w'.setCell ⟨g11, si, none⟩ (.int .u64 x.since) = W5 at *
                        clear k11 f11
                        go_wp2_with fail
                        go_loopw [25, 26] (fun n25 it wr => ∃ e nn : Nat, it = .int .i64 e ∧ e ≤ E1.length ∧ n25 = .int .i64 nn ∧ ((E1.take e).filter (keepP z0 x.since)).length = nn ∧ Bk w wr (w.heap.size + 1) w.heap.size (w.heap.size + 2) inf (2 * j + 2) S' st' [(bx, .cells #[.int .i64 z0, .int .i64 z1, .int .u64 z2, .int .u64 z3] 55 (0, 0))] (rowsE u10 (.slice (some ⟨g11, 0, none⟩) sn'.length cap11) (.slice ao12 E1.length cap12) u13 u14 u15 ps' (sn'.set si x.since) (packed (keepP z0 x.since) E1 e))) (fun _ it _ => E1.length - (intOf it).toNat)
                        case atStart => exact ⟨0, 0, rfl, Nat.zero_le _, rfl, rfl, by rw [packed_zero]; exact unhide Hbs⟩
                        case round =>
                          obtain ⟨e, nn, rfl, hele, rfl, hnn0, hbe⟩ := hrel
                          clear Hbs
                          have hnn1 := (packed_n e E1 (keepP z0 x.since)).1
                          rw [hnn0] at hnn1
                          have Hnn := hide hnn0
                          clear hnn0
                          obtain ⟨ao13, cap13, h13⟩ := hbe.form (k := 3) rfl
                          have h13' : u13 = .slice ao13 E1.length cap13 := by simpa [packed_length] using h13
                          subst h13'
                          obtain ⟨ao14, cap14, h14⟩ := hbe.form (k := 4) rfl
                          have h14' : u14 = .slice ao14 E1.length cap14 := by simpa [packed_length] using h14
                          subst h14'
                          obtain ⟨ao15, cap15, h15⟩ := hbe.form (k := 5) rfl
                          have h15' : u15 = .slice ao15 E1.length cap15 := by simpa [packed_length] using h15
                          subst h15'
                          clear h13 h14 h15
                          have hlen0 : 0 < E1.length := by
                            have h1 := ents_take_le (E := E1) (z := z0) E1.length
                            rw [List.take_length] at h1
                            omega
                          obtain ⟨g12, hg12, _, _⟩ := hbe.rd (k := 2) rfl (i := 0) (by rw [List.length_map, packed_length]; exact hlen0)
                          obtain ⟨g13, hg13, _, _⟩ := hbe.rd (k := 3) rfl (i := 0) (by rw [List.length_map, packed_length]; exact hlen0)
                          obtain ⟨g14, hg14, _, _⟩ := hbe.rd (k := 4) rfl (i := 0) (by rw [List.length_map, packed_length]; exact hlen0)
                          obtain ⟨g15, hg15, _, _⟩ := hbe.rd (k := 5) rfl (i := 0) (by rw [List.length_map, packed_length]; exact hlen0)
                          subst hg12 hg13 hg14 hg15
                          have Hbe := hide hbe
                          by_cases helt : e < E1.length
                          · as_aux_lemma =>
                            have helt' : (e : Int) < (E1.length : Int) := by omega
                            obtain ⟨k12, _⟩ := hbe.at' (k := 2) rfl (i := e) (by rw [List.length_map, packed_length]; exact helt)
                            rw [nth_get _ (packed_get helt)] at k12
                            have k12' : wr.cell? ⟨g12, e, none⟩ = some (.int .i64 E1[e].1) := k12
                            obtain ⟨k15, _⟩ := hbe.at' (k := 5) rfl (i := e) (by rw [List.length_map, packed_length]; exact helt)
                            rw [nth_get _ (packed_get helt)] at k15
                            have k15' : wr.cell? ⟨g15, e, none⟩ = some (.int .u64 E1[e].2.2) := k15
                            have hcX := (hbe).fix (List.mem_cons_self ..)
                            have y0 : wr.cell? ⟨bx, 0, none⟩ = some (.int .i64 z0) := by unfold World.cell?; rw [hcX]; rfl
                            clear hcX
                            clear k12 k15 hbe
                            go_upto_region 59 with fail
                            go_cut [213] from 199 to 213 (fun s213 wc => s213 = .bool (keepP z0 x.since E1[e]) ∧ ∃ q, wc = wr.drewN q)
                            case first =>
                              as_aux_lemma =>
                              by_cases hs0 : E1[e].1 = z0
                              · rw [hs0] at k12'
                                by_cases hv : x.since ≤ E1[e].2.2
                                · as_aux_lemma =>
                                  have hkp : keepP z0 x.since E1[e] = true := by simp [keepP, hv]
                                  have Hkp := hide hkp
                                  clear hkp hs0
                                  generalize E1[e].2.2 = v0 at *
                                  go_quiet (fail)
                                  go_wp2_with fail
                                  go_meet
                                  case rel => exact ⟨by rw [unhide Hkp], _, rfl⟩
                                · as_aux_lemma =>
                                  have hkp : keepP z0 x.since E1[e] = false := by simp [keepP, hv, hs0]
                                  have Hkp := hide hkp
                                  clear hkp hs0
                                  generalize E1[e].2.2 = v0 at *
                                  go_quiet (fail)
                                  go_wp2_with fail
                                  go_meet
                                  case rel => exact ⟨by rw [unhide Hkp], _, rfl⟩
                              · as_aux_lemma =>
                                have hkp : keepP z0 x.since E1[e] = true := by simp [keepP, hs0]
                                have hd0 : decide (E1[e].1 = z0) = false := by simpa using hs0
                                have Hkp := hide hkp
                                clear hkp
                                generalize E1[e].1 = s0 at *
                                go_quiet (fail)
                                go_wp2_with fail
                                go_meet
                                case rel => exact ⟨by rw [unhide Hkp], _, rfl⟩
                            case rest =>
                              as_aux_lemma =>
                              obtain ⟨rfl, q, rfl⟩ := hcut
                              clear k12' k15' y0
                              have Hbq := hide ((unhide Hbe).drewN q)
                              cases hkp : keepP z0 x.since E1[e] with
                              | false =>
                                as_aux_lemma =>
                                obtain ⟨p1, p2⟩ := packed_skip helt hkp
                                rw [unhide Hnn] at p2
                                have P1 := hide p1
                                have P2 := hide p2
                                clear p1 p2 hkp
                                go_wp2_with fail
                                go_roundw
                                case rel => exact ⟨e + 1, nn, by go_num, by omega, rfl, unhide P2, by rw [unhide P1]; exact unhide Hbq⟩
                                case measure => simp [intOf]; omega
                              | true =>
                                as_aux_lemma =>
                                have hb0 : Bk w (wr.drewN q) (w.heap.size + 1) w.heap.size (w.heap.size + 2) inf (2 * j + 2) S' st' [(bx, .cells #[.int .i64 z0, .int .i64 z1, .int .u64 z2, .int .u64 z3] 55 (0, 0))] [⟨3, .i64, u10, ps'⟩, ⟨23, .u64, (.slice (some ⟨g11, 0, none⟩) sn'.length cap11), (sn'.set si x.since)⟩, ⟨3, .i64, .slice (some ⟨g12, 0, none⟩) E1.length cap12, (packed (keepP z0 x.since) E1 e).map eS⟩, ⟨3, .i64, .slice (some ⟨g13, 0, none⟩) E1.length cap13, (packed (keepP z0 x.since) E1 e).map eT⟩, ⟨23, .u64, .slice (some ⟨g14, 0, none⟩) E1.length cap14, (packed (keepP z0 x.since) E1 e).map eN⟩, ⟨23, .u64, .slice (some ⟨g15, 0, none⟩) E1.length cap15, (packed (keepP z0 x.since) E1 e).map eV⟩] := unhide Hbq
                                have Hb0 := hide hb0
                                clear hb0 Hbq
                                have hrows := packed_rows (v10 := u10) (v11 := (.slice (some ⟨g11, 0, none⟩) sn'.length cap11)) (v12 := .slice (some ⟨g12, 0, none⟩) E1.length cap12) (v13 := .slice (some ⟨g13, 0, none⟩) E1.length cap13) (v14 := .slice (some ⟨g14, 0, none⟩) E1.length cap14) (v15 := .slice (some ⟨g15, 0, none⟩) E1.length cap15) (ps := ps') (sn := (sn'.set si x.since)) helt hkp
                                have p2 := (packed_keep helt hkp).2
                                rw [unhide Hnn] at p2 hrows
                                have P2 := hide p2
                                have Hrows := hide hrows
                                clear hrows hkp p2
                                generalize hW0 : wr.drewN q = W0 at *
                                clear hW0
                                obtain ⟨ce12, _⟩ := (unhide Hb0).at' (k := 2) rfl (i := e) (by rw [List.length_map, packed_length]; exact helt)
                                rw [nth_get _ (packed_get helt)] at ce12
                                have ce12' : W0.cell? ⟨g12, e, none⟩ = some (.int .i64 E1[e].1) := ce12
                                obtain ⟨cn12, fn12⟩ := (unhide Hb0).at' (k := 2) rfl (i := nn) (by rw [List.length_map, packed_length]; omega)
                                have hs12 : Bk w (W0.setCell ⟨g12, nn, none⟩ (.int .i64 E1[e].1)) (w.heap.size + 1) w.heap.size (w.heap.size + 2) inf (2 * j + 2) S' st' [(bx, .cells #[.int .i64 z0, .int .i64 z1, .int .u64 z2, .int .u64 z3] 55 (0, 0))] [⟨3, .i64, u10, ps'⟩, ⟨23, .u64, (.slice (some ⟨g11, 0, none⟩) sn'.length cap11), (sn'.set si x.since)⟩, ⟨3, .i64, .slice (some ⟨g12, 0, none⟩) E1.length cap12, ((packed (keepP z0 x.since) E1 e).map eS).set nn E1[e].1⟩, ⟨3, .i64, .slice (some ⟨g13, 0, none⟩) E1.length cap13, (packed (keepP z0 x.since) E1 e).map eT⟩, ⟨23, .u64, .slice (some ⟨g14, 0, none⟩) E1.length cap14, (packed (keepP z0 x.since) E1 e).map eN⟩, ⟨23, .u64, .slice (some ⟨g15, 0, none⟩) E1.length cap15, (packed (keepP z0 x.since) E1 e).map eV⟩] := (unhide Hb0).setc' (k := 2) rfl (by rw [List.length_map, packed_length]) nn E1[e].1
                                have Hs12 := hide hs12
                                clear ce12 hs12
                                generalize nth ((packed (keepP z0 x.since) E1 e).map eS) nn = yn at *
                                generalize hvv : E1[e].1 = vv at *
                                go_upto_region 61 with fail
                                generalize hW : World.setCell W0 ⟨g12, nn, none⟩ (.int .i64 vv) = W1 at *
                                subst hvv
                                have Hb1 := hide (unhide Hs12)
                                clear Hs12 ce12' cn12 fn12 hW Hb0

                                obtain ⟨ce13, _⟩ := (unhide Hb1).at' (k := 3) rfl (i := e) (by rw [List.length_map, packed_length]; exact helt)
                                rw [nth_get _ (packed_get helt)] at ce13
                                have ce13' : W1.cell? ⟨g13, e, none⟩ = some (.int .i64 E1[e].2.1.1) := ce13
                                obtain ⟨cn13, fn13⟩ := (unhide Hb1).at' (k := 3) rfl (i := nn) (by rw [List.length_map, packed_length]; omega)
                                have hs13 : Bk w (W1.setCell ⟨g13, nn, none⟩ (.int .i64 E1[e].2.1.1)) (w.heap.size + 1) w.heap.size (w.heap.size + 2) inf (2 * j + 2) S' st' [(bx, .cells #[.int .i64 z0, .int .i64 z1, .int .u64 z2, .int .u64 z3] 55 (0, 0))] [⟨3, .i64, u10, ps'⟩, ⟨23, .u64, (.slice (some ⟨g11, 0, none⟩) sn'.length cap11), (sn'.set si x.since)⟩, ⟨3, .i64, .slice (some ⟨g12, 0, none⟩) E1.length cap12, ((packed (keepP z0 x.since) E1 e).map eS).set nn E1[e].1⟩, ⟨3, .i64, .slice (some ⟨g13, 0, none⟩) E1.length cap13, ((packed (keepP z0 x.since) E1 e).map eT).set nn E1[e].2.1.1⟩, ⟨23, .u64, .slice (some ⟨g14, 0, none⟩) E1.length cap14, (packed (keepP z0 x.since) E1 e).map eN⟩, ⟨23, .u64, .slice (some ⟨g15, 0, none⟩) E1.length cap15, (packed (keepP z0 x.since) E1 e).map eV⟩] := (unhide Hb1).setc' (k := 3) rfl (by rw [List.length_map, packed_length]) nn E1[e].2.1.1
                                have Hs13 := hide hs13
                                clear ce13 hs13
                                generalize nth ((packed (keepP z0 x.since) E1 e).map eT) nn = yn at *
                                generalize hvv : E1[e].2.1.1 = vv at *
                                go_upto_region 62 with fail
                                generalize hW : World.setCell W1 ⟨g13, nn, none⟩ (.int .i64 vv) = W2 at *
                                subst hvv
                                have Hb2 := hide (unhide Hs13)
                                clear Hs13 ce13' cn13 fn13 hW Hb1

                                obtain ⟨ce14, _⟩ := (unhide Hb2).at' (k := 4) rfl (i := e) (by rw [List.length_map, packed_length]; exact helt)
                                rw [nth_get _ (packed_get helt)] at ce14
                                have ce14' : W2.cell? ⟨g14, e, none⟩ = some (.int .u64 E1[e].2.1.2) := ce14
                                obtain ⟨cn14, fn14⟩ := (unhide Hb2).at' (k := 4) rfl (i := nn) (by rw [List.length_map, packed_length]; omega)
                                have hs14 : Bk w (W2.setCell ⟨g14, nn, none⟩ (.int .u64 E1[e].2.1.2)) (w.heap.size + 1) w.heap.size (w.heap.size + 2) inf (2 * j + 2) S' st' [(bx, .cells #[.int .i64 z0, .int .i64 z1, .int .u64 z2, .int .u64 z3] 55 (0, 0))] [⟨3, .i64, u10, ps'⟩, ⟨23, .u64, (.slice (some ⟨g11, 0, none⟩) sn'.length cap11), (sn'.set si x.since)⟩, ⟨3, .i64, .slice (some ⟨g12, 0, none⟩) E1.length cap12, ((packed (keepP z0 x.since) E1 e).map eS).set nn E1[e].1⟩, ⟨3, .i64, .slice (some ⟨g13, 0, none⟩) E1.length cap13, ((packed (keepP z0 x.since) E1 e).map eT).set nn E1[e].2.1.1⟩, ⟨23, .u64, .slice (some ⟨g14, 0, none⟩) E1.length cap14, ((packed (keepP z0 x.since) E1 e).map eN).set nn E1[e].2.1.2⟩, ⟨23, .u64, .slice (some ⟨g15, 0, none⟩) E1.length cap15, (packed (keepP z0 x.since) E1 e).map eV⟩] := (unhide Hb2).setc' (k := 4) rfl (by rw [List.length_map, packed_length]) nn E1[e].2.1.2
                                have Hs14 := hide hs14
                                clear ce14 hs14
                                generalize nth ((packed (keepP z0 x.since) E1 e).map eN) nn = yn at *
                                generalize hvv : E1[e].2.1.2 = vv at *
                                go_upto_region 63 with fail
                                generalize hW : World.setCell W2 ⟨g14, nn, none⟩ (.int .u64 vv) = W3 at *
                                subst hvv
                                have Hb3 := hide (unhide Hs14)
                                clear Hs14 ce14' cn14 fn14 hW Hb2

                                obtain ⟨ce15, _⟩ := (unhide Hb3).at' (k := 5) rfl (i := e) (by rw [List.length_map, packed_length]; exact helt)
                                rw [nth_get _ (packed_get helt)] at ce15
                                have ce15' : W3.cell? ⟨g15, e, none⟩ = some (.int .u64 E1[e].2.2) := ce15
                                obtain ⟨cn15, fn15⟩ := (unhide Hb3).at' (k := 5) rfl (i := nn) (by rw [List.length_map, packed_length]; omega)
                                have hs15 : Bk w (W3.setCell ⟨g15, nn, none⟩ (.int .u64 E1[e].2.2)) (w.heap.size + 1) w.heap.size (w.heap.size + 2) inf (2 * j + 2) S' st' [(bx, .cells #[.int .i64 z0, .int .i64 z1, .int .u64 z2, .int .u64 z3] 55 (0, 0))] [⟨3, .i64, u10, ps'⟩, ⟨23, .u64, (.slice (some ⟨g11, 0, none⟩) sn'.length cap11), (sn'.set si x.since)⟩, ⟨3, .i64, .slice (some ⟨g12, 0, none⟩) E1.length cap12, ((packed (keepP z0 x.since) E1 e).map eS).set nn E1[e].1⟩, ⟨3, .i64, .slice (some ⟨g13, 0, none⟩) E1.length cap13, ((packed (keepP z0 x.since) E1 e).map eT).set nn E1[e].2.1.1⟩, ⟨23, .u64, .slice (some ⟨g14, 0, none⟩) E1.length cap14, ((packed (keepP z0 x.since) E1 e).map eN).set nn E1[e].2.1.2⟩, ⟨23, .u64, .slice (some ⟨g15, 0, none⟩) E1.length cap15, ((packed (keepP z0 x.since) E1 e).map eV).set nn E1[e].2.2⟩] := (unhide Hb3).setc' (k := 5) rfl (by rw [List.length_map, packed_length]) nn E1[e].2.2
                                have Hs15 := hide hs15
                                clear ce15 hs15
                                generalize nth ((packed (keepP z0 x.since) E1 e).map eV) nn = yn at *
                                generalize hvv : E1[e].2.2 = vv at *
                                go_upto_region 64 with fail
                                generalize hW : World.setCell W3 ⟨g15, nn, none⟩ (.int .u64 vv) = W4 at *
                                subst hvv
                                have Hb4 := hide (unhide Hs15)
                                clear Hs15 ce15' cn15 fn15 hW Hb3

                                have hbf := unhide Hb4
                                rw [unhide Hrows] at hbf
                                have Hbf := hide hbf
                                clear hbf Hb4 Hrows
                                go_wp2_with fail
                                go_roundw
                                case rel => exact ⟨e + 1, nn + 1, by go_num, by omega, by go_num, unhide P2, unhide Hbf⟩
                                case measure => simp [intOf]; omega
                          · as_aux_lemma =>
                            have helt' : ¬ (e : Int) < (E1.length : Int) := by omega
                            have hcap12 := (hbe.cap (k := 2) rfl).1
                            have hcap13 := (hbe.cap (k := 3) rfl).1
                            have hcap14 := (hbe.cap (k := 4) rfl).1
                            have hcap15 := (hbe.cap (k := 5) rfl).1
                            rw [List.length_map, packed_length] at hcap12 hcap13 hcap14 hcap15
                            have hfin : Bk w wr (w.heap.size + 1) w.heap.size (w.heap.size + 2) inf (2 * j + 2) S' st' [(bx, .cells #[.int .i64 z0, .int .i64 z1, .int .u64 z2, .int .u64 z3] 55 (0, 0))] (rowsE u10 (.slice (some ⟨g11, 0, none⟩) sn'.length cap11) (.slice (some ⟨g12, 0, none⟩) nn cap12) (.slice (some ⟨g13, 0, none⟩) nn cap13) (.slice (some ⟨g14, 0, none⟩) nn cap14) (.slice (some ⟨g15, 0, none⟩) nn cap15) ps' (sn'.set si x.since) (cutE z0 x.since E1)) := by
                              have hen : e = E1.length := by omega
                              have b2 := hbe.take (k := 2) rfl nn (by rw [List.length_map, packed_length]; omega)
                              have b3 := b2.take (k := 3) rfl nn (by rw [List.length_map, packed_length]; omega)
                              have b4 := b3.take (k := 4) rfl nn (by rw [List.length_map, packed_length]; omega)
                              have b5 := b4.take (k := 5) rfl nn (by rw [List.length_map, packed_length]; omega)
                              unfold rowsE
                              rw [← packed_cut hen eS, ← packed_cut hen eT, ← packed_cut hen eN, ← packed_cut hen eV, unhide Hnn]
                              exact b5
                            have Hfin := hide hfin
                            clear hbe hfin
                            have hn12 : (nn : Int) ≤ (cap12 : Int) := by omega
                            have hn13 : (nn : Int) ≤ (cap13 : Int) := by omega
                            have hn14 : (nn : Int) ≤ (cap14 : Int) := by omega
                            have hn15 : (nn : Int) ≤ (cap15 : Int) := by omega
                            go_wp2_with fail
                            go_roundw
                            case rel => exact ⟨j + 1, S', st', ps', (sn'.set si x.since), cutE z0 x.since E1, by go_num, by omega, (unhide Hfin).unfix, (unhide Hcut).2⟩
                            case measure => simp [intOf]; omega
                  · as_aux_lemma =>
                    have hbg : ¬ 2 * ((inf : Int) + 64) < ((ents E1 z0).length : Int) := by omega
                    have hmod2 := (unhide Hmod).stays (unhide Hnd) (unhide Hset) (unhide Hstep) (unhide Hadd) (by rw [unhide HE1]; omega)
                    rw [unhide HE1, unhide Hst'] at hmod2
                    have Hmod2 := hide hmod2
                    clear hmod2
                    go_wp2_with fail
                    go_roundw
                    case rel => exact ⟨j + 1, S', st', ps', sn', E1, by go_num, by omega, (unhide Hbn).unfix, unhide Hmod2⟩
                    case measure => simp [intOf]; omega
        · as_aux_lemma =>
          have hjn' : ¬ (j : Int) < (n : Int) := by omega
          have hlp := (unhide Hmod).lp
          have hlE := (unhide Hmod).lE
          have hln := (unhide Hmod).len
          obtain ⟨ao10, cap10, h10⟩ := (unhide Hbk).form (k := 0) rfl
          have h10' : u10 = .slice ao10 ps.length cap10 := h10
          obtain ⟨ao11, cap11, h11⟩ := (unhide Hbk).form (k := 1) rfl
          have h11' : u11 = .slice ao11 sn.length cap11 := h11
          obtain ⟨ao12, cap12, h12⟩ := (unhide Hbk).form (k := 2) rfl
          have h12' : u12 = .slice ao12 E.length cap12 := by simpa using h12
          obtain ⟨ao13, cap13, h13⟩ := (unhide Hbk).form (k := 3) rfl
          have h13' : u13 = .slice ao13 E.length cap13 := by simpa using h13
          obtain ⟨ao14, cap14, h14⟩ := (unhide Hbk).form (k := 4) rfl
          have h14' : u14 = .slice ao14 E.length cap14 := by simpa using h14
          obtain ⟨ao15, cap15, h15⟩ := (unhide Hbk).form (k := 5) rfl
          have h15' : u15 = .slice ao15 E.length cap15 := by simpa using h15
          subst h10' h11' h12' h13' h14' h15'
          clear h10 h11 h12 h13 h14 h15
          go_wp2_with fail
          go_loopw [28] (fun it wr2 => ∃ a : Nat, it = .int .i64 a ∧ a ≤ ps.length ∧ Bk w wr2 (w.heap.size + 1) w.heap.size (w.heap.size + 2) inf (2 * j) S st [] (rowsE (.slice ao10 ps.length cap10) (.slice ao11 sn.length cap11) (.slice ao12 E.length cap12) (.slice ao13 E.length cap13) (.slice ao14 E.length cap14) (.slice ao15 E.length cap15) ps sn E)) (fun it _ => ps.length - (intOf it).toNat)
          case atStart => exact ⟨0, rfl, Nat.zero_le _, unhide Hbk⟩
          case round =>
            obtain ⟨a, rfl, hale, hba⟩ := hrel
            have Hba := hide hba
            clear hba Hbk
            by_cases halt : a < ps.length
            · as_aux_lemma =>
              have halt' : (a : Int) < (ps.length : Int) := by omega
              have hzS := ((unhide Hmod).mem (nth ps a)).1 (nth_mem halt)
              have hzl := ((unhide Hmod).ent _ hzS).length_eq
              have hzs := (unhide Hmod).since a halt
              generalize hz : nth ps a = z at *
              have Hz := hide hz
              clear hz
              go_wp2_with fail
              go_loopw [29, 30] (fun c29 it wr3 => ∃ e cn : Nat, it = .int .i64 e ∧ e ≤ E.length ∧ c29 = .int .i64 cn ∧ (ents (E.take e) z).length = cn ∧ Bk w wr3 (w.heap.size + 1) w.heap.size (w.heap.size + 2) inf (2 * j) S st [] (rowsE (.slice ao10 ps.length cap10) (.slice ao11 sn.length cap11) (.slice ao12 E.length cap12) (.slice ao13 E.length cap13) (.slice ao14 E.length cap14) (.slice ao15 E.length cap15) ps sn E)) (fun _ it _ => E.length - (intOf it).toNat)
              case atStart => exact ⟨0, 0, rfl, Nat.zero_le _, rfl, rfl, unhide Hba⟩
              case round =>
                obtain ⟨e, cn, rfl, hele, rfl, hcn0, hbe⟩ := hrel
                clear Hba
                obtain ⟨g10, hg10, k10, _⟩ := hbe.rd (k := 0) rfl (i := a) halt
                rw [unhide Hz] at k10
                subst hg10
                have hcl := ents_take_le (E := E) (z := z) e
                rw [hcn0] at hcl
                have Hcn0 := hide hcn0
                clear hcn0
                have Hbe := hide hbe
                by_cases helt : e < E.length
                · as_aux_lemma =>
                  have helt' : (e : Int) < (E.length : Int) := by omega
                  have hent := congrArg List.length (take_ents (z := z) helt)
                  rw [List.length_append, unhide Hcn0] at hent
                  obtain ⟨g12, hg12, k12, _⟩ := hbe.rd (k := 2) rfl (i := e) (by rw [List.length_map]; exact helt)
                  rw [nth_map _ helt] at k12
                  subst hg12
                  have k12' : wr.cell? ⟨g12, e, none⟩ = some (.int .i64 E[e].1) := k12
                  clear k12 hbe
                  by_cases hs0 : E[e].1 = z
                  · rw [hs0] at k12'
                    rw [if_pos hs0] at hent
                    have hent2 : (ents (E.take (e + 1)) z).length = cn + 1 := hent
                    have HC := hide hent2
                    clear hent hent2 hs0
                    go_wp2_with fail
                    go_quiet (fail)
                    go_wp2_with fail
                    go_roundw
                    case rel => exact ⟨e + 1, cn + 1, by go_num, by omega, by go_num, unhide HC, (unhide Hbe).drewN _⟩
                    case measure => simp [intOf]; omega
                  · rw [if_neg hs0] at hent
                    have hent2 : (ents (E.take (e + 1)) z).length = cn := hent
                    have HC := hide hent2
                    clear hent hent2
                    generalize E[e].1 = s0 at *
                    go_wp2_with fail
                    go_quiet (fail)
                    go_wp2_with fail
                    go_roundw
                    case rel => exact ⟨e + 1, cn, by go_num, by omega, rfl, unhide HC, (unhide Hbe).drewN _⟩
                    case measure => simp [intOf]; omega
                · as_aux_lemma =>
                  have helt' : ¬ (e : Int) < (E.length : Int) := by omega
                  have hen : e = E.length := by omega
                  have et : ents (E.take e) z = ents E z := by rw [hen, List.take_length]
                  have hcnE : (ents E z).length = cn := by
                    have := unhide Hcn0
                    rw [et] at this
                    exact this
                  clear et hen
                  obtain ⟨g11, hg11, k11, _⟩ := hbe.rd (k := 1) rfl (i := a) (by omega)
                  rw [hzs] at k11
                  subst hg11
                  have h33 := fun q => has_any (hbe.drewN q).pm hzS
                  have h34 := fun q => len_any (hbe.drewN q).pm hzS
                  have h35 := fun q => since_any (hbe.drewN q).pm hzS
                  rw [hzl, hcnE] at h34
                  clear hcnE
                  have H33 := hide h33
                  have H34 := hide h34
                  have H35 := hide h35
                  have hals : (a : Int) < (sn.length : Int) := by omega
                  clear h33 h34 h35 hbe
                  generalize (st z).since = sv at k11 H35 ⊢
                  go_wp2_with fail
                  go_quiet (first | (go_at_call 33; exact Calls.quiet_of_same (unhide H33 _)) | (go_at_call 34; exact Calls.quiet_of_same (unhide H34 _)) | (go_at_call 35; exact Calls.quiet_of_same (unhide H35 _)))
                  go_wp2_with fail
                  go_roundw
                  case rel => exact ⟨a + 1, by go_num, by omega, (unhide Hbe).drewN _⟩
                  case measure => simp [intOf]; omega
            · as_aux_lemma =>
              have halt' : ¬ (a : Int) < (ps.length : Int) := by omega
              go_wp2_with fail
              go_loopw [31] (fun it wr2 => ∃ e : Nat, it = .int .i64 e ∧ e ≤ E.length ∧ Bk w wr2 (w.heap.size + 1) w.heap.size (w.heap.size + 2) inf (2 * j) S st [] (rowsE (.slice ao10 ps.length cap10) (.slice ao11 sn.length cap11) (.slice ao12 E.length cap12) (.slice ao13 E.length cap13) (.slice ao14 E.length cap14) (.slice ao15 E.length cap15) ps sn E)) (fun it _ => E.length - (intOf it).toNat)
              case atStart => exact ⟨0, rfl, Nat.zero_le _, unhide Hba⟩
              case round =>
                obtain ⟨e, rfl, hele, hbe⟩ := hrel
                have Hbe := hide hbe
                clear Hba
                by_cases helt : e < E.length
                · as_aux_lemma =>
                  have helt' : (e : Int) < (E.length : Int) := by omega
                  obtain ⟨g12, hg12, k12, _⟩ := hbe.rd (k := 2) rfl (i := e) (by rw [List.length_map]; exact helt)
                  rw [nth_map _ helt] at k12
                  have k12' : wr.cell? ⟨g12, e, none⟩ = some (.int .i64 E[e].1) := k12
                  obtain ⟨g13, hg13, k13, _⟩ := hbe.rd (k := 3) rfl (i := e) (by rw [List.length_map]; exact helt)
                  rw [nth_map _ helt] at k13
                  have k13' : wr.cell? ⟨g13, e, none⟩ = some (.int .i64 E[e].2.1.1) := k13
                  obtain ⟨g14, hg14, k14, _⟩ := hbe.rd (k := 4) rfl (i := e) (by rw [List.length_map]; exact helt)
                  rw [nth_map _ helt] at k14
                  have k14' : wr.cell? ⟨g14, e, none⟩ = some (.int .u64 E[e].2.1.2) := k14
                  obtain ⟨g15, hg15, k15, _⟩ := hbe.rd (k := 5) rfl (i := e) (by rw [List.length_map]; exact helt)
                  rw [nth_map _ helt] at k15
                  have k15' : wr.cell? ⟨g15, e, none⟩ = some (.int .u64 E[e].2.2) := k15
                  subst hg12 hg13 hg14 hg15
                  have hzS := (unhide Hmod).inS E[e] (List.getElem_mem helt)
                  have hmem : ((E[e].2.1.1, E[e].2.1.2), E[e].2.2) ∈ (st E[e].1).L := by
                    rw [((unhide Hmod).ent _ hzS).mem_iff]
                    exact mem_ents.2 (List.getElem_mem helt)
                  have h36 := fun q => last_any (hbe.drewN q).pm hzS hmem
                  have H36 := hide h36
                  clear k12 k13 k14 k15 h36 hmem hzS hbe
                  generalize E[e].1 = q0 at *
                  generalize E[e].2.1.1 = q1 at *
                  generalize E[e].2.1.2 = q2 at *
                  generalize E[e].2.2 = q3 at *
                  go_wp2_with fail
                  go_quiet ((go_at_call 36; exact Calls.quiet_of_same (unhide H36 _)))
                  go_wp2_with fail
                  go_roundw
                  case rel => exact ⟨e + 1, by go_num, by omega, (unhide Hbe).drewN _⟩
                  case measure => simp [intOf]; omega
                · as_aux_lemma =>
                  have helt' : ¬ (e : Int) < (E.length : Int) := by omega
                  go_wp2_with fail
                  go_ret
                  exact ⟨rfl, (unhide Hbe).bel⟩

end Go.Proofs.Qxb6604710a
