import Derived.Test.Qxb6604710aV3
namespace Go.Proofs.Qxb6604710a
open Go.RowKit

theorem infoI3 : (Try.prog.info? 3).map (fun i => (i.zero, i.size, i.bytes)) = some (some (.int .i64 0), 1, 8) := by kernel_rfl

/-- What zzScriptFits has seen of the steps. -/
def Fits (n m : Nat) (ZS : Nat → Nat → Int) (mp : Nat) : Prop :=
  mp ≤ 65536 ∧ ∀ k, k < m → 0 ≤ ZS k 0 ∧ ZS k 0 < n ∧ 0 ≤ ZS k 3 ∧ ZS k 3 ≤ 536870912 ∧ 0 ≤ ZS k 4 ∧ ZS k 4 ≤ 536870912 ∧ -1 ≤ ZS k 5 ∧ ZS k 5 ≤ mp

/-- What zzRunScript leaves. -/
def RunPost (w : World) (n : Nat) (e : Ending) (w' : World) : Prop :=
  ∃ base M A S Cm mc vp vc P C T al st cm, w.heap.size ≤ M ∧ M < A ∧ A < S ∧ S < Cm ∧ Cm < base ∧
    e = .returned (.tuple #[.pointer (some ⟨M, 0, none⟩), .slice (some ⟨A, 0, none⟩) n n, .slice (some ⟨S, 0, none⟩) n n, .slice (some ⟨Cm, 0, none⟩) n n]) ∧ RunAt w base M A S Cm n w' mc vp vc P C T al st cm

set_option maxRecDepth 100000 in
set_option maxHeartbeats 16000000 in
theorem runScript_any (w : World) (ao so : Option Addr) (n cap m capS : Nat) (Z ZS : Nat → Nat → Int) (mp : Nat) (hr : IsRows qks w ao n cap Z) (hs : IsRows sks w so m capS ZS) (hn : n ≤ 4096) (hm : m ≤ 4096) (hf : Fits n m ZS mp) :
    Calls Try.prog 23 #[.slice ao n cap, .slice so m capS, .int .i64 mp] w fun e w' => RunPost w n e w' := by
  have hnm := hide (newMerger_any w)
  have Hr := hide hr
  have Hs := hide hs
  have Hf := hide hf
  have hmp : (mp : Int) ≤ 65536 := by have := hf.1; omega
  clear hr hs hf
  obtain ⟨ti, hi, hz0, hz1, hz2⟩ := info_parts Try.info30
  have Hi := hide hi
  have Hz0 := hide hz0
  have Hz1 := hide hz1
  have Hz2 := hide hz2
  clear hi hz0 hz1 hz2
  obtain ⟨tj, hi, hz0, hz1, hz2⟩ := info_parts Try.info48
  have Ji := hide hi
  have Jz0 := hide hz0
  have Jz1 := hide hz1
  have Jz2 := hide hz2
  clear hi hz0 hz1 hz2
  obtain ⟨tk, hi, hz0, hz1, hz2⟩ := info_parts infoI3
  have Ki := hide hi
  have Kz0 := hide hz0
  have Kz1 := hide hz1
  have Kz2 := hide hz2
  clear hi hz0 hz1 hz2
  go_enter Try.func23, Try.ntmps23
  go_wp2_with fail
  refine (unhide hnm).mono ?_
  rintro e w1 ⟨rfl, hw1⟩
  have Hw1 := hide hw1
  clear hw1
  go_wp2_with (at_make; refine wpList_make_full _ rfl _ _ 27 rfl 0 30 ti (.pointer none) 1 Try.underlying27 (unhide Hi) (unhide Hz0) (unhide Hz1) _ _ _ _ n rfl rfl rfl rfl (by rw [unhide Hz2]; omega) (by simp only [maxLen]; omega) (Nat.zero_le _) ?_)
  intro w2 hown hg
  have Hown := hide hown
  have Hg := hide hg
  clear hown hg
  go_wp2_with (at_make; refine wpList_make_full _ rfl _ _ 45 rfl 0 48 tj (.int .i8 0) 1 Try.underlying45 (unhide Ji) (unhide Jz0) (unhide Jz1) _ _ _ _ n rfl rfl rfl rfl (by rw [unhide Jz2]; omega) (by simp only [maxLen]; omega) (Nat.zero_le _) ?_)
  intro w3 hown hg
  have Hown2 := hide hown
  have Hg2 := hide hg
  clear hown hg
  go_wp2_with (at_make; refine wpList_make_full _ rfl _ _ 33 rfl 0 3 tk (.int .i64 0) 1 Try.underlying33 (unhide Ki) (unhide Kz0) (unhide Kz1) _ _ _ _ n rfl rfl rfl rfl (by rw [unhide Kz2]; omega) (by simp only [maxLen]; omega) (Nat.zero_le _) ?_)
  intro w4 hown hg
  obtain ⟨hs1, hs2, hs3, hs4, hpl⟩ := plRun_start (unhide Hw1) (unhide Hown) (unhide Hg) (unhide Hown2) (unhide Hg2) hown hg Z
  rw [hs1]
  have H0 := hide hpl
  clear hown hg hpl hnm Hw1 hs1 Hown Hg Hown2 Hg2
  generalize w2.heap.size = S at *
  generalize w3.heap.size = Cm at *
  generalize hbs : w4.heap.size = base at *
  have Hbs := hide hbs
  clear hbs
  go_wp2_with fail
  go_loopw [14] (fun it wr => ∃ (i : Nat) (mc : Array Value) (vp : Value) (P : List Nat) (T : Nat → Tx) (al : List Nat), it = .int .i64 i ∧ i ≤ n ∧ PlRun w base (w.heap.size + 1) (w.heap.size + 2) S Cm n Z i wr mc vp P T al) (fun it _ => n - (intOf it).toNat)
  case atStart => exact ⟨0, _, _, _, _, _, rfl, Nat.zero_le _, unhide H0⟩
  case round =>
    obtain ⟨i, mc, vp, P, T, al, rfl, hle, hrel⟩ := hrel
    have Hrel := hide hrel
    clear hrel H0
    by_cases hlt : i < n
    · have hlt' : (i : Int) < (n : Int) := by omega
      obtain ⟨b, off, rfl, c0, c1, c2, c3, c4⟩ := (unhide Hr).q5 (unhide Hrel).pl.bel hlt
      go_wp2_with fail
      generalize hW : wr.alloc _ = W
      have hWb : Below wr.heap.size wr W := by rw [← hW]; exact (Below.refl _ _).alloc (Nat.le_refl _) _
      have hWs : W.heap.size = wr.heap.size + 1 := by rw [← hW]; simp
      have hWc : W.cell? ⟨wr.heap.size, 4, none⟩ = some (.int .i64 (Z i 4)) := by
        rw [← hW]; unfold World.cell?; rw [heap_alloc_new]; rfl
      have hpl := hide (placeAll2 (unhide Hrel).pl (by omega) (by omega) (by omega) hlt hn hWb (newTx (Z i 0) (Z i 1) (Z i 2) (Z i 3) (Z i 4) 0 (.slice none 0 0)) rfl rfl rfl)
      have harr := ((unhide Hrel).pl.arr.below hWb).below ((Below.refl W.heap.size W).alloc (Nat.le_refl _) (.cells (newTx (Z i 0) (Z i 1) (Z i 2) (Z i 3) (Z i 4) 0 (.slice none 0 0)).cells 76))
      obtain ⟨va, hva⟩ := harr.some hlt
      have hfa := harr.fz i
      have hnX : ¬ (wr.heap.size = w.heap.size + 2 ∨ MX (w.heap.size + 1) vp (.slice none 0 0) P [] wr.heap.size) := by
        rintro (e | e)
        · have := (unhide Hrel).pl.mg.hb; omega
        · have := (unhide Hrel).pl.mg.mx_lt e; omega
      have HWb := hide hWb
      have HWs := hide hWs
      have HWc := hide hWc
      have HnX := hide hnX
      clear hW hWb harr c0 c1 c2 c3 c4 hWs hWc hnX
      refine (newTxn_any W (Z i 0) (Z i 1) (Z i 2) (Z i 3) (Z i 4) 0 none 0 0).mono ?_
      rintro e w5 ⟨rfl, hw5⟩
      rw [← hw5] at hpl hva hfa
      clear hw5
      go_wp2_with fail
      refine (unhide hpl).mono ?_
      rintro e w6 ⟨rfl, ⟨mc', vp', P', T', hst⟩, hk6⟩
      have hc6 : w6.cell? ⟨wr.heap.size, 4, none⟩ = some (.int .i64 (Z i 4)) := by
        have := unhide HWs
        rw [World.cell?_of_block (hk6.block wr.heap.size (by omega) (unhide HnX))]
        exact unhide HWc
      obtain ⟨q1, q2, q3⟩ := (unhide Hrel).step (by omega) (by omega) (by omega) (by omega) (by omega) hlt (unhide HWb) hk6 hst
      obtain ⟨vs, hvs⟩ := q1.some hlt
      have hfs := q1.fz i
      obtain ⟨vc, hvc⟩ := q2.some hlt
      have hfc := q2.fz i
      have hneS : S ≠ wr.heap.size := by have := (unhide Hrel).pl.mg.hb; omega
      have Hst := hide q3
      clear hst hpl hva hfa q1 q2 q3 hk6
      go_wp2_with fail
      go_roundw
      case rel => exact ⟨i + 1, mc', vp', P', T', _, by go_num, by omega, unhide Hst⟩
      case measure => simp [intOf]; omega
    · have hlt' : ¬ (i : Int) < (n : Int) := by omega
      have hin : i = n := by omega
      rw [hin] at Hrel
      clear hin
      go_wp2_with (at_make; refine wpList_make_full _ rfl _ _ 33 rfl 0 3 tk (.int .i64 0) 1 Try.underlying33 (unhide Ki) (unhide Kz0) (unhide Kz1) _ _ _ _ mp rfl rfl rfl rfl (by rw [unhide Kz2]; omega) (by simp only [maxLen]; omega) (Nat.zero_le _) ?_)
      intro w5 hown5 hg5
      have H5 := hide ((unhide Hrel).run.below ((Below.refl _ _).grown hg5 (Nat.le_refl _) (by intro k hk; cases hk)))
      clear hown5 hg5 Hrel
      generalize wr.heap.size = Bp
      go_wp2_with fail
      go_loopw [17] (fun it wr => ∃ (k : Nat) (mc : Array Value) (vp vc : Value) (P C : List Nat) (T : Nat → Tx) (al : List Nat) (st cm : Nat → Int), it = .int .i64 k ∧ k ≤ m ∧ RunAt w base (w.heap.size + 1) (w.heap.size + 2) S Cm n wr mc vp vc P C T al st cm) (fun it _ => m - (intOf it).toNat)
      case atStart => exact ⟨0, _, _, _, _, _, _, _, _, _, rfl, Nat.zero_le _, unhide H5⟩
      case round =>
        obtain ⟨k, mc, vp, vc, P, C, T, al, st, cm, rfl, hkle, hrel⟩ := hrel
        have Hrel := hide hrel
        clear hrel H5
        by_cases hkm : k < m
        · have hkm' : (k : Int) < (m : Int) := by omega
          obtain ⟨b, off, rfl, c0, c1, c2, c3, c4, c5⟩ := (unhide Hs).s6 (unhide Hrel).bel hkm
          obtain ⟨f0, f0', f1, f2, f3, f4, f5, f6⟩ := (unhide Hf).2 k hkm
          obtain ⟨j, hj⟩ := Int.eq_ofNat_of_zero_le f0
          rw [hj] at c0 f0'
          clear hj f0
          have hjn : j < n := by omega
          obtain ⟨t, ht⟩ : ∃ t, al[j]? = some t := ⟨_, List.getElem?_eq_getElem (by have := (unhide Hrel).len; omega)⟩
          have hbaseW := (unhide Hrel).mg.hb
          go_upto_region 18 with fail
          generalize hsb : wr.alloc _ = W
          have hWb : Below wr.heap.size wr W := by rw [← hsb]; exact (Below.refl _ _).alloc (Nat.le_refl _) _
          have hWs : W.heap.size = wr.heap.size + 1 := by rw [← hsb]; simp
          have hnew : W.heap[wr.heap.size]? = some (.cells #[.int .i64 j, .int .u64 (ZS k 1), .int .u64 (ZS k 2), .int .i64 (ZS k 3), .int .i64 (ZS k 4), .int .i64 (ZS k 5)] 81 (0, 0)) := by rw [← hsb]; exact heap_alloc_new _ _
          have e0 : W.cell? ⟨wr.heap.size, 0, none⟩ = some (.int .i64 j) := by unfold World.cell?; rw [hnew]; rfl
          have e1 : W.cell? ⟨wr.heap.size, 1, none⟩ = some (.int .u64 (ZS k 1)) := by unfold World.cell?; rw [hnew]; rfl
          have e2 : W.cell? ⟨wr.heap.size, 2, none⟩ = some (.int .u64 (ZS k 2)) := by unfold World.cell?; rw [hnew]; rfl
          have e3 : W.cell? ⟨wr.heap.size, 3, none⟩ = some (.int .i64 (ZS k 3)) := by unfold World.cell?; rw [hnew]; rfl
          have e4 : W.cell? ⟨wr.heap.size, 4, none⟩ = some (.int .i64 (ZS k 4)) := by unfold World.cell?; rw [hnew]; rfl
          have e5 : W.cell? ⟨wr.heap.size, 5, none⟩ = some (.int .i64 (ZS k 5)) := by unfold World.cell?; rw [hnew]; rfl
          have hRW := (unhide Hrel).below hWb
          have hnMX : ¬ MX (w.heap.size + 1) vp vc P C wr.heap.size := fun e => by have := (unhide Hrel).mg.mx_lt e; omega
          have HnMX := hide hnMX
          have Hnew := hide hnew
          have hbn : base ≤ wr.heap.size := hbaseW
          clear hsb c0 c1 c2 c3 c4 c5 hnew hWb Hrel hnMX
          generalize wr.heap.size = sb at *
          have hcS := hRW.sta.cell hjn
          have hcA := hRW.arr.cell ht
          rcases hRW.stP j t ht with ⟨hst, htP⟩ | ⟨hst, htC⟩
          · rw [hst] at hcS
            have HRW := hide hRW
            have Hst := hide hst
            have Ht := hide ht
            clear hRW hst ht
            go_upto_if 90 with fail
            go_cut [20] from 90 to 94 (fun s20 wc => ∃ ap lp cp, s20 = .slice ap lp cp ∧ IsParts (ZS k 5) (.slice ap lp cp) ∧ W = wc)
            case first =>
              by_cases hp : 0 ≤ ZS k 5
              · obtain ⟨l, hl⟩ := Int.eq_ofNat_of_zero_le hp
                rw [hl] at e5 f6
                have Hl := hide hl
                clear hl
                have hlm : l ≤ mp := by omega
                go_wp2_with fail
                go_meet
                case rel => exact ⟨_, _, _, rfl, Or.inr ⟨_, l, mp, unhide Hl, rfl⟩, rfl⟩
              · have hp' : ¬ (0 : Int) ≤ ZS k 5 := hp
                go_wp2_with fail
                go_meet
                case rel => exact ⟨none, 0, 0, rfl, Or.inl ⟨by omega, rfl⟩, rfl⟩
            case rest =>
              obtain ⟨ap, lp, cp, rfl, hpa, rfl⟩ := hcut
              have Hpa := hide hpa
              obtain ⟨ip, hip⟩ := List.getElem?_of_mem htP
              have htx := (unhide HRW).mg.p.tx ip t hip
              have hset := hide (setTxn_any (W.drewN 1) t _ (ZS k 1) (ZS k 2) (ZS k 3) (ZS k 4) ap lp cp (htx.drewN 1))
              have htb := (unhide HRW).mg.bp t htP
              have htlt := htx.lt
              have hsbt : sb ≠ t := by
                intro e
                have h1 := unhide Hnew
                rw [e, show W.heap[t]? = _ from htx] at h1
                simp at h1
              have Hip := hide hip
              clear hpa htx hip hcS
              go_upto_region 23 with fail
              go_region_held3 (fun w' => w'.cell? ⟨w.heap.size + 2, j, none⟩ = some (.pointer (some ⟨t, 0, none⟩)) ∧ w'.cell? ⟨sb, 1, none⟩ = some (.int .u64 (ZS k 1)) ∧ w'.cell? ⟨sb, 2, none⟩ = some (.int .u64 (ZS k 2)) ∧ w'.cell? ⟨sb, 3, none⟩ = some (.int .i64 (ZS k 3)) ∧ w'.cell? ⟨sb, 4, none⟩ = some (.int .i64 (ZS k 4))) (go_keep)
                (first | (go_at_call 13; refine (unhide hset).mono ?_; rintro e w6 ⟨rfl, htx6, hk6, hs6⟩; have hA6 : w6.cell? ⟨w.heap.size + 2, j, none⟩ = some (.pointer (some ⟨t, 0, none⟩)) := (World.cell?_of_block (hk6.block (w.heap.size + 2) (by simp; omega) (by omega))).trans hcA; have hB1 : w6.cell? ⟨sb, 1, none⟩ = some (.int .u64 (ZS k 1)) := (World.cell?_of_block (hk6.block sb (by simp; omega) hsbt)).trans e1; have hB2 : w6.cell? ⟨sb, 2, none⟩ = some (.int .u64 (ZS k 2)) := (World.cell?_of_block (hk6.block sb (by simp; omega) hsbt)).trans e2; have hB3 : w6.cell? ⟨sb, 3, none⟩ = some (.int .i64 (ZS k 3)) := (World.cell?_of_block (hk6.block sb (by simp; omega) hsbt)).trans e3; have hB4 : w6.cell? ⟨sb, 4, none⟩ = some (.int .i64 (ZS k 4)) := (World.cell?_of_block (hk6.block sb (by simp; omega) hsbt)).trans e4; have hB5 : w6.cell? ⟨sb, 5, none⟩ = some (.int .i64 (ZS k 5)) := (World.cell?_of_block (hk6.block sb (by simp; omega) hsbt)).trans e5))
              have hk6' := hk6.pre
              have hcm6 := (unhide HRW).cma.kept hk6' (by omega)
              have hst6 := (unhide HRW).sta.kept hk6' (by omega)
              obtain ⟨vcm, hvcm⟩ := hcm6.some hjn
              have hfcm := hcm6.fz j
              obtain ⟨hpre, _⟩ := run_pre (unhide HRW) hn (by omega) (by omega) (j := j) (unhide Hip) (unhide Hpa) f1 f2 f3 f4 hk6' htx6 (.int .i64 (ZS k 3))
              have hse := hide (zzsettle_any _ _ _ _ _ _ _ _ _ _ t (ZS k 5) hpre (Or.inl htP))
              rw [updT_same] at hse
              have hdo := hide (fun W => zzDone_any W (ZS k 3) (ZS k 4) (ZS k 5) f1 f2 f3 f4)
              have hdn : doneB ((T t).set (ZS k 1) (ZS k 2) (ZS k 3) (ZS k 4) (.slice ap lp cp)).commits ((T t).set (ZS k 1) (ZS k 2) (ZS k 3) (ZS k 4) (.slice ap lp cp)).votes (ZS k 5) = doneB (ZS k 3) (ZS k 4) (ZS k 5) := rfl
              rw [hdn] at hse
              generalize doneB (ZS k 3) (ZS k 4) (ZS k 5) = dn at *
              have hstep := hide (fun w8 hs => run_step (ts := ZS k 1) (voted := ZS k 2) (c := ZS k 3) (v := ZS k 4) (pv := .slice ap lp cp) (unhide HRW) (by omega) (by omega) (by omega) (by omega) (by omega) (unhide Ht) htP hk6' dn (w8 := w8) hs)
              have hCA : Cm ≠ w.heap.size + 2 := by omega
              have hCsb : Cm ≠ sb := by omega
              have hsz6 := hk6'.size
              have Hst6 := hide hst6
              clear hk6 hk6' hcm6 hst6 htx6 hs6 hset hpre hdn hB1 hB2
              go_wp2_with fail
              refine (unhide hse).mono ?_
              rintro e w8 ⟨rfl, hs8⟩
              obtain ⟨mc8, vp8, vc8, P8, C8, T8, h8⟩ := unhide hstep w8 hs8
              obtain ⟨_, _, _, _, _, _, _, _, hk8⟩ := hs8
              have hsb8 : ¬ (MX (w.heap.size + 1) vp vc P C sb ∨ sb = t) := by
                rintro (e | e)
                · exact unhide HnMX e
                · exact hsbt e
              have hS8 : ¬ (MX (w.heap.size + 1) vp vc P C S ∨ S = t) := by
                rintro (e | e)
                · rcases (unhide HRW).mg.mx_ge e with e | e <;> omega
                · omega
              have g3 : w8.cell? ⟨sb, 3, none⟩ = some (.int .i64 (ZS k 3)) := by
                rw [World.cell?_of_block (hk8.block sb (by simp [World.setCell]; omega) hsb8), World.cell?_setCell_other _ _ _ _ (by intro e; simp at e <;> omega)]; exact hB3
              have g4 : w8.cell? ⟨sb, 4, none⟩ = some (.int .i64 (ZS k 4)) := by
                rw [World.cell?_of_block (hk8.block sb (by simp [World.setCell]; omega) hsb8), World.cell?_setCell_other _ _ _ _ (by intro e; simp at e <;> omega)]; exact hB4
              have g5 : w8.cell? ⟨sb, 5, none⟩ = some (.int .i64 (ZS k 5)) := by
                rw [World.cell?_of_block (hk8.block sb (by simp [World.setCell]; omega) hsb8), World.cell?_setCell_other _ _ _ _ (by intro e; simp at e <;> omega)]; exact hB5
              have hst8 := ((unhide Hst6).kept (Kept.setCell (X := fun b => b = Cm) (Kept.refl _ _) (p := ⟨Cm, j, none⟩) rfl (.int .i64 (ZS k 3))) (by omega)).kept hk8 hS8
              obtain ⟨vst, hvst⟩ := hst8.some hjn
              have hfst := hst8.fz j
              have H8 := hide h8
              clear h8 hk8 hst8 hsb8 hS8 hstep hse hA6 hB3 hB4 hB5 hvcm hfcm hcA e0 e1 e2 e3 e4 e5 hsz6
              go_wp2_with fail
              refine (unhide hdo _).mono ?_
              rintro e w8 ⟨rfl, rfl⟩
              cases dn with
              | true =>
                go_wp2_with fail
                go_roundw
                case rel => exact ⟨k + 1, _, _, _, _, _, _, _, _, _, by go_num, by omega, unhide H8⟩
                case measure => simp [intOf]; omega
              | false =>
                go_wp2_with fail
                go_roundw
                case rel => exact ⟨k + 1, _, _, _, _, _, _, _, _, _, by go_num, by omega, unhide H8⟩
                case measure => simp [intOf]; omega
          · rw [hst] at hcS
            have HRW := hide hRW
            clear hRW e1 e2 e3 e4 e5
            go_wp2_with fail
            go_roundw
            case rel => exact ⟨k + 1, mc, vp, vc, P, C, T, al, st, cm, by go_num, by omega, unhide HRW⟩
            case measure => simp [intOf]; omega
        · have hkm' : ¬ (k : Int) < (m : Int) := by omega
          go_wp2_with fail
          refine bodyPost_ret (v := .tuple #[.pointer (some ⟨w.heap.size + 1, 0, none⟩), .slice (some ⟨w.heap.size + 2, 0, none⟩) n n, .slice (some ⟨S, 0, none⟩) n n, .slice (some ⟨Cm, 0, none⟩) n n]) (by simp [results, Try.results23, go_sem]) rfl ?_
          exact ⟨base, _, _, S, Cm, mc, vp, vc, P, C, T, al, st, cm, by omega, by omega, by omega, by omega, by omega, rfl, unhide Hrel⟩

end Go.Proofs.Qxb6604710a
