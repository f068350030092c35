import Derived.Test.Qxb6604710aPD
namespace Go.Proofs.Qxb6604710a
open Go.RowKit Go.Maps

theorem eql69_none (w : World) : (binOp .eql 69 (.map none) (.map none)).run Try.prog w = .ok (.bool true) w := by kernel_rfl
attribute [local go_sem] eql69_none eql69_some eql84_some eql84_none run_makeMapP neq84_some neq84_none

/-- A merger that keeps nothing of what it passes. -/
structure PN (w : World) (base mp tb i : Nat) : Prop where
  c0 : w.cell? ⟨mp, 0, none⟩ = some (.map (some tb))
  c6 : w.cell? ⟨mp, 6, none⟩ = some (.map none)
  txns : ∃ n DT, w.ownsMap Try.prog 73 ptrR tb n DT ∧ n ≤ i
  own : base ≤ tb

section
variable {w w' : World} {base mp tb i : Nat}

theorem PN.same (h : PN w base mp tb i) (hb : ∀ b, b < w.heap.size → w'.heap[b]? = w.heap[b]?) : PN w' base mp tb i := by
  obtain ⟨n, DT, h1, h2⟩ := h.txns
  have em := hb mp (lt_of_cell h.c0)
  exact ⟨(World.cell?_of_block em).trans h.c0, (World.cell?_of_block em).trans h.c6, ⟨n, DT, own_same h1 (hb tb h1.lt), h2⟩, h.own⟩
theorem PN.alloc (h : PN w base mp tb i) (o : Obj) : PN (w.alloc o) base mp tb i := h.same fun _ hb => Below.heap_alloc _ _ _ hb
theorem PN.drew (h : PN w base mp tb i) : PN w.drew base mp tb i := h.same fun _ _ => rfl

theorem PN.put (h : PN w base mp tb i) (hi : i ≤ 100000) (t : Nat) :
    ∃ w', (Instr.mapUpdate 65 (.map (some tb)) (.agg #[.int .i64 (-1), .int .u64 ((i : Int) + 1)]) (.pointer (some ⟨t, 0, none⟩))).run Try.prog w = .ok () w' ∧ PN w' base mp tb (i + 1) ∧ w.grownBy w' (some tb) := by
  obtain ⟨n, DT, h1, h2⟩ := h.txns
  have hs : (Lit.int .i64 (-1)).wf = true := WalkArith.wf_i64 (by omega)
  have hn : (Lit.int .u64 ((i : Int) + 1)).wf = true := WalkArith.wf_u64 (by omega)
  obtain ⟨w', hrun, ho, htu⟩ := h1.store key73 Try.underlying65 (by unfold maxLen; omega) (keyOf_tid hs hn) (ptrR_mk t)
  have hg := htu.grown
  have em : w'.heap[mp]? = w.heap[mp]? := hg.block mp (lt_of_cell h.c0) (by intro e; simp at e; exact cell_not_map h1 h.c0 e)
  exact ⟨w', hrun, ⟨(World.cell?_of_block em).trans h.c0, (World.cell?_of_block em).trans h.c6, ⟨_, _, ho, by omega⟩, h.own⟩, hg⟩
end

set_option maxHeartbeats 400000 in
theorem newMergerN (w : World) :
    Calls Try.prog 10 #[.bool false] w fun e w' => e = .returned (.pointer (some ⟨w.heap.size + 1, 0, none⟩)) ∧ PN w' w.heap.size (w.heap.size + 1) w.heap.size 0 ∧ Below w.heap.size w w' := by
  go_enter Try.func10, Try.ntmps10
  go_wp2_with fail
  go_ret
  refine ⟨rfl, ?_, ?_⟩
  · have b0 := (World.ownsMap_made w Try.prog 73 ptrR).alloc (.cells #[.map (some w.heap.size), .map none, .bool false, .slice none 0 0, .slice none 0 0, .map none, .map none] 71)
    have b1 : (((w.alloc (.map #[] 0)).alloc (.cells #[.map (some w.heap.size), .map none, .bool false, .slice none 0 0, .slice none 0 0, .map none, .map none] 71)).heap[w.heap.size + 1]?) = some (.cells #[.map (some w.heap.size), .map none, .bool false, .slice none 0 0, .slice none 0 0, .map none, .map none] 71 (0, 0)) := by
      have := heap_alloc_new (w.alloc (.map #[] 0)) (.cells #[.map (some w.heap.size), .map none, .bool false, .slice none 0 0, .slice none 0 0, .map none, .map none] 71)
      simpa using this
    refine ⟨?_, ?_, ⟨0, _, b0, Nat.le_refl _⟩, Nat.le_refl _⟩
    · unfold World.cell?; rw [b1]; rfl
    · unfold World.cell?; rw [b1]; rfl
  · exact ((Below.refl _ w).alloc (Nat.le_refl _) _).alloc (by simp) _

set_option maxHeartbeats 1000000 in
theorem addInflightN (w : World) (base mp tb i t : Nat) (h : PN w base mp tb i) (hi : i ≤ 100000) (ht : IsTx w t (newTxP (-1) ((i : Int) + 1))) :
    Calls Try.prog 29 #[.pointer (some ⟨mp, 0, none⟩), .pointer (some ⟨t, 0, none⟩)] w fun e w' => e = .returned (.tuple #[]) ∧ PN w' base mp tb (i + 1) ∧ w.grownBy w' (some tb) := by
  have c0 := h.c0
  have x0 : w.cell? ⟨t, 0, none⟩ = some (.int .i64 (-1)) := ht.c0
  have x1 : w.cell? ⟨t, 1, none⟩ = some (.int .u64 ((i : Int) + 1)) := ht.c1
  obtain ⟨w1, hrun, hp, hg⟩ := h.drew.put hi t
  have hg' : w.grownBy w1 (some tb) := ⟨hg.os, hg.tape, hg.output, hg.size, hg.block⟩
  have Hp := hide hp
  have Hg := hide hg'
  clear hp hg hg' h ht
  go_enter Try.func29, Try.ntmps29
  go_wp2_with fail
  go_region
  go_wp2_with fail
  go_end0
  exact ⟨rfl, unhide Hp, unhide Hg⟩

set_option maxHeartbeats 1000000 in
theorem passN (w : World) (base mp tb i : Nat) (z ts tn v : Int) (h : PN w base mp tb i) :
    Calls Try.prog 43 #[.pointer (some ⟨mp, 0, none⟩), .int .i64 z, .agg #[.int .i64 ts, .int .u64 tn], .int .u64 v] w fun e w' => e = .returned (.tuple #[]) ∧ w' = w.alloc (.cells #[.int .i64 ts, .int .u64 tn] 73) := by
  have c6 := (h.alloc (.cells #[.int .i64 ts, .int .u64 tn] 73)).c6
  clear h
  go_enter Try.func43, Try.ntmps43
  go_wp2_with fail
  refine bodyPost_ret (v := .tuple #[]) (by simp [results, Try.results43, go_sem]) rfl ⟨rfl, rfl⟩

set_option maxHeartbeats 1000000 in
theorem zzpassN (w : World) (base mp tb i : Nat) (z ts tn v : Int) (h : PN w base mp tb i) :
    Calls Try.prog 30 #[.pointer (some ⟨mp, 0, none⟩), .int .i64 z, .int .i64 ts, .int .u64 tn, .int .u64 v] w fun e w' => e = .returned (.tuple #[]) ∧ w' = w.alloc (.cells #[.int .i64 ts, .int .u64 tn] 73) := by
  have hp := hide (passN w base mp tb i z ts tn v h)
  clear h
  go_enter Try.func30, Try.ntmps30
  go_wp2_with fail
  go_at_call 43
  refine (unhide hp).mono ?_
  rintro e w' ⟨rfl, hw⟩
  clear hp
  go_wp2_with fail
  go_end0
  exact ⟨rfl, rfl⟩

set_option maxHeartbeats 1000000 in
theorem hasN (w : World) (base mp tb i : Nat) (z : Int) (h : PN w base mp tb i) (hz : (Lit.int .i64 z).wf = true) :
    Calls Try.prog 33 #[.pointer (some ⟨mp, 0, none⟩), .int .i64 z] w fun e w' => e = .returned (.bool false) ∧ w' = w := by
  have c6 := h.c6
  have hlk : (Instr.lookup 69 (.map none) (.int .i64 z) false).run Try.prog w = .ok (.pointer none) w := by
    have := Maps.look_nil (w := w) false key3 Try.underlying69 (zero84 w) (keyOf_int_mk Try.underlying3 hz)
    simpa using this
  clear h
  go_enter Try.func33, Try.ntmps33
  go_wp2_with fail
  go_ret
  exact ⟨rfl, rfl⟩

set_option maxHeartbeats 400000 in
theorem bytes28 (w : World) (k : Bool) (x : Int) (ao : Option Addr) (n cap : Nat) (hn : n ≤ 4096) :
    Calls Try.prog 28 #[.bool k, .int .i64 x, .slice ao n cap] w fun e w' => e = .returned (.bool true) ∧ w' = w := by
  have h1 : ¬ (1048576 : Int) < (n : Int) := by omega
  go_enter Try.func28, Try.ntmps28
  go_wp2_with fail
  go_ret
  exact ⟨rfl, rfl⟩

set_option maxRecDepth 100000 in
set_option maxHeartbeats 60000000 in
theorem matchesN_walk (w : World) (inf : Nat) (ao : Option Addr) (n cap : Nat) (Z : Nat → Nat → Int) (hr : IsRows pks w ao n cap Z) (hn : n ≤ 4096) (hi : inf ≤ 1024) :
    Calls Try.prog 7 #[.bool false, .int .i64 inf, .slice ao n cap] w fun e w' => e = .returned (.bool true) ∧ Below w.heap.size w w' := by
  have hby := hide (bytes28 w false inf ao n cap hn)
  have Hr := hide hr
  have d1 : ¬ (4096 : Int) < (n : Int) := by omega
  have d2 : decide ((inf : Int) < 0) = false := by simp
  have d3 : ¬ (1024 : Int) < (inf : Int) := by omega
  clear hr
  go_enter Try.func7, Try.ntmps7
  go_wp2_with fail
  refine (unhide hby).mono ?_
  rintro e w ⟨rfl, rfl⟩
  clear hby
  have hmg := hide (newMergerN w)
  go_wp2_with fail
  go_at_call 10
  refine (unhide hmg).mono ?_
  rintro e w4 ⟨rfl, hpi, hb4⟩
  have Hpi := hide hpi
  have Hb4 := hide hb4
  clear hpi hb4 hmg
  go_wp2_with fail
  go_loopw [8] (fun it wr => ∃ i : Nat, it = .int .i64 i ∧ i ≤ inf ∧ PN wr w.heap.size (w.heap.size + 1) w.heap.size i ∧ Below w.heap.size w wr) (fun it _ => inf - (intOf it).toNat)
  case atStart => exact ⟨0, rfl, Nat.zero_le _, unhide Hpi, unhide Hb4⟩
  case round =>
    obtain ⟨i, rfl, hile, hpi, hbel⟩ := hrel
    have HPi := hide hpi
    have Hbl := hide hbel
    clear hpi hbel Hpi Hb4
    by_cases hil : i < inf
    · have hil' : (i : Int) < (inf : Int) := by omega
      have hnt := hide (newTxnP wr (-1) ((i : Int) + 1))
      have htx : IsTx (wr.alloc (.cells (newTxP (-1) ((i : Int) + 1)).cells 76)) wr.heap.size (newTxP (-1) ((i : Int) + 1)) := heap_alloc_new wr _
      have had := hide (addInflightN (wr.alloc (.cells (newTxP (-1) ((i : Int) + 1)).cells 76)) w.heap.size (w.heap.size + 1) w.heap.size i wr.heap.size ((unhide HPi).alloc _) (by omega) htx)
      have hbb := hide ((unhide Hbl).alloc (unhide Hbl).size (.cells (newTxP (-1) ((i : Int) + 1)).cells 76))
      clear htx
      go_wp2_with fail
      go_at_call 11
      refine (unhide hnt).mono ?_
      rintro e w5 ⟨rfl, hw5⟩
      rw [← hw5] at had hbb
      clear hnt hw5
      go_wp2_with fail
      go_at_call 29
      refine (unhide had).mono ?_
      rintro e w6 ⟨rfl, hp6, hg6⟩
      have Hp6 := hide hp6
      have Hb6 := hide ((unhide hbb).grown hg6 (unhide hbb).size (fun k e => by cases e; exact Nat.le_refl _))
      clear hp6 hg6 had hbb
      go_wp2_with fail
      go_roundw
      case rel => exact ⟨i + 1, by go_num, by omega, unhide Hp6, unhide Hb6⟩
      case measure => simp [intOf]; omega
    · have hil' : ¬ (i : Int) < (inf : Int) := by omega
      go_wp2_with fail
      go_loopw [16] (fun it wr => ∃ j : Nat, it = .int .i64 j ∧ j ≤ n ∧ PN wr w.heap.size (w.heap.size + 1) w.heap.size i ∧ Below w.heap.size w wr) (fun it _ => n - (intOf it).toNat)
      case atStart => exact ⟨0, rfl, Nat.zero_le _, unhide HPi, unhide Hbl⟩
      case round =>
        obtain ⟨j, rfl, hjle, hpm, hbel⟩ := hrel
        have HPm := hide hpm
        have HBl := hide hbel
        clear hpm hbel HPi Hbl
        by_cases hjn : j < n
        · have hjn' : (j : Int) < (n : Int) := by omega
          obtain ⟨b, off, rfl, c0, c1, c2, c3, w0, w1, w2, w3⟩ := (unhide Hr).p4 (unhide HBl) hjn
          generalize Z j 0 = z0 at *
          generalize Z j 1 = z1 at *
          generalize Z j 2 = z2 at *
          generalize Z j 3 = z3 at *
          have hpas := hide (zzpassN (wr.alloc (.cells #[.int .i64 z0, .int .i64 z1, .int .u64 z2, .int .u64 z3] 55)) w.heap.size (w.heap.size + 1) w.heap.size i z0 z1 z2 z3 ((unhide HPm).alloc _))
          have hp2 := hide (((unhide HPm).alloc (.cells #[.int .i64 z0, .int .i64 z1, .int .u64 z2, .int .u64 z3] 55)).alloc (.cells #[.int .i64 z1, .int .u64 z2] 73))
          have hb2 := hide (((unhide HBl).alloc (unhide HBl).size (.cells #[.int .i64 z0, .int .i64 z1, .int .u64 z2, .int .u64 z3] 55)).alloc (by simp; have := (unhide HBl).size; omega) (.cells #[.int .i64 z1, .int .u64 z2] 73))
          go_wp2_with fail
          go_at_call 30
          refine (unhide hpas).mono ?_
          rintro e w5 ⟨rfl, hw5⟩
          rw [← hw5] at hp2 hb2
          clear hw5 hpas
          go_wp2_with fail
          go_roundw
          case rel => exact ⟨j + 1, by go_num, by omega, unhide hp2, unhide hb2⟩
          case measure => simp [intOf]; omega
        · have hjn' : ¬ (j : Int) < (n : Int) := by omega
          go_wp2_with fail
          go_loopw [27] (fun it wr => ∃ j : Nat, it = .int .i64 j ∧ j ≤ n ∧ PN wr w.heap.size (w.heap.size + 1) w.heap.size i ∧ Below w.heap.size w wr) (fun it _ => n - (intOf it).toNat)
          case atStart => exact ⟨0, rfl, Nat.zero_le _, unhide HPm, unhide HBl⟩
          case round =>
            obtain ⟨j, rfl, hjle, hpm, hbel⟩ := hrel
            have HPm2 := hide hpm
            have HBl2 := hide hbel
            clear hpm hbel HPm HBl
            by_cases hjn : j < n
            · have hjn' : (j : Int) < (n : Int) := by omega
              obtain ⟨b, off, rfl, c0, c1, c2, c3, w0, w1, w2, w3⟩ := (unhide Hr).p4 (unhide HBl2) hjn
              have hhas := hide (hasN wr w.heap.size (w.heap.size + 1) w.heap.size i (Z j 0) (unhide HPm2) w0)
              generalize Z j 0 = z0 at *
              clear c1 c2 c3 w1 w2 w3
              go_wp2_with fail
              go_at_call 33
              refine (unhide hhas).mono ?_
              rintro e w5 ⟨rfl, hw5⟩
              subst hw5
              clear hhas
              go_wp2_with fail
              go_roundw
              case rel => exact ⟨j + 1, by go_num, by omega, unhide HPm2, unhide HBl2⟩
              case measure => simp [intOf]; omega
            · have hjn' : ¬ (j : Int) < (n : Int) := by omega
              go_wp2_with fail
              go_ret
              exact ⟨rfl, unhide HBl2⟩

end Go.Proofs.Qxb6604710a
