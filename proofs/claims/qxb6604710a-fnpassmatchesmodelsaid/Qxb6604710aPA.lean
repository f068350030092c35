import Derived.Test.Qxb6604710aP9
namespace Go.Proofs.Qxb6604710a
open Go.RowKit Go.Maps

theorem neq84_some (a : Addr) (w : World) : (binOp .neq 84 (.pointer (some a)) (.pointer none)).run Try.prog w = .ok (.bool true) w := by kernel_rfl
theorem neq84_none (w : World) : (binOp .neq 84 (.pointer none) (.pointer none)).run Try.prog w = .ok (.bool false) w := by kernel_rfl
attribute [local go_sem] eql69_some eql84_some eql84_none run_makeMapP neq84_some neq84_none

/-- The merger while its transactions in flight are laid in. -/
structure PI (w : World) (base mp tb qb i : Nat) : Prop where
  c0 : w.cell? ⟨mp, 0, none⟩ = some (.map (some tb))
  c6 : w.cell? ⟨mp, 6, none⟩ = some (.map (some qb))
  txns : ∃ n DT L, w.ownsMap Try.prog 73 ptrR tb n DT ∧ n ≤ i ∧ Rep txE DT L ∧ L.length = i ∧ ∀ p ∈ L, p.1.1 = -1 ∧ p.1.2 ≤ (i : Int)
  passed : w.ownsMap Try.prog 3 ptrR qb 0 (.map [])
  own : base ≤ mp ∧ base ≤ tb ∧ base ≤ qb ∧ tb ≠ qb

section
variable {w w' : World} {base mp tb qb i : Nat}

theorem PI.lts (h : PI w base mp tb qb i) : mp < w.heap.size ∧ tb < w.heap.size ∧ qb < w.heap.size := by
  obtain ⟨n, DT, L, h1, _⟩ := h.txns
  exact ⟨lt_of_cell h.c0, h1.lt, h.passed.lt⟩

theorem PI.same (h : PI w base mp tb qb i) (hb : ∀ b, b < w.heap.size → w'.heap[b]? = w.heap[b]?) : PI w' base mp tb qb i := by
  obtain ⟨l1, l2, l3⟩ := h.lts
  refine ⟨(World.cell?_of_block (hb mp l1)).trans h.c0, (World.cell?_of_block (hb mp l1)).trans h.c6, ?_, own_same h.passed (hb qb l3), h.own⟩
  obtain ⟨n, DT, L, h1, h2⟩ := h.txns
  exact ⟨n, DT, L, own_same h1 (hb tb l2), h2⟩

theorem PI.alloc (h : PI w base mp tb qb i) (o : Obj) : PI (w.alloc o) base mp tb qb i := h.same fun _ hb => Below.heap_alloc _ _ _ hb
theorem PI.drew (h : PI w base mp tb qb i) : PI w.drew base mp tb qb i := h.same fun _ _ => rfl

theorem PI.pm (h : PI w base mp tb qb i) (st : Int → Sit) : PM w base mp tb qb i 0 [] st := by
  refine ⟨h.c0, h.c6, ?_, ⟨0, _, h.passed, Nat.le_refl _, rep_empty _⟩, by simp, by simp, by simp, h.own⟩
  obtain ⟨n, DT, L, h1, _, h3, h4, _⟩ := h.txns
  exact ⟨n, DT, h1, by rw [h3.size, h4]⟩

theorem PI.put (h : PI w base mp tb qb i) (hi : i ≤ 100000) (t : Nat) :
    ∃ w', (Instr.mapUpdate 65 (.map (some tb)) (.agg #[.int .i64 (-1), .int .u64 ((i : Int) + 1)]) (.pointer (some ⟨t, 0, none⟩))).run Try.prog w = .ok () w' ∧ PI w' base mp tb qb (i + 1) ∧ w.grownBy w' (some tb) := by
  obtain ⟨n, DT, L, h1, h2, h3, h4, h5⟩ := h.txns
  have hs : (Lit.int .i64 (-1)).wf = true := WalkArith.wf_i64 (by omega)
  have hn : (Lit.int .u64 ((i : Int) + 1)).wf = true := WalkArith.wf_u64 (by omega)
  obtain ⟨w', hrun, ho, htu⟩ := h1.store key73 Try.underlying65 (by unfold maxLen; omega) (keyOf_tid hs hn) (ptrR_mk t)
  have hg := htu.grown
  have blk : ∀ b, b < w.heap.size → b ≠ tb → w'.heap[b]? = w.heap[b]? := fun b hb hne => hg.block b hb (by intro e; simp at e; exact hne e)
  obtain ⟨l1, l2, l3⟩ := h.lts
  have em := blk mp l1 (cell_not_map h1 h.c0)
  refine ⟨w', hrun, ⟨(World.cell?_of_block em).trans h.c0, (World.cell?_of_block em).trans h.c6, ?_, own_same h.passed (blk qb l3 h.own.2.2.2.symm), h.own⟩, hg⟩
  have hnot : ∀ p ∈ L, p.1 ≠ ((-1, (i : Int) + 1) : Int × Int) := by
    intro p hp e
    have := (h5 p hp).2
    rw [e] at this
    simp at this
    omega
  refine ⟨n + 1, _, _, ho, by omega, h3.put (a := (-1, (i : Int) + 1)) ⟨hs, hn⟩ t, ?_, ?_⟩
  · rw [List.length_cons, List.filter_eq_self.2, h4]
    intro p hp
    simpa using hnot p hp
  · intro p hp
    rcases List.mem_cons.1 hp with rfl | hp
    · simp
    · obtain ⟨e1, e2⟩ := h5 p (List.mem_filter.1 hp).1
      exact ⟨e1, by omega⟩
end

def newTxP (site n : Int) : Tx := ⟨site, n, 0, .slice none 0 0, .slice none 0 0, .slice none 0 0, 0, 0, 0, false, 0⟩

set_option maxHeartbeats 400000 in
theorem newTxnP (w : World) (site n : Int) :
    Calls Try.prog 11 #[.int .i64 site, .int .u64 n, .int .u64 0, .int .u64 0, .int .i64 0, .int .i64 0, .slice none 0 0] w fun e w' => e = .returned (.pointer (some ⟨w.heap.size, 0, none⟩)) ∧
      w' = w.alloc (.cells (newTxP site n).cells 76) := by
  go_enter Try.func11, Try.ntmps11
  go_wp2_with fail
  go_ret
  exact ⟨rfl, rfl⟩

set_option maxHeartbeats 400000 in
theorem newMergerP (w : World) :
    Calls Try.prog 10 #[.bool true] w fun e w' => e = .returned (.pointer (some ⟨w.heap.size + 1, 0, none⟩)) ∧ PI w' w.heap.size (w.heap.size + 1) w.heap.size (w.heap.size + 2) 0 ∧ Below w.heap.size w w' := by
  go_enter Try.func10, Try.ntmps10
  go_wp2_with fail
  go_ret
  refine ⟨rfl, ?_, ?_⟩
  · have b0 := ((World.ownsMap_made w Try.prog 73 ptrR).alloc (.cells #[.map (some w.heap.size), .map none, .bool false, .slice none 0 0, .slice none 0 0, .map none, .map (some (w.heap.size + 1 + 1))] 71)).alloc (.map #[] 0)
    have b1 : ((((w.alloc (.map #[] 0)).alloc (.cells #[.map (some w.heap.size), .map none, .bool false, .slice none 0 0, .slice none 0 0, .map none, .map (some (w.heap.size + 1 + 1))] 71)).alloc (.map #[] 0)).heap[w.heap.size + 1]?) = some (.cells #[.map (some w.heap.size), .map none, .bool false, .slice none 0 0, .slice none 0 0, .map none, .map (some (w.heap.size + 1 + 1))] 71 (0, 0)) := by
      rw [Below.heap_alloc _ _ _ (by simp)]
      have := heap_alloc_new (w.alloc (.map #[] 0)) (.cells #[.map (some w.heap.size), .map none, .bool false, .slice none 0 0, .slice none 0 0, .map none, .map (some (w.heap.size + 1 + 1))] 71)
      simpa using this
    have b2 := World.ownsMap_made ((w.alloc (.map #[] 0)).alloc (.cells #[.map (some w.heap.size), .map none, .bool false, .slice none 0 0, .slice none 0 0, .map none, .map (some (w.heap.size + 1 + 1))] 71)) Try.prog 3 ptrR
    refine ⟨?_, ?_, ⟨0, _, [], b0, Nat.le_refl _, rep_empty _, rfl, by simp⟩, by simpa using b2, by omega⟩
    · unfold World.cell?; rw [b1]; rfl
    · unfold World.cell?; rw [b1]; rfl
  · exact (((Below.refl _ w).alloc (Nat.le_refl _) _).alloc (by simp) _).alloc (by simp; omega) _

set_option maxHeartbeats 1000000 in
theorem addInflight_any (w : World) (base mp tb qb i t : Nat) (h : PI w base mp tb qb i) (hi : i ≤ 100000) (ht : IsTx w t (newTxP (-1) ((i : Int) + 1))) :
    Calls Try.prog 29 #[.pointer (some ⟨mp, 0, none⟩), .pointer (some ⟨t, 0, none⟩)] w fun e w' => e = .returned (.tuple #[]) ∧ PI w' base mp tb qb (i + 1) ∧ w.grownBy w' (some tb) := by
  have c0 := h.c0
  have x0 : w.cell? ⟨t, 0, none⟩ = some (.int .i64 (-1)) := ht.c0
  have x1 : w.cell? ⟨t, 1, none⟩ = some (.int .u64 ((i : Int) + 1)) := ht.c1
  obtain ⟨w1, hrun, hp, hg⟩ := h.drew.put hi t
  have hg' : w.grownBy w1 (some tb) := ⟨hg.os, hg.tape, hg.output, hg.size, hg.block⟩
  have Hp := hide hp
  have Hg := hide hg'
  clear hp hg hg' h ht
  go_enter Try.func29, Try.ntmps29
  go_wp2_with fail
  go_region
  go_wp2_with fail
  go_end0
  exact ⟨rfl, unhide Hp, unhide Hg⟩

set_option maxHeartbeats 1000000 in
theorem zzpass_any (trim : TrimSaid) (w : World) (base mp tb qb inf t : Nat) (S : List Int) (st : Int → Sit) (z ts tn v : Int) (h : PM w base mp tb qb inf t S st) (hz : (Lit.int .i64 z).wf = true) (h1 : (Lit.int .i64 ts).wf = true)
    (h2 : (Lit.int .u64 tn).wf = true) (h3 : (Lit.int .u64 v).wf = true) (ht : t ≤ 90000) (hi : inf ≤ 1024) (hb : base ≤ w.heap.size) :
    Calls Try.prog 30 #[.pointer (some ⟨mp, 0, none⟩), .int .i64 z, .int .i64 ts, .int .u64 tn, .int .u64 v] w fun e w' => e = .returned (.tuple #[]) ∧
      ∃ S' x, PassPost w base mp tb qb inf t S st z (ts, tn) v w' S' x := by
  have hp := hide (pass_any trim w base mp tb qb inf t S st z ts tn v h hz h1 h2 h3 ht hi hb)
  clear h
  go_enter Try.func30, Try.ntmps30
  go_wp2_with fail
  go_at_call 43
  refine (unhide hp).mono ?_
  rintro e w' ⟨rfl, hpost⟩
  have H := hide hpost
  clear hpost hp
  go_wp2_with fail
  go_end0
  exact ⟨rfl, unhide H⟩

section
variable {w : World} {base mp tb qb inf t : Nat} {S : List Int} {st : Int → Sit}

set_option maxHeartbeats 1000000 in
theorem has_any (h : PM w base mp tb qb inf t S st) {z : Int} (hz : z ∈ S) :
    Calls Try.prog 33 #[.pointer (some ⟨mp, 0, none⟩), .int .i64 z] w fun e w' => e = .returned (.bool true) ∧ w' = w := by
  have c6 := h.c6
  have hlk := h.look hz
  clear h
  go_enter Try.func33, Try.ntmps33
  go_wp2_with fail
  go_ret
  exact ⟨rfl, rfl⟩

set_option maxHeartbeats 1000000 in
theorem len_any (h : PM w base mp tb qb inf t S st) {z : Int} (hz : z ∈ S) :
    Calls Try.prog 34 #[.pointer (some ⟨mp, 0, none⟩), .int .i64 z] w fun e w' => e = .returned (.int .i64 (st z).L.length) ∧ w' = w := by
  have c6 := h.c6
  have hlk := h.look hz
  have hr := (h.each z hz).1
  have cP : w.cell? ⟨(st z).pb, 0, none⟩ = some (.map (some (st z).mb)) := by unfold World.cell?; rw [hr.blk]; rfl
  have hll := fun ty => hr.own.len Try.underlying85 ty
  rw [hr.rep.size] at hll
  clear h hr
  go_enter Try.func34, Try.ntmps34
  go_wp2_with fail
  go_ret
  exact ⟨rfl, rfl⟩

set_option maxHeartbeats 1000000 in
theorem since_any (h : PM w base mp tb qb inf t S st) {z : Int} (hz : z ∈ S) :
    Calls Try.prog 35 #[.pointer (some ⟨mp, 0, none⟩), .int .i64 z] w fun e w' => e = .returned (.int .u64 (st z).since) ∧ w' = w := by
  have c6 := h.c6
  have hlk := h.look hz
  have hr := (h.each z hz).1
  have cP : w.cell? ⟨(st z).pb, 1, none⟩ = some (.int .u64 (st z).since) := by unfold World.cell?; rw [hr.blk]; rfl
  clear h hr
  go_enter Try.func35, Try.ntmps35
  go_wp2_with fail
  go_ret
  exact ⟨rfl, rfl⟩

set_option maxHeartbeats 1000000 in
theorem last_any (h : PM w base mp tb qb inf t S st) {z ts tn v : Int} (hz : z ∈ S) (hm : ((ts, tn), v) ∈ (st z).L) :
    Calls Try.prog 36 #[.pointer (some ⟨mp, 0, none⟩), .int .i64 z, .int .i64 ts, .int .u64 tn] w fun e w' => e = .returned (.tuple #[.int .u64 v, .bool true]) ∧ w' = w := by
  have c6 := h.c6
  have hlk := h.look hz
  have hr := (h.each z hz).1
  have cP : w.cell? ⟨(st z).pb, 0, none⟩ = some (.map (some (st z).mb)) := by unfold World.cell?; rw [hr.blk]; rfl
  have hg := hr.rep.good _ hm
  have hrun : (Instr.lookup 85 (.map (some (st z).mb)) (.agg #[.int .i64 ts, .int .u64 tn]) true).run Try.prog w = .ok (.tuple #[.int .u64 v, .bool true]) w := by
    obtain ⟨u, ps, h1, h2⟩ := hr.own.look_ok key73 Try.underlying85 (zero23 w) (plainElem_int Try.underlying23 (WalkArith.wf_u64 (by omega) : (Lit.int .u64 0).wf = true)) (keyOf_tid hg.1 hg.2)
    have e1 : Maps.has (st z).D (tk ts tn) = true := (hr.rep.has (a := (ts, tn)) hg).2 ⟨v, hm⟩
    have e2 : (st z).D.atKey (tk ts tn) (.lit (.int .u64 0)) = .lit (.int .u64 v) := hr.rep.atKey hm _
    rw [e2] at h2
    obtain ⟨a, ea, eb, _⟩ := plainElem_int_inv Try.underlying23 h2
    simp at eb
    rw [show tidV ts tn = .agg #[.int .i64 ts, .int .u64 tn] from rfl] at h1
    rw [h1, e1, ea, eb.1]
  clear h hr
  go_enter Try.func36, Try.ntmps36
  go_wp2_with fail
  refine bodyPost_ret (v := .tuple #[.int .u64 v, .bool true]) (by simp [results, Try.results36, go_sem]) rfl ⟨rfl, rfl⟩
end

end Go.Proofs.Qxb6604710a
