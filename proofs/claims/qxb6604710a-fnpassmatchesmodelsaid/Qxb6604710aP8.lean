import Derived.Test.Qxb6604710aP7
namespace Go.Proofs.Qxb6604710a
open Go.RowKit Go.Maps

def putL (k : Int × Int) (v : Int) (L : List Ent) : List Ent := (k, v) :: L.filter (fun p => decide (p.1 ≠ k))

section
variable {w w' : World} {base mp tb qb inf t : Nat} {S : List Int} {st : Int → Sit}

theorem PM.look (h : PM w base mp tb qb inf t S st) {z : Int} (hz : z ∈ S) : (Instr.lookup 69 (.map (some qb)) (.int .i64 z) false).run Try.prog w = .ok (.pointer (some ⟨(st z).pb, 0, none⟩)) w := by
  have hg := h.good hz
  obtain ⟨n, DQ, h1, _, h3⟩ := h.passed
  obtain ⟨v, ps, hrun, hv⟩ := h1.lookup key3 Try.underlying69 (zero84 w) ptrR_nil (keyOf_int_mk Try.underlying3 hg)
  have := h3.atKey (a := z) (b := (st z).pb) (List.mem_map.2 ⟨z, hz, rfl⟩) (.agg [])
  rw [show sitE.ek z = Lit.int .i64 z from rfl] at this
  rw [this] at hv
  rw [hrun, ptrR_inv hv]

theorem PM.look_none (h : PM w base mp tb qb inf t S st) {z : Int} (hz : z ∉ S) (hg : (Lit.int .i64 z).wf = true) : (Instr.lookup 69 (.map (some qb)) (.int .i64 z) false).run Try.prog w = .ok (.pointer none) w := by
  obtain ⟨n, DQ, h1, _, h3⟩ := h.passed
  obtain ⟨v, ps, hrun, hv⟩ := h1.lookup key3 Try.underlying69 (zero84 w) ptrR_nil (keyOf_int_mk Try.underlying3 hg)
  have hh : Maps.has DQ (Lit.int .i64 z) = false := h3.has_false (a := z) hg (by
    intro b hb
    obtain ⟨y, hy, e⟩ := List.mem_map.1 hb
    cases e
    exact hz hy)
  rw [Maps.atKey_of_not_has hh] at hv
  rw [hrun, ptrR_inv_nil hv]

/-- A site's map takes a record's place, in whatever order the statement runs. -/
theorem PM.put (h : PM w base mp tb qb inf t S st) {z ts tn v : Int} (hz : z ∈ S) (h1 : (Lit.int .i64 ts).wf = true) (h2 : (Lit.int .u64 tn).wf = true) (h3 : (Lit.int .u64 v).wf = true) (ht : t ≤ 100000) :
    ∃ f : Nat → World, (∀ q, (Instr.mapUpdate 85 (.map (some (st z).mb)) (.agg #[.int .i64 ts, .int .u64 tn]) (.int .u64 v)).run Try.prog (w.drewN q) = .ok () (f q)) ∧
      ∀ q, PM (f q) base mp tb qb inf (t + 1) S (updS st z { st z with n := (st z).n + 1, D := (st z).D.put (tk ts tn) (.lit (.int .u64 v)), L := putL (ts, tn) v (st z).L }) ∧ Kept (fun b => b = (st z).mb) w (f q) := by
  have key : ∀ q, ∃ w', (Instr.mapUpdate 85 (.map (some (st z).mb)) (.agg #[.int .i64 ts, .int .u64 tn]) (.int .u64 v)).run Try.prog (w.drewN q) = .ok () w' ∧
      PM w' base mp tb qb inf (t + 1) S (updS st z { st z with n := (st z).n + 1, D := (st z).D.put (tk ts tn) (.lit (.int .u64 v)), L := putL (ts, tn) v (st z).L }) ∧ Kept (fun b => b = (st z).mb) w w' := by
    intro q
    have hq := h.drewN q
    obtain ⟨hp, hn⟩ := hq.each z hz
    obtain ⟨w', hrun, ho, htu⟩ := hp.own.store key73 Try.underlying85 (by unfold maxLen; omega) (keyOf_tid h1 h2) (plainElem_int Try.underlying23 h3)
    have hgr := htu.grown
    refine ⟨w', hrun, ?_, ?_⟩
    · refine hq.renew hz (Nat.le_succ t) rfl rfl ⟨?_, ho, hp.rep.put (a := (ts, tn)) ⟨h1, h2⟩ v, ?_⟩ (by show (st z).n + 1 ≤ t + 1; omega) ((Kept.refl _ _).grown hgr (fun k e => by cases e; exact Or.inr rfl))
      · show w'.heap[(st z).pb]? = _
        rw [hgr.block _ (lt_of_block hp.blk) (by intro e; simp at e; exact hp.ne e.symm)]
        exact hp.blk
      · intro p hpm
        rcases List.mem_cons.1 hpm with rfl | hpm
        · exact h3
        · exact hp.wf p (List.mem_filter.1 hpm).1
    · exact ((Kept.refl _ w).drewN q).grown hgr (fun k e => by cases e; rfl)
  exact ⟨fun q => Classical.choose (key q), fun q => (Classical.choose_spec (key q)).1, fun q => (Classical.choose_spec (key q)).2⟩

/-- A site that the merger does not yet know gets its records. -/
theorem PM.fresh (h : PM w base mp tb qb inf t S st) {z : Int} (hz : z ∉ S) (hg : (Lit.int .i64 z).wf = true) (ht : t ≤ 100000) (hb : base ≤ w.heap.size) :
    ∃ w2, (Instr.mapUpdate 69 (.map (some qb)) (.int .i64 z) (.pointer (some ⟨w.heap.size + 1, 0, none⟩))).run Try.prog ((w.alloc (.map #[] 0)).alloc (.cells #[.map (some w.heap.size), .int .u64 0] 87)) = .ok () w2 ∧
      PM w2 base mp tb qb inf (t + 1) (z :: S) (updS st z ⟨w.heap.size + 1, w.heap.size, 0, .map [], 0, []⟩) ∧ Kept (fun b => b = qb) w w2 ∧ w.heap.size + 2 ≤ w2.heap.size := by
  have hp := (h.alloc (.map #[] 0)).alloc (.cells #[.map (some w.heap.size), .int .u64 0] 87)
  have hs : ((w.alloc (.map #[] 0)).alloc (.cells #[.map (some w.heap.size), .int .u64 0] 87)).heap.size = w.heap.size + 2 := by simp
  have hk0 : Kept (fun b => b = qb) w ((w.alloc (.map #[] 0)).alloc (.cells #[.map (some w.heap.size), .int .u64 0] 87)) := ((Kept.refl _ w).alloc _).alloc _
  have b1 : ((w.alloc (.map #[] 0)).alloc (.cells #[.map (some w.heap.size), .int .u64 0] 87)).heap[w.heap.size + 1]? = some (.cells #[.map (some w.heap.size), .int .u64 0] 87 (0, 0)) := by
    have := heap_alloc_new (w.alloc (.map #[] 0)) (.cells #[.map (some w.heap.size), .int .u64 0] 87)
    simpa using this
  have b0 : ((w.alloc (.map #[] 0)).alloc (.cells #[.map (some w.heap.size), .int .u64 0] 87)).ownsMap Try.prog 73 (plainElem (H := Unit) Try.prog 23) w.heap.size 0 (.map []) :=
    (World.ownsMap_made w Try.prog 73 _).alloc _
  obtain ⟨l1, l2, l3, l4⟩ := h.lts
  generalize (w.alloc (.map #[] 0)).alloc (.cells #[.map (some w.heap.size), .int .u64 0] 87) = w1 at *
  obtain ⟨n, DQ, o1, o2, o3⟩ := hp.passed
  obtain ⟨w2, hrun, ho, htu⟩ := o1.store key3 Try.underlying69 (by unfold maxLen; omega) (keyOf_int_mk Try.underlying3 hg) (ptrR_mk (w.heap.size + 1))
  have hgr := htu.grown
  have blk : ∀ b, b < w1.heap.size → b ≠ qb → w2.heap[b]? = w1.heap[b]? := fun b hb hne => hgr.block b hb (by intro e; simp at e; exact hne e)
  have em := blk mp (by omega) (cell_not_map o1 hp.c0)
  refine ⟨w2, hrun, ⟨(World.cell?_of_block em).trans hp.c0, (World.cell?_of_block em).trans hp.c6, ?_, ?_, ?_, ?_, ?_, h.own⟩, hk0.grown hgr (fun k e => by cases e; rfl), by rw [← hs]; exact hgr.size⟩
  · obtain ⟨n, DT, x1, x2⟩ := hp.txns
    exact ⟨n, DT, own_same x1 (blk tb (by omega) h.own.2.2.2), x2⟩
  · refine ⟨n + 1, _, ho, by omega, ?_⟩
    have := o3.put (a := z) hg (w.heap.size + 1)
    have e : ((S.map fun y => (y, (st y).pb)).filter fun p => decide (p.1 ≠ z)) = S.map fun y => (y, (updS st z ⟨w.heap.size + 1, w.heap.size, 0, .map [], 0, []⟩ y).pb) := by
      rw [List.filter_eq_self.2]
      · apply List.map_congr_left
        intro y hy
        have hne : y ≠ z := by
          rintro rfl
          exact hz hy
        rw [updS_other hne]
      · intro p hp
        obtain ⟨y, hy, rfl⟩ := List.mem_map.1 hp
        simp only [decide_eq_true_eq, ne_eq]
        rintro rfl
        exact hz hy
    rw [e] at this
    rw [List.map_cons, updS_same]
    exact this
  · intro y hy
    by_cases e : y = z
    · subst e
      rw [updS_same]
      refine ⟨⟨?_, own_same b0 (blk w.heap.size (by omega) (by omega)), rep_empty _, by simp⟩, Nat.zero_le _⟩
      show w2.heap[w.heap.size + 1]? = _
      rw [blk _ (by omega) (by omega), b1]
    · rw [updS_other e]
      have hy' : y ∈ S := by
        rcases List.mem_cons.1 hy with e' | hy'
        · exact absurd e' e
        · exact hy'
      obtain ⟨x1, x2⟩ := hp.each y hy'
      have cpy : w1.cell? ⟨(st y).pb, 0, none⟩ = some (.map (some (st y).mb)) := by unfold World.cell?; rw [x1.blk]; rfl
      have := l4 y hy'
      exact ⟨x1.same (blk _ (by omega) (cell_not_map o1 cpy)) (blk _ (by omega) (h.low y hy').2.2.2.2), Nat.le_succ_of_le x2⟩
  · intro y hy y' hy' hne
    by_cases e : y = z
    · subst e
      have hm : y' ∈ S := by
        rcases List.mem_cons.1 hy' with e' | h'
        · exact absurd e'.symm hne
        · exact h'
      rw [updS_same, updS_other (Ne.symm hne)]
      have := l4 y' hm
      show w.heap.size + 1 ≠ _ ∧ w.heap.size ≠ _
      omega
    · have hm : y ∈ S := by
        rcases List.mem_cons.1 hy with e' | h'
        · exact absurd e' e
        · exact h'
      rw [updS_other e]
      by_cases e2 : y' = z
      · subst e2
        rw [updS_same]
        have := l4 y hm
        show _ ≠ w.heap.size + 1 ∧ _ ≠ w.heap.size
        omega
      · have hm' : y' ∈ S := by
          rcases List.mem_cons.1 hy' with e' | h'
          · exact absurd e' e2
          · exact h'
        rw [updS_other e2]
        exact h.apart y hm y' hm' hne
  · intro y hy
    by_cases e : y = z
    · subst e
      rw [updS_same]
      have := h.own
      show base ≤ w.heap.size + 1 ∧ base ≤ w.heap.size ∧ w.heap.size + 1 ≠ mp ∧ w.heap.size ≠ tb ∧ w.heap.size ≠ qb
      omega
    · rw [updS_other e]
      rcases List.mem_cons.1 hy with e' | h'
      · exact absurd e' e
      · exact h.low y h'

end

end Go.Proofs.Qxb6604710a
