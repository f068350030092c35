import Derived.Test.Qxb6604710aP5
namespace Go.Proofs.Qxb6604710a
open Go.RowKit Go.Maps

/-- How a pointer to the start of a block reads, for a map whose elements are such pointers: as the block's number. -/
def ptrR : Value → Option (DataW Unit × List MemPlace)
  | .pointer (some ⟨b, 0, none⟩) => some (.lit (.int .u64 b), [])
  | .pointer none => some (.agg [], [])
  | _ => none

theorem ptrR_mk (b : Nat) : ptrR (.pointer (some ⟨b, 0, none⟩)) = some (.lit (.int .u64 b), []) := rfl
theorem ptrR_nil : ptrR (.pointer none) = some (.agg [], []) := rfl

theorem ptrR_inv {v : Value} {b : Nat} {ps : List MemPlace} (h : ptrR v = some (.lit (.int .u64 b), ps)) : v = .pointer (some ⟨b, 0, none⟩) := by
  unfold ptrR at h
  split at h
  · simp at h
    rw [Int.ofNat_inj.1 h.1]
  · simp at h
  · cases h

theorem ptrR_inv_nil {v : Value} {ps : List MemPlace} (h : ptrR v = some (.agg [], ps)) : v = .pointer none := by
  unfold ptrR at h
  split at h
  · simp at h
  · rfl
  · cases h

def sitE : Enc Int Nat where
  good s := (Lit.int .i64 s).wf = true
  ek s := .int .i64 s
  ev b := .lit (.int .u64 b)
  inj := fun {a b} _ _ h => by simpa using h
  isk := fun _ => trivial

def txE : Enc (Int × Int) Nat where
  good k := (Lit.int .i64 k.1).wf = true ∧ (Lit.int .u64 k.2).wf = true
  ek k := tk k.1 k.2
  ev v := .lit (.int .u64 v)
  inj := fun {a b} ha hb h => by
    obtain ⟨e1, e2⟩ := tk_inj ha.1 ha.2 hb.1 hb.2 h
    exact Prod.ext e1 e2
  isk := fun _ => trivial

theorem zero84 (w : World) : (zeroValue 84).run Try.prog w = .ok (.pointer none) w := by kernel_rfl

theorem own_same {k : TypeId} {R : Value → Option (DataW Unit × List MemPlace)} {w w' : World} {b n : Nat} {D : DataW Unit} (h : w.ownsMap Try.prog k R b n D) (e : w'.heap[b]? = w.heap[b]?) : w'.ownsMap Try.prog k R b n D := by
  obtain ⟨es, clock, hb, r⟩ := h
  exact ⟨es, clock, e.trans hb, r⟩

theorem cell_not_map {k : TypeId} {R : Value → Option (DataW Unit × List MemPlace)} {w : World} {b b' o n : Nat} {v : Value} {D : DataW Unit} (h : w.ownsMap Try.prog k R b n D) (hc : w.cell? ⟨b', o, none⟩ = some v) : b' ≠ b := by
  rintro rfl
  obtain ⟨es, clock, hb, r⟩ := h
  unfold World.cell? at hc
  simp [hb] at hc

theorem lt_of_block {w : World} {b : Nat} {o : Obj} (h : w.heap[b]? = some o) : b < w.heap.size := by
  rcases Nat.lt_or_ge b w.heap.size with e | e
  · exact e
  · rw [Array.getElem?_eq_none e] at h; cases h

theorem lt_of_cell {w : World} {b o : Nat} {v : Value} (h : w.cell? ⟨b, o, none⟩ = some v) : b < w.heap.size := by
  rcases Nat.lt_or_ge b w.heap.size with e | e
  · exact e
  · simp [World.cell?, Array.getElem?_eq_none e] at h

/-- What is known of a site's records. -/
structure Sit where
  pb : Nat
  mb : Nat
  n : Nat
  D : DataW Unit
  since : Int
  L : List Ent

abbrev PRs (w : World) (x : Sit) : Prop := PR w x.pb x.mb x.since x.n x.D x.L

theorem PR.same {w w' : World} {pb mb n : Nat} {s : Int} {D : DataW Unit} {L : List Ent} (h : PR w pb mb s n D L) (e1 : w'.heap[pb]? = w.heap[pb]?) (e2 : w'.heap[mb]? = w.heap[mb]?) : PR w' pb mb s n D L :=
  ⟨e1.trans h.blk, own_same h.own e2, h.rep, h.wf⟩

/-- The merger, as the pass laws see it: its map of transactions in flight (inf of them), its map of sites (S) and each site's records. -/
structure PM (w : World) (base mp tb qb inf t : Nat) (S : List Int) (st : Int → Sit) : Prop where
  c0 : w.cell? ⟨mp, 0, none⟩ = some (.map (some tb))
  c6 : w.cell? ⟨mp, 6, none⟩ = some (.map (some qb))
  txns : ∃ n DT, w.ownsMap Try.prog 73 ptrR tb n DT ∧ Maps.size DT = inf
  passed : ∃ n DQ, w.ownsMap Try.prog 3 ptrR qb n DQ ∧ n ≤ t ∧ Rep sitE DQ (S.map fun z => (z, (st z).pb))
  each : ∀ z ∈ S, PRs w (st z) ∧ (st z).n ≤ t
  apart : ∀ z ∈ S, ∀ z' ∈ S, z ≠ z' → (st z).pb ≠ (st z').pb ∧ (st z).mb ≠ (st z').mb
  low : ∀ z ∈ S, base ≤ (st z).pb ∧ base ≤ (st z).mb ∧ (st z).pb ≠ mp ∧ (st z).mb ≠ tb ∧ (st z).mb ≠ qb
  own : base ≤ mp ∧ base ≤ tb ∧ base ≤ qb ∧ tb ≠ qb

/-- The blocks that a pass may turn. -/
def turns (qb : Nat) (S : List Int) (st : Int → Sit) (b : Nat) : Prop := b = qb ∨ ∃ z ∈ S, b = (st z).pb ∨ b = (st z).mb

section
variable {w w' : World} {base mp tb qb inf t : Nat} {S : List Int} {st : Int → Sit}

theorem PM.good (h : PM w base mp tb qb inf t S st) {z : Int} (hz : z ∈ S) : (Lit.int .i64 z).wf = true := by
  obtain ⟨n, DQ, _, _, hr⟩ := h.passed
  exact hr.good (z, (st z).pb) (List.mem_map.2 ⟨z, hz, rfl⟩)

theorem PM.nodup (h : PM w base mp tb qb inf t S st) : S.Nodup := by
  obtain ⟨n, DQ, _, _, hr⟩ := h.passed
  have := hr.nodup
  rw [List.map_map] at this
  simpa [Function.comp_def] using this

theorem PM.lts (h : PM w base mp tb qb inf t S st) : mp < w.heap.size ∧ tb < w.heap.size ∧ qb < w.heap.size ∧ ∀ z ∈ S, (st z).pb < w.heap.size ∧ (st z).mb < w.heap.size := by
  obtain ⟨n, DT, h1, _⟩ := h.txns
  obtain ⟨n, DQ, h2, _⟩ := h.passed
  exact ⟨lt_of_cell h.c0, h1.lt, h2.lt, fun z hz => ⟨lt_of_block (h.each z hz).1.blk, (h.each z hz).1.own.lt⟩⟩

theorem PM.turns_lt (h : PM w base mp tb qb inf t S st) {b : Nat} (hb : turns qb S st b) : b < w.heap.size ∧ base ≤ b := by
  obtain ⟨h1, h2, h3, h4⟩ := h.lts
  rcases hb with rfl | ⟨z, hz, rfl | rfl⟩
  · exact ⟨h3, h.own.2.2.1⟩
  · exact ⟨(h4 z hz).1, (h.low z hz).1⟩
  · exact ⟨(h4 z hz).2, (h.low z hz).2.1⟩

theorem PM.same (h : PM w base mp tb qb inf t S st) (hb : ∀ b, b < w.heap.size → base ≤ b → (b = mp ∨ b = tb ∨ turns qb S st b) → w'.heap[b]? = w.heap[b]?) : PM w' base mp tb qb inf t S st := by
  obtain ⟨l1, l2, l3, l4⟩ := h.lts
  obtain ⟨o1, o2, o3, o4⟩ := h.own
  have em := hb mp l1 o1 (Or.inl rfl)
  refine ⟨(World.cell?_of_block em).trans h.c0, (World.cell?_of_block em).trans h.c6, ?_, ?_, ?_, h.apart, h.low, h.own⟩
  · obtain ⟨n, DT, h1, h2⟩ := h.txns
    exact ⟨n, DT, own_same h1 (hb tb l2 o2 (Or.inr (Or.inl rfl))), h2⟩
  · obtain ⟨n, DQ, h1, h2⟩ := h.passed
    exact ⟨n, DQ, own_same h1 (hb qb l3 o3 (Or.inr (Or.inr (Or.inl rfl)))), h2⟩
  · intro z hz
    obtain ⟨h1, h2⟩ := h.each z hz
    exact ⟨h1.same (hb _ (l4 z hz).1 (h.low z hz).1 (Or.inr (Or.inr (Or.inr ⟨z, hz, Or.inl rfl⟩)))) (hb _ (l4 z hz).2 (h.low z hz).2.1 (Or.inr (Or.inr (Or.inr ⟨z, hz, Or.inr rfl⟩)))), h2⟩

theorem PM.alloc (h : PM w base mp tb qb inf t S st) (o : Obj) : PM (w.alloc o) base mp tb qb inf t S st := h.same fun _ hb _ _ => Below.heap_alloc _ _ _ hb
theorem PM.drewN (h : PM w base mp tb qb inf t S st) (q : Nat) : PM (w.drewN q) base mp tb qb inf t S st := h.same fun _ _ _ _ => rfl
theorem PM.up (h : PM w base mp tb qb inf t S st) {t' : Nat} (ht : t ≤ t') : PM w base mp tb qb inf t' S st := by
  refine ⟨h.c0, h.c6, h.txns, ?_, fun z hz => ⟨(h.each z hz).1, Nat.le_trans (h.each z hz).2 ht⟩, h.apart, h.low, h.own⟩
  obtain ⟨n, DQ, h1, h2, h3⟩ := h.passed
  exact ⟨n, DQ, h1, Nat.le_trans h2 ht, h3⟩

def updS (st : Int → Sit) (z : Int) (x : Sit) : Int → Sit := fun y => if y = z then x else st y

theorem updS_same (st : Int → Sit) (z : Int) (x : Sit) : updS st z x z = x := by simp [updS]
theorem updS_other {st : Int → Sit} {z y : Int} {x : Sit} (h : y ≠ z) : updS st z x y = st y := by simp [updS, h]

/-- One site's records have turned. -/
theorem PM.renew (h : PM w base mp tb qb inf t S st) {z : Int} (hz : z ∈ S) {x : Sit} {t' : Nat} (ht : t ≤ t') (e1 : x.pb = (st z).pb) (e2 : x.mb = (st z).mb) (hx : PRs w' x) (hn : x.n ≤ t')
    (hk : Kept (fun b => b = (st z).pb ∨ b = (st z).mb) w w') : PM w' base mp tb qb inf t' S (updS st z x) := by
  obtain ⟨l1, l2, l3, l4⟩ := h.lts
  obtain ⟨o1, o2, o3, o4⟩ := h.own
  have hzr := (h.each z hz).1
  have lz := h.low z hz
  have blk : ∀ b, b < w.heap.size → b ≠ (st z).pb → b ≠ (st z).mb → w'.heap[b]? = w.heap[b]? := fun b hb n1 n2 => hk.block b hb (fun e => by rcases e with e | e; exact n1 e; exact n2 e)
  have cpb : w.cell? ⟨(st z).pb, 0, none⟩ = some (.map (some (st z).mb)) := by unfold World.cell?; rw [hzr.blk]; rfl
  have em := blk mp l1 lz.2.2.1.symm (cell_not_map hzr.own h.c0)
  have hpbs : ∀ y, (updS st z x y).pb = (st y).pb := by
    intro y
    by_cases e : y = z
    · subst e; rw [updS_same, e1]
    · rw [updS_other e]
  have hmbs : ∀ y, (updS st z x y).mb = (st y).mb := by
    intro y
    by_cases e : y = z
    · subst e; rw [updS_same, e2]
    · rw [updS_other e]
  refine ⟨(World.cell?_of_block em).trans h.c0, (World.cell?_of_block em).trans h.c6, ?_, ?_, ?_, ?_, ?_, h.own⟩
  · obtain ⟨n, DT, h1, h2⟩ := h.txns
    exact ⟨n, DT, own_same h1 (blk tb l2 (cell_not_map h1 cpb).symm lz.2.2.2.1.symm), h2⟩
  · obtain ⟨n, DQ, h1, h2, h3⟩ := h.passed
    refine ⟨n, DQ, own_same h1 (blk qb l3 (cell_not_map h1 cpb).symm lz.2.2.2.2.symm), Nat.le_trans h2 ht, ?_⟩
    simp only [hpbs]
    exact h3
  · intro y hy
    by_cases e : y = z
    · subst e; rw [updS_same]; exact ⟨hx, hn⟩
    · rw [updS_other e]
      obtain ⟨h1, h2⟩ := h.each y hy
      have ha := h.apart y hy z hz e
      have cpy : w.cell? ⟨(st y).pb, 0, none⟩ = some (.map (some (st y).mb)) := by unfold World.cell?; rw [h1.blk]; rfl
      exact ⟨h1.same (blk _ (l4 y hy).1 ha.1 (cell_not_map hzr.own cpy)) (blk _ (l4 y hy).2 (cell_not_map h1.own cpb).symm ha.2), Nat.le_trans h2 ht⟩
  · intro y hy y' hy' hne
    rw [hpbs, hpbs, hmbs, hmbs]
    exact h.apart y hy y' hy' hne
  · intro y hy
    rw [hpbs, hmbs]
    exact h.low y hy

end

end Go.Proofs.Qxb6604710a
