import Derived.Test.Qxb6604710aP5
import Derived.Test.Qxb6604710aP3
namespace Go.Proofs.Qxb6604710a
open Go.RowKit Go.Maps

theorem info23 : (Try.prog.info? 23).map (fun i => (i.zero, i.size, i.bytes)) = some (some (.int .u64 0), 1, 8) := by kernel_rfl

def uv (v : Int) : Value := .int .u64 v

theorem grownBy_setCell (w : World) (b o : Nat) (u : Value) : w.grownBy (w.setCell ⟨b, o, none⟩ u) (some b) :=
  ⟨rfl, rfl, rfl, by simp [World.setCell], fun i _ hi => Below.heap_setCell _ _ _ _ (fun e => hi (by rw [e]))⟩

theorem invK : ∀ key kl, keyOf Try.prog 73 key = some kl → ∃ p : Int × Int, key = tidV p.1 p.2 := fun _ _ h => by
  obtain ⟨s, n, e, _⟩ := keyOf_tid_inv h
  exact ⟨(s, n), e⟩

theorem invV : ∀ v y, plainElem (H := Unit) Try.prog 23 v = some y → ∃ c : Int, v = uv c := fun _ _ h => by
  obtain ⟨a, e, _⟩ := plainElem_int_inv Try.underlying23 h
  exact ⟨a, e⟩

/-- What a step of the range tells of the entry that came. -/
theorem came {D : DataW Unit} {L : List Ent} (hrep : Rep tidE D L) {p : Int × Int} {c : Int} {kl : Lit} {y : DataW Unit × List MemPlace} (hkey : keyOf Try.prog 73 (tidV p.1 p.2) = some kl)
    (hv : plainElem (H := Unit) Try.prog 23 (uv c) = some y) (hat : ∀ zd, D.atKey kl zd = y.1) : kl = tidE.ek p ∧ (p, c) ∈ L ∧ (Lit.int .u64 c).wf = true := by
  obtain ⟨s, n, e, rfl, ws, wn⟩ := keyOf_tid_inv hkey
  have e' : p.1 = s ∧ p.2 = n := by simpa [tidV] using e
  obtain ⟨rfl, rfl⟩ := e'
  obtain ⟨a, ea, rfl, wa⟩ := plainElem_int_inv Try.underlying23 hv
  have : c = a := by simpa [uv] using ea
  subst this
  exact ⟨rfl, hrep.of_at (k := p) ⟨ws, wn⟩ hat, wa⟩

/-- The step of a range over a map of names to numbers. -/
theorem wpList_next_tid (w : World) {ops : Array Oper} {rest : List Oper} {o : Oper} {a : Act} {Q : Exit → Act → World → Prop} (hg : o.guard = none) (it : Operand) (hop : o.op = Op.next it false)
    (b r n : Nat) (D : DataW Unit) (L : List Ent) (hrep : Rep tidE D L) (left : Lit → Bool) (cnt : Nat) (hit : a.eval it = .pointer (some ⟨r, 0, none⟩))
    (h : w.ranges Try.prog 73 (plainElem (H := Unit) Try.prog 23) b r n D left cnt)
    (hDone : (∀ kl, left kl = false) → wpList Try.prog ops Q rest (a.put o.dst (.tuple #[.bool false])) w)
    (hMore : ∀ (s m c : Int) (w' : World) (cnt' : Nat), ((s, m), c) ∈ L → left (tk s m) = true → (Lit.int .i64 s).wf = true → (Lit.int .u64 m).wf = true → (Lit.int .u64 c).wf = true →
      w'.ranges Try.prog 73 (plainElem (H := Unit) Try.prog 23) b r n D (fun z => left z && !z.sameKey (tk s m)) cnt' → cnt' < cnt → w.grownBy w' (some r) → w'.heap.size = w.heap.size →
      (Instr.entry (.pointer (some ⟨r, 0, none⟩))).run Try.prog w' = .ok (.tuple #[.agg #[.int .i64 s, .int .u64 m], .int .u64 c]) w' →
      wpList Try.prog ops Q rest (a.put o.dst (.tuple #[.bool true, .agg #[.int .i64 s, .int .u64 m], .int .u64 c])) w') :
    wpList Try.prog ops Q (o :: rest) a w := by
  refine wpList_next_ranges w hg it hop 73 key73 _ (fun p : Int × Int => tidV p.1 p.2) uv invK invV b r n D left cnt hit h (fun _ hl => hDone hl) ?_
  intro p c kl y w' cnt' hkey hlk hv hat hrg hlt hgr hsz hen
  obtain ⟨rfl, hm, hwc⟩ := came hrep hkey hv hat
  have hgd := hrep.good _ hm
  exact hMore p.1 p.2 c w' cnt' hm hlk hgd.1 hgd.2 hwc hrg hlt hgr hsz hen

theorem row_form {w : World} {base : Nat} {e : TypeId} {size : Nat} {v : Value} {n : Nat} {xs : List Value} (h : w.ownsRow base e size v (n + 1) xs) : ∃ g cap, v = .slice (some ⟨g, 0, none⟩) (n + 1) cap := by
  rcases h.2 with ⟨_, h0⟩ | ⟨g, cap, cur, hv, _⟩
  · omega
  · exact ⟨g, cap, hv⟩

/-- The first loop of 'trim' under way: the row in the box at B holds the values whose keys have come. -/
structure Coll (w : World) (mb n B : Nat) (D : DataW Unit) (L : List Ent) (left : Lit → Bool) (cnt : Nat) (vs : List Int) (v : Value) (wr : World) : Prop where
  rg : wr.ranges Try.prog 73 (plainElem (H := Unit) Try.prog 23) mb (B + 1) n D left cnt
  perm : vs.Perm (gone left L)
  box : wr.heap[B]? = some (.cells #[v] 53 (0, 0))
  row : wr.ownsRow w.heap.size 23 1 v vs.length (vs.map uv)
  nB : v.ownBlock ≠ some B
  nI : v.ownBlock ≠ some (B + 1)
  bel : Below w.heap.size w wr
  size : B + 2 ≤ wr.heap.size

theorem Coll.cellB {w : World} {mb n B : Nat} {D : DataW Unit} {L : List Ent} {left : Lit → Bool} {cnt : Nat} {vs : List Int} {v : Value} {wr : World} (h : Coll w mb n B D L left cnt vs v wr) :
    wr.cell? ⟨B, 0, none⟩ = some v := by unfold World.cell?; rw [h.box]; rfl

theorem Coll.frozenB {w : World} {mb n B : Nat} {D : DataW Unit} {L : List Ent} {left : Lit → Bool} {cnt : Nat} {vs : List Int} {v : Value} {wr : World} (h : Coll w mb n B D L left cnt vs v wr) :
    wr.frozen? ⟨B, 0, none⟩ = false := by unfold World.frozen?; rw [h.box]; rfl

theorem Coll.len {w : World} {mb n B : Nat} {D : DataW Unit} {L : List Ent} {left : Lit → Bool} {cnt : Nat} {vs : List Int} {v : Value} {wr : World} (h : Coll w mb n B D L left cnt vs v wr) :
    vs.length ≤ L.length := by
  rw [h.perm.length_eq]
  unfold gone
  rw [List.length_map]
  exact List.length_filter_le _ _

/-- An entry has come (w1), its value was laid into a block (o), appended (w2) and the box set. -/
theorem Coll.step {w : World} {mb n B : Nat} {D : DataW Unit} {L : List Ent} {left : Lit → Bool} {cnt : Nat} {vs : List Int} {v : Value} {wr : World} (h : Coll w mb n B D L left cnt vs v wr)
    (hrep : Rep tidE D L) (hmw : mb < w.heap.size) (hwB : w.heap.size ≤ B) {k : Int × Int} {c : Int} (hm : (k, c) ∈ L) (hl : left (tidE.ek k) = true) {w1 : World} {cnt1 : Nat}
    (hr1 : w1.ranges Try.prog 73 (plainElem (H := Unit) Try.prog 23) mb (B + 1) n D (fun z => left z && !z.sameKey (tidE.ek k)) cnt1) (hg1 : wr.grownBy w1 (some (B + 1))) (o : Obj) {v' : Value} {w2 : World}
    (ho2 : w2.ownsRow w.heap.size 23 1 v' (vs.length + 1) (vs.map uv ++ [uv c])) (hg2 : (w1.alloc o).grownBy w2 v.ownBlock) (hloc : v'.ownBlock = v.ownBlock ∨ v'.ownBlock = some (w1.alloc o).heap.size) :
    Coll w mb n B D L (fun z => left z && !z.sameKey (tidE.ek k)) cnt1 (vs ++ [c]) v' (w2.setCell ⟨B, 0, none⟩ v') := by
  have hs1 := hg1.size
  have hs2 := hg2.size
  have hsz := h.size
  have ha : (w1.alloc o).heap.size = w1.heap.size + 1 := by simp
  rw [ha] at hs2
  have hvB : v'.ownBlock ≠ some B := by
    rcases hloc with e | e
    · rw [e]; exact h.nB
    · rw [e, ha]; intro e2; cases e2; omega
  have hvI : v'.ownBlock ≠ some (B + 1) := by
    rcases hloc with e | e
    · rw [e]; exact h.nI
    · rw [e, ha]; intro e2; simp at e2; omega
  have hmv : some mb ≠ v.ownBlock := by
    intro e
    have := (h.row.lt mb e.symm).1
    omega
  have b1 : w1.heap[B]? = wr.heap[B]? := hg1.block B (by omega) (by intro e; simp at e)
  have b2 : w2.heap[B]? = (w1.alloc o).heap[B]? := hg2.block B (by rw [ha]; omega) (fun e => h.nB e.symm)
  have b3 : (w1.alloc o).heap[B]? = w1.heap[B]? := Below.heap_alloc _ _ _ (by omega)
  have hbx : w2.heap[B]? = some (.cells #[v] 53 (0, 0)) := by rw [b2, b3, b1]; exact h.box
  refine ⟨?_, ?_, ?_, ?_, hvB, hvI, ?_, ?_⟩
  · exact ((hr1.alloc o).kept hg2 hmv (fun e => h.nI e.symm)).kept (grownBy_setCell w2 B 0 v') (by intro e; simp at e; omega) (by intro e; simp at e)
  · exact (List.Perm.append_right [c] h.perm).trans (gone_step hrep hm hl).symm
  · rw [show (w2.setCell ⟨B, 0, none⟩ v').heap[B]? = _ from heap_setCell_same w2 B 0 #[v] 53 v' hbx]; rfl
  · have := ho2.kept (grownBy_setCell w2 B 0 v') (Or.inr hvB)
    simpa using this
  · refine Below.setCell ?_ (by show w.heap.size ≤ B; exact hwB) _
    refine Below.grown ((h.bel.grown hg1 h.bel.size ?_).alloc (by omega) o) hg2 (by rw [ha]; omega) ?_
    · intro j e; cases e; omega
    · intro j e; exact (h.row.lt j e).1
  · simp [World.setCell]; omega

theorem Kept.by {g : Nat} {a b : World} (h : Kept (· = g) a b) : a.grownBy b (some g) :=
  ⟨h.os, h.tape, h.output, h.size, fun i hi hne => h.block i hi (fun e => hne (by rw [e]))⟩

theorem sort_list (g cap B n : Nat) (vs : List Int) (hn : vs.length = n) (h2 : 2 ≤ n) (hsz : n ≤ 100000) (w : World) (hH : Sort.Holds (Value.int .u64) w g 0 vs.toArray) (hg : g < w.heap.size) (hB : B < w.heap.size) (hne : B ≠ g)
    (hs : w.cell? ⟨B, 0, none⟩ = some (.slice (some ⟨g, 0, none⟩) n cap)) :
    Calls Try.prog 52 #[.iface 53 (.slice (some ⟨g, 0, none⟩) n cap), .func (.func 53) #[] #[.pointer (some ⟨B, 0, none⟩)]] w fun e w' =>
      e = .returned (.tuple #[]) ∧ ∃ d : Array Int, d.size = n ∧ d.toList.Perm vs ∧ (∀ i j, i < j → j < d.size → d[i]! ≤ d[j]!) ∧ Sort.Holds (Value.int .u64) w' g 0 d ∧ Kept (· = g) w w' := by
  subst hn
  have h := sort_any g cap B vs.toArray (by simpa using h2) (by simp; omega) w hH hg hB hne (by simpa using hs)
  simp only [List.size_toArray] at h
  exact h.mono fun e w' ⟨he, d, a, b, c, x, y⟩ => ⟨he, d, a, b, fun i j h1 h2 => c i j h1 (by omega), x, y⟩

/-- The first loop is over. -/
theorem Coll.fin {w : World} {mb n B : Nat} {D : DataW Unit} {L : List Ent} {left : Lit → Bool} {cnt : Nat} {vs : List Int} {v : Value} {wr : World} (h : Coll w mb n B D L left cnt vs v wr) (hl : ∀ kl, left kl = false) (h2 : 2 ≤ L.length) :
    ∃ g cap, v = .slice (some ⟨g, 0, none⟩) vs.length cap ∧ vs.Perm (L.map Prod.snd) ∧ vs.length = L.length ∧ Sort.Holds (Value.int .u64) wr g 0 vs.toArray ∧ w.heap.size ≤ g ∧ g < wr.heap.size ∧ g ≠ B := by
  have hp := h.perm
  rw [gone_end hl] at hp
  have hlen : vs.length = L.length := by rw [hp.length_eq]; simp
  have hrow := h.row
  obtain ⟨m, hm⟩ : ∃ m, vs.length = m + 1 := ⟨vs.length - 1, by omega⟩
  obtain ⟨g, cap, rfl⟩ : ∃ g cap, v = .slice (some ⟨g, 0, none⟩) vs.length cap := by
    rw [hm] at hrow ⊢
    exact row_form hrow
  have hlt := hrow.lt g rfl
  refine ⟨g, cap, rfl, hp, hlen, ?_, hlt.1, hlt.2, fun e => h.nB (by simp [Value.ownBlock, e])⟩
  intro j hj
  have hj' : j < vs.length := by simpa using hj
  rw [Nat.zero_add]
  refine ⟨?_, hrow.frozenAt j⟩
  rw [hrow.cellAt j (by omega)]
  simp [hj', uv, getElem!_pos]

/-- The second loop of 'trim' under way. -/
structure Swp (w : World) (pb mb n R2 : Nat) (L : List Ent) (s : Int) (left : Lit → Bool) (cnt : Nat) (D' : DataW Unit) (wr : World) : Prop where
  rg : wr.ranges Try.prog 73 (plainElem (H := Unit) Try.prog 23) mb R2 n D' left cnt
  rep : Rep tidE D' (stay left s L)
  blk : wr.heap[pb]? = some (.cells #[.map (some mb), .int .u64 s] 87 (0, 0))
  kept : Kept (fun b => b = pb ∨ b = mb) w wr

theorem Swp.c0 {w : World} {pb mb n R2 : Nat} {L : List Ent} {s : Int} {left : Lit → Bool} {cnt : Nat} {D' : DataW Unit} {wr : World} (h : Swp w pb mb n R2 L s left cnt D' wr) :
    wr.cell? ⟨pb, 0, none⟩ = some (.map (some mb)) := by unfold World.cell?; rw [h.blk]; rfl
theorem Swp.c1 {w : World} {pb mb n R2 : Nat} {L : List Ent} {s : Int} {left : Lit → Bool} {cnt : Nat} {D' : DataW Unit} {wr : World} (h : Swp w pb mb n R2 L s left cnt D' wr) :
    wr.cell? ⟨pb, 1, none⟩ = some (.int .u64 s) := by unfold World.cell?; rw [h.blk]; rfl

/-- The step of the iterator and the box of the key: nothing but the iterator has turned. -/
theorem Swp.next {w : World} {pb mb n R2 : Nat} {L : List Ent} {s : Int} {left : Lit → Bool} {cnt : Nat} {D' : DataW Unit} {wr : World} (h : Swp w pb mb n R2 L s left cnt D' wr) (hR : w.heap.size ≤ R2) (hpl : pb < w.heap.size)
    {left' : Lit → Bool} {cnt' : Nat} {w1 : World} (hr1 : w1.ranges Try.prog 73 (plainElem (H := Unit) Try.prog 23) mb R2 n D' left' cnt') (hg : wr.grownBy w1 (some R2)) (hst : stay left s L = stay left' s L) (o : Obj) :
    Swp w pb mb n R2 L s left' cnt' D' (w1.alloc o) := by
  refine ⟨hr1.alloc o, hst ▸ h.rep, ?_, ?_⟩
  · rw [Below.heap_alloc _ _ _ (by have := h.kept.size; have := hg.size; omega), hg.block pb (by have := h.kept.size; omega) (by intro e; simp at e; omega)]
    exact h.blk
  · refine Kept.alloc ?_ o
    exact ⟨hg.os.trans h.kept.os, hg.tape.trans h.kept.tape, hg.output.trans h.kept.output, Nat.le_trans h.kept.size hg.size, fun k hk hx =>
      (hg.block k (by have := h.kept.size; omega) (by intro e; simp at e; omega)).trans (h.kept.block k hk hx)⟩

/-- An entry has come and its key lies in a box. -/
structure Swp1 (w : World) (pb mb n R2 : Nat) (L : List Ent) (s : Int) (left left' : Lit → Bool) (cnt : Nat) (D' : DataW Unit) (wr : World) : Prop where
  rg : wr.ranges Try.prog 73 (plainElem (H := Unit) Try.prog 23) mb R2 n D' left' cnt
  rep : Rep tidE D' (stay left s L)
  blk : wr.heap[pb]? = some (.cells #[.map (some mb), .int .u64 s] 87 (0, 0))
  kept : Kept (fun b => b = pb ∨ b = mb) w wr

theorem Swp1.c0 {w : World} {pb mb n R2 : Nat} {L : List Ent} {s : Int} {left left' : Lit → Bool} {cnt : Nat} {D' : DataW Unit} {wr : World} (h : Swp1 w pb mb n R2 L s left left' cnt D' wr) :
    wr.cell? ⟨pb, 0, none⟩ = some (.map (some mb)) := by unfold World.cell?; rw [h.blk]; rfl
theorem Swp1.c1 {w : World} {pb mb n R2 : Nat} {L : List Ent} {s : Int} {left left' : Lit → Bool} {cnt : Nat} {D' : DataW Unit} {wr : World} (h : Swp1 w pb mb n R2 L s left left' cnt D' wr) :
    wr.cell? ⟨pb, 1, none⟩ = some (.int .u64 s) := by unfold World.cell?; rw [h.blk]; rfl

theorem Swp1.mk' {w : World} {pb mb n R2 : Nat} {L : List Ent} {s : Int} {left : Lit → Bool} {cnt : Nat} {D' : DataW Unit} {wr : World} (h : Swp w pb mb n R2 L s left cnt D' wr) (hR : w.heap.size ≤ R2) (hpl : pb < w.heap.size)
    {left' : Lit → Bool} {cnt' : Nat} {w1 : World} (hr1 : w1.ranges Try.prog 73 (plainElem (H := Unit) Try.prog 23) mb R2 n D' left' cnt') (hg : wr.grownBy w1 (some R2)) (o : Obj) :
    Swp1 w pb mb n R2 L s left left' cnt' D' (w1.alloc o) := by
  refine ⟨hr1.alloc o, h.rep, ?_, ?_⟩
  · rw [Below.heap_alloc _ _ _ (by have := h.kept.size; have := hg.size; omega), hg.block pb (by have := h.kept.size; omega) (by intro e; simp at e; omega)]
    exact h.blk
  · refine Kept.alloc ?_ o
    exact ⟨hg.os.trans h.kept.os, hg.tape.trans h.kept.tape, hg.output.trans h.kept.output, Nat.le_trans h.kept.size hg.size, fun k hk hx =>
      (hg.block k (by have := h.kept.size; omega) (by intro e; simp at e; omega)).trans (h.kept.block k hk hx)⟩

theorem Swp1.drewN {w : World} {pb mb n R2 : Nat} {L : List Ent} {s : Int} {left left' : Lit → Bool} {cnt : Nat} {D' : DataW Unit} {wr : World} (h : Swp1 w pb mb n R2 L s left left' cnt D' wr) (q : Nat) :
    Swp1 w pb mb n R2 L s left left' cnt D' (wr.drewN q) :=
  ⟨h.rg, h.rep, h.blk, h.kept.drewN q⟩

/-- The key that has come is deleted, in whatever order the statement runs. -/
theorem Swp1.drop {w : World} {pb mb n R2 : Nat} {L : List Ent} {s : Int} {left : Lit → Bool} {ks km c : Int} {cnt : Nat} {D D' : DataW Unit} {wr : World} (h : Swp1 w pb mb n R2 L s left (fun z => left z && !z.sameKey (tidE.ek (ks, km))) cnt D' wr)
    (hrep : Rep tidE D L) (hpm : mb ≠ pb) (hm : ((ks, km), c) ∈ L) (hc : c < s) :
    ∃ f : Nat → TypeId → World, (∀ q ty, (Builtin.delete_ #[85, 73] ty #[.map (some mb), .agg #[.int .i64 ks, .int .u64 km]]).run Try.prog (wr.drewN q) = .ok (.tuple #[]) (f q ty)) ∧
      ∀ q ty, ∃ cnt' D'', cnt' ≤ cnt ∧ Swp w pb mb n R2 L s (fun z => left z && !z.sameKey (tidE.ek (ks, km))) cnt' D'' (f q ty) := by
  have hgd := hrep.good _ hm
  have key : ∀ q ty, ∃ w', (Builtin.delete_ #[85, 73] ty #[.map (some mb), .agg #[.int .i64 ks, .int .u64 km]]).run Try.prog (wr.drewN q) = .ok (.tuple #[]) w' ∧
      ∃ cnt' D'', cnt' ≤ cnt ∧ Swp w pb mb n R2 L s (fun z => left z && !z.sameKey (tidE.ek (ks, km))) cnt' D'' w' := by
    intro q ty
    have hq := h.drewN q
    obtain ⟨w', cnt', hrun, hr, hle, ht⟩ := hq.rg.drop key73 Try.underlying85 (keyOf_tid hgd.1 hgd.2) ty
    refine ⟨w', hrun, cnt', D'.del (tidE.ek (ks, km)), hle, ?_⟩
    have hg := ht.grown
    refine ⟨?_, ?_, ?_, ?_⟩
    · have := hr
      rw [show tk (ks, km).1 (ks, km).2 = tidE.ek (ks, km) from rfl, Maps.strike_twice] at this
      exact this
    · have := hq.rep.del (a := (ks, km)) hgd
      rw [stay_struck hrep.good hrep.nodup hm hc] at this
      exact this
    · rw [hg.block pb (by have := hq.blk; rcases Nat.lt_or_ge pb (wr.drewN q).heap.size with e | e; exact e; rw [Array.getElem?_eq_none e] at this; cases this) (by intro e; simp at e; exact hpm e.symm)]
      exact hq.blk
    · exact hq.kept.grown hg (fun k e => by cases e; exact Or.inr rfl)
  exact ⟨fun q ty => Classical.choose (key q ty), fun q ty => (Classical.choose_spec (key q ty)).1, fun q ty => (Classical.choose_spec (key q ty)).2⟩

set_option maxRecDepth 100000 in
set_option maxHeartbeats 60000000 in
theorem trim_any (w : World) (pb mb n : Nat) (s0 : Int) (D : DataW Unit) (L : List Ent) (keep : Nat) (h : PR w pb mb s0 n D L) (hk0 : 0 < keep) (hkL : keep ≤ L.length) (h2 : 2 ≤ L.length) (hL : L.length ≤ 100000) :
    Calls Try.prog 48 #[.pointer (some ⟨pb, 0, none⟩), .int .i64 keep] w fun e w' => e = .returned (.tuple #[]) ∧
      ∃ (s : Int) (D' : DataW Unit) (d : Array Int), d.toList.Perm (L.map Prod.snd) ∧ (∀ i j, i < j → j < d.size → d[i]! ≤ d[j]!) ∧ s = d[d.size - keep]! ∧
        PR w' pb mb s n D' (L.filter fun p => decide (s ≤ p.2)) ∧ Kept (fun b => b = pb ∨ b = mb) w w' := by
  have hsize := h.rep.size
  have hlt := h.own.lt
  have hpl : pb < w.heap.size := by
    have := h.blk
    rcases Nat.lt_or_ge pb w.heap.size with e | e
    · exact e
    · rw [Array.getElem?_eq_none e] at this; cases this
  have c0 : w.cell? ⟨pb, 0, none⟩ = some (.map (some mb)) := by unfold World.cell?; rw [h.blk]; rfl
  obtain ⟨ti, hi, hz0, hz1, hz2⟩ := info_parts info23
  have hlen := fun ty => h.own.len Try.underlying85 ty
  rw [hsize] at hlen
  have H := hide h
  have Hi := hide hi
  have Hz0 := hide hz0
  have Hz1 := hide hz1
  have Hz2 := hide hz2
  have Hsize := hide hsize
  clear h hi hz0 hz1 hz2 hsize
  go_enter Try.func48, Try.ntmps48
  go_wp2_with (at_make; refine wpList_make_own _ rfl _ _ 53 rfl w.heap.size 23 ti (.int .u64 0) 1 Try.underlying53 (unhide Hi) (unhide Hz0) (unhide Hz1) .i64 .i64 _ L.length rfl rfl rfl (by rw [unhide Hz2]; omega) (by unfold maxLen; omega) (Nat.le_refl _) ?_)
  intro w1 hr1 hg1
  have hw1 := hg1.size
  have hB : w.heap.size < w1.heap.size := by
    rcases hr1.2 with ⟨e, _⟩ | ⟨g, cap, cur, e, _, hh, _⟩
    · cases e
    · cases e
      rcases Nat.lt_or_ge w.heap.size w1.heap.size with h1 | h1
      · exact h1
      · rw [Array.getElem?_eq_none h1] at hh; cases hh
  generalize hBd : w1.heap.size = B at *
  go_upto_region 1 with fail
  generalize hW : w1.alloc _ = W
  have hBw : Below w.heap.size w W := by
    rw [← hW]
    exact ((Below.refl _ _).grown hg1 (Nat.le_refl _) (fun k e => by cases e)).alloc (by omega) _
  have hWs : W.heap.size = B + 1 := by rw [← hW]; simp [hBd]
  have cW0 : W.cell? ⟨pb, 0, none⟩ = some (.map (some mb)) := (hBw.cell hpl).trans c0
  have cWB : W.heap[B]? = some (.cells #[.slice (some ⟨w.heap.size, 0, none⟩) 0 L.length] 53 (0, 0)) := by
    rw [← hW, ← hBd]; exact heap_alloc_new w1 _
  have hoW : W.ownsMap Try.prog 73 (plainElem (H := Unit) Try.prog 23) mb n D := by
    rw [← hW]; exact ((unhide H).own.kept hg1 (by simp)).alloc _
  have hrW : W.ownsRow w.heap.size 23 1 (.slice (some ⟨w.heap.size, 0, none⟩) 0 L.length) 0 [] := by
    rw [← hW]; exact hr1.alloc _
  have HoW := hide hoW
  have HrW := hide hrW
  have HBw := hide hBw
  have HcWB := hide cWB
  clear hW hg1 hr1 hoW hrW hBw cWB hBd hlen c0
  go_wp2_with (at_range; refine wpList_range_own _ rfl _ 85 rfl 73 23 key73 Try.underlying85 _ mb n D rfl (unhide HoW) ?_)
  intro w3 hrg0 hg0 hs0
  try rw [hWs] at hrg0
  have hc0 : Coll w mb n B D L (Maps.has D) (Maps.size D) [] (.slice (some ⟨w.heap.size, 0, none⟩) 0 L.length) w3 := by
    refine ⟨hrg0, ?_, ?_, ?_, ?_, ?_, ?_, ?_⟩
    · rw [gone_start (unhide H).rep]
    · rw [hg0.block B (by omega) (by simp)]; exact unhide HcWB
    · exact (unhide HrW).kept hg0 (Or.inr (by simp [Value.ownBlock]))
    · simp [Value.ownBlock]; omega
    · simp [Value.ownBlock]; omega
    · exact (unhide HBw).grown hg0 (by omega) (fun k e => by cases e)
    · omega
  have Hc0 := hide hc0
  clear hrg0 hg0 hs0 hc0 HcWB HrW HBw HoW cW0
  go_wp2_with fail
  go_loopw [6] (fun _ wr => ∃ left cnt vs v, Coll w mb n B D L left cnt vs v wr) (fun _ wr => wr.rangeLeft mb (B + 1))
  case atStart => exact ⟨_, _, _, _, unhide Hc0⟩
  case round =>
    obtain ⟨left, cnt, vs, v, hc⟩ := hrel
    clear Hc0
    have Hc := hide hc
    have cB := hc.cellB
    clear hc
    go_wp2_with (at_next; refine wpList_next_tid _ rfl _ rfl mb (B + 1) n D L (unhide H).rep left cnt rfl (unhide Hc).rg ?_ ?_)
    · intro hl0
      obtain ⟨g, cap, hv, hvp, hvl, hH, hg1, hg2, hgB⟩ := (unhide Hc).fin hl0 h2
      rw [hvl] at hv
      rw [hv] at cB
      have hsz := (unhide Hc).size
      have hsort := hide (sort_list g cap B L.length vs hvl h2 (by omega) wr hH hg2 (by omega) (Ne.symm hgB) cB)
      have Hvp := hide hvp
      clear hH hvp hl0 hv
      go_wp2_with fail
      go_at_call 52
      refine (unhide hsort).mono ?_
      rintro e w6 ⟨rfl, d, hds, hdp, hdo, hH6, hk6⟩
      have cB6 : w6.cell? ⟨B, 0, none⟩ = some (.slice (some ⟨g, 0, none⟩) L.length cap) := (World.cell?_of_block (hk6.block B (by omega) (Ne.symm hgB))).trans cB
      have hg6 : pb ≠ g := by omega
      have hP6 : w6.heap[pb]? = some (.cells #[.map (some mb), .int .u64 s0] 87 (0, 0)) := by
        rw [hk6.block pb (by omega) hg6, (unhide Hc).bel.block pb hpl]; exact (unhide H).blk
      have cP0 : w6.cell? ⟨pb, 0, none⟩ = some (.map (some mb)) := by unfold World.cell?; rw [hP6]; rfl
      have cP1 : w6.cell? ⟨pb, 1, none⟩ = some (.int .u64 s0) := by unfold World.cell?; rw [hP6]; rfl
      have fP1 : w6.frozen? ⟨pb, 1, none⟩ = false := by unfold World.frozen?; rw [hP6]; rfl
      have cI : w6.cell? ⟨g, L.length - keep, none⟩ = some (.int .u64 d[d.size - keep]!) := by
        have := (hH6 (L.length - keep) (by rw [hds]; omega)).1
        rw [Nat.zero_add] at this
        rw [this, hds]
      have ho6 : w6.ownsMap Try.prog 73 (plainElem (H := Unit) Try.prog 23) mb n D := (unhide Hc).rg.owns.kept hk6.by (by intro e; simp at e; omega)
      have hB6 : Below w.heap.size w w6 := (unhide Hc).bel.grown hk6.by (unhide Hc).bel.size (fun j e => by cases e; exact hg1)
      have hs6 := hk6.size
      generalize hs : d[d.size - keep]! = s at *
      have Hds := hide hds
      have Hdp := hide hdp
      have Hdo := hide hdo
      have HP6 := hide hP6
      have Ho6 := hide ho6
      have HB6 := hide hB6
      have Hs := hide hs
      clear hds hdp hdo hP6 ho6 hB6 hs hH6 hk6 hsort cB Hc
      have hsub : wrap64 ((L.length : Int) - (keep : Int)) = ((L.length - keep : Nat) : Int) := by unfold wrap64; omega
      have hix : L.length - keep < L.length := by omega
      go_upto_region 7 with fail
      have hmp : mb ≠ pb := (unhide H).ne
      have hw7 : (w6.setCell ⟨pb, 1, none⟩ (.int .u64 s)).heap[pb]? = some (.cells #[.map (some mb), .int .u64 s] 87 (0, 0)) := by
        rw [heap_setCell_same w6 pb 1 _ 87 _ (unhide HP6)]; rfl
      have ho7 : (w6.setCell ⟨pb, 1, none⟩ (.int .u64 s)).ownsMap Try.prog 73 (plainElem (H := Unit) Try.prog 23) mb n D := (unhide Ho6).kept (grownBy_setCell w6 pb 1 _) (by intro e; simp at e; exact hmp e)
      have hk7 : Kept (fun b => b = pb ∨ b = mb) w (w6.setCell ⟨pb, 1, none⟩ (.int .u64 s)) := (Kept.of_below (unhide HB6)).setCell (p := ⟨pb, 1, none⟩) (Or.inl rfl) _
      have cQ0 : (w6.setCell ⟨pb, 1, none⟩ (.int .u64 s)).cell? ⟨pb, 0, none⟩ = some (.map (some mb)) := by unfold World.cell?; rw [hw7]; rfl
      generalize w6.setCell ⟨pb, 1, none⟩ (.int .u64 s) = w7 at *
      have Hw7 := hide hw7
      have Ho7 := hide ho7
      have Hk7 := hide hk7
      have hs7 := hk7.size
      clear hw7 ho7 hk7 HP6 Ho6 HB6 cB6 cP0 cP1 fP1 cI
      go_wp2_with (at_range; refine wpList_range_own _ rfl _ 85 rfl 73 23 key73 Try.underlying85 _ mb n D rfl (unhide Ho7) ?_)
      intro w8 hrg8 hg8 hs8
      have hsw : Swp w pb mb n w7.heap.size L s (Maps.has D) (Maps.size D) D w8 := by
        refine ⟨hrg8, by rw [stay_start (unhide H).rep]; exact (unhide H).rep, ?_, ?_⟩
        · rw [hg8.block pb (by omega) (by simp)]; exact unhide Hw7
        · exact (unhide Hk7).grown hg8 (fun k e => by cases e)
      have Hsw := hide hsw
      have R2le : w.heap.size ≤ w7.heap.size := hs7
      generalize hR2 : w7.heap.size = R2 at *
      clear hsw hrg8 hg8 hs8 Hw7 Ho7 Hk7 cQ0 hR2 hs7
      go_wp2_with fail
      go_loopw [8] (fun _ wr => ∃ left cnt D', Swp w pb mb n R2 L s left cnt D' wr) (fun _ wr => wr.rangeLeft mb R2)
      case atStart => exact ⟨_, _, _, unhide Hsw⟩
      case round =>
        obtain ⟨left, cnt, D', hc⟩ := hrel
        clear Hsw
        have hsz := hc.kept.size
        have Hc := hide hc
        clear hc
        go_wp2_with (at_next; refine wpList_next_tid _ rfl _ rfl mb R2 n D' (stay left s L) (unhide Hc).rep left cnt rfl (unhide Hc).rg ?_ ?_)
        · intro hl0
          go_wp2_with fail
          go_end0
          have hrp := (unhide Hc).rep
          rw [stay_end hl0] at hrp
          exact ⟨rfl, s, D', d, (unhide Hdp).trans (unhide Hvp), unhide Hdo, (unhide Hs).symm, ⟨(unhide Hc).blk, (unhide Hc).rg.owns, hrp, fun p hp => (unhide H).wf p (List.mem_filter.1 hp).1⟩, (unhide Hc).kept⟩
        · intro ks km c w9 cnt1 hm hlk hws hwm hwc hrg1 hlt1 hg1 hs1 hen
          have hmL := (List.mem_filter.1 hm).1
          have hRR := R2le
          rcases Int.lt_or_le c s with hcs | hcs
          · have hsw0 : Swp1 w pb mb n R2 L s left (fun z => left z && !z.sameKey (tidE.ek (ks, km))) cnt1 D' (w9.alloc (Obj.cells #[.int .i64 ks, .int .u64 km] 73)) := Swp1.mk' (unhide Hc) hRR hpl hrg1 hg1 _
            have c0 := hsw0.c0
            have c1 := hsw0.c1
            obtain ⟨f, hf, hf2⟩ := hsw0.drop (unhide H).rep hmp hmL hcs
            have Hf2 := hide hf2
            have Hlt1 := hide hlt1
            clear hf2 hlt1 hrg1 hg1 hm hlk hsw0
            have cK0 : (w9.alloc (Obj.cells #[.int .i64 ks, .int .u64 km] 73)).cell? ⟨wr.heap.size, 0, none⟩ = some (.int .i64 ks) := by
              rw [← hs1]; unfold World.cell?; rw [heap_alloc_new]; rfl
            have cK1 : (w9.alloc (Obj.cells #[.int .i64 ks, .int .u64 km] 73)).cell? ⟨wr.heap.size, 1, none⟩ = some (.int .u64 km) := by
              rw [← hs1]; unfold World.cell?; rw [heap_alloc_new]; rfl
            go_wp2_with fail
            generalize hW9 : w9.alloc (Obj.cells #[.int .i64 ks, .int .u64 km] 73) = W9 at *
            have hf1 : ∀ ty, (Builtin.delete_ #[85, 73] ty #[.map (some mb), .agg #[.int .i64 ks, .int .u64 km]]).run Try.prog W9.drew = .ok (.tuple #[]) (f 1 ty) := hf 1
            clear hf hW9 hen
            go_region
            go_wp2_with fail
            go_roundw
            case rel =>
              obtain ⟨cnt', D'', _, hsw⟩ := unhide Hf2 1 0
              exact ⟨_, _, _, hsw⟩
            case measure =>
              obtain ⟨cnt', D'', hle, hsw⟩ := unhide Hf2 1 0
              rw [hsw.rg.left_eq, (unhide Hc).rg.left_eq]
              exact Nat.lt_of_le_of_lt hle (unhide Hlt1)
          · have hss : stay left s L = stay (fun z => left z && !z.sameKey (tidE.ek (ks, km))) s L := stay_stays (k := (ks, km)) (c := c) (unhide H).rep.good (unhide H).rep.nodup hmL hcs hlk
            have hnx : Swp w pb mb n R2 L s (fun z => left z && !z.sameKey (tidE.ek (ks, km))) cnt1 D' (w9.alloc (Obj.cells #[.int .i64 ks, .int .u64 km] 73)) := Swp.next (unhide Hc) hRR hpl hrg1 hg1 hss _
            have c1 := hnx.c1
            have Hnx := hide hnx
            have Hlt1 := hide hlt1
            clear hnx hlt1 hrg1 hg1 hm hlk
            go_wp2_with fail
            go_roundw
            case rel => exact ⟨_, _, _, unhide Hnx⟩
            case measure => rw [(unhide Hnx).rg.left_eq, (unhide Hc).rg.left_eq]; exact unhide Hlt1
    · intro ks km c w4 cnt1 hm hlk hws hwm hwc hrg1 hlt1 hg1 hs1 hen
      have hlen := (unhide Hc).len
      have cB4 : w4.cell? ⟨B, 0, none⟩ = some v := (World.cell?_of_block (hg1.block B (by have := (unhide Hc).size; omega) (by intro e; simp at e))).trans cB
      have Hrow := hide ((unhide Hc).row.kept hg1 (Or.inr (unhide Hc).nI))
      have hsz4 : B + 2 ≤ w4.heap.size := by rw [hs1]; exact (unhide Hc).size
      have Hrg1 := hide hrg1
      have Hg1 := hide hg1
      have Hm := hide hm
      have Hlk := hide hlk
      have Hlt1 := hide hlt1
      clear hrg1 hg1 hm hlk hlt1 hws hwm hwc cB
      have hnews : ∀ j u, ([uv c] : List Value)[j]? = some u → (w4.alloc (Obj.cells #[.int .u64 c] 23)).cell? ((⟨wr.heap.size, 0, none⟩ : Addr).add j) = some u := by
        intro j u hj
        match j with
        | 0 =>
          cases hj
          rw [← hs1]
          show World.cell? _ ⟨w4.heap.size, 0, none⟩ = _
          unfold World.cell?
          rw [heap_alloc_new]
          rfl
        | j + 1 => simp at hj
      go_wp2_with (at_builtin; refine wpList_append_own2 _ rfl _ _ 53 rfl w.heap.size 23 ti (.int .u64 0) 1 8 Try.underlying53 (unhide Hi) (unhide Hz0) (unhide Hz1) (unhide Hz2) rfl (by omega) _ vs.length (vs.map uv) rfl ((unhide Hrow).alloc _) _ 1 1 [uv c] rfl rfl hnews (by intro u hu; simp at hu; subst hu; rfl) (by unfold maxLen; omega) (by omega) (by simp; omega) ?_)
      intro v' w5 ho5 hg5 hloc5
      obtain ⟨g5, cap5, rfl⟩ := row_form ho5
      have hst := (unhide Hc).step (unhide H).rep hlt (by omega) (unhide Hm) (unhide Hlk) (unhide Hrg1) (unhide Hg1) (Obj.cells #[.int .u64 c] 23) ho5 hg5 (hloc5.imp id (fun e => by rw [e]; simp [hs1]))
      have cB5 : w5.cell? ⟨B, 0, none⟩ = some v := by
        have e1 : w5.heap[B]? = (w4.alloc (Obj.cells #[.int .u64 c] 23)).heap[B]? := hg5.block B (by simp; omega) (fun e => (unhide Hc).nB e.symm)
        rw [World.cell?_of_block e1, World.cell?_of_block (Below.heap_alloc w4 _ B (by omega))]
        exact cB4
      have fB5 : w5.frozen? ⟨B, 0, none⟩ = false := by
        have e1 : w5.heap[B]? = (w4.alloc (Obj.cells #[.int .u64 c] 23)).heap[B]? := hg5.block B (by simp; omega) (fun e => (unhide Hc).nB e.symm)
        have e2 : w4.heap[B]? = wr.heap[B]? := (unhide Hg1).block B (by omega) (by intro e; simp at e)
        rw [World.frozen?_of_block e1, World.frozen?_of_block (Below.heap_alloc w4 _ B (by omega)), World.frozen?_of_block e2]
        exact (unhide Hc).frozenB
      have Hst := hide hst
      clear hst ho5 hg5 hloc5 hnews cB4 hen
      go_wp2_with fail
      go_roundw
      case rel => exact ⟨_, _, _, _, unhide Hst⟩
      case measure => rw [(unhide Hst).rg.left_eq, (unhide Hc).rg.left_eq]; exact unhide Hlt1

theorem trim_said : ∀ (w : World) (pb mb n : Nat) (s0 : Int) (D : DataW Unit) (L : List Ent) (keep : Nat), PR w pb mb s0 n D L → 0 < keep → keep ≤ L.length → 2 ≤ L.length → L.length ≤ 100000 →
    Calls Try.prog 48 #[.pointer (some ⟨pb, 0, none⟩), .int .i64 keep] w fun e w' => e = .returned (.tuple #[]) ∧
      ∃ (s : Int) (D' : DataW Unit), (∃ d : Array Int, d.toList.Perm (L.map Prod.snd) ∧ (∀ i j, i < j → j < d.size → d[i]! ≤ d[j]!) ∧ s = d[d.size - keep]!) ∧ PR w' pb mb s n D' (L.filter fun p => decide (s ≤ p.2)) ∧ Kept (fun b => b = pb ∨ b = mb) w w' := by
  intro w pb mb n s0 D L keep h h0 hk h2 hL
  refine (trim_any w pb mb n s0 D L keep h h0 hk h2 hL).mono ?_
  rintro e w' ⟨he, s, D', d, a, b, c, x, y⟩
  exact ⟨he, s, D', ⟨d, a, b, c⟩, x, y⟩

end Go.Proofs.Qxb6604710a
