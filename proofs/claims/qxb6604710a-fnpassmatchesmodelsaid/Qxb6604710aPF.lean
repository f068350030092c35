import Derived.Test.Qxb6604710aPA
import Derived.Test.Qxb6604710aPC
namespace Go.Proofs.Qxb6604710a
open Go.RowKit

/-- A slice of numbers among the law's own. -/
structure Rw where
  e : TypeId
  q : IntKind
  v : Value
  xs : List Int

/-- All that the law holds in memory: the merger, its own slices, blocks that stay as they are. -/
structure Bk (w0 w : World) (mp tb qb inf t : Nat) (S : List Int) (st : Int → Sit) (fx : List (Nat × Obj)) (rs : List Rw) : Prop where
  pm : PM w w0.heap.size mp tb qb inf t S st
  rows : ∀ (i : Nat) (r : Rw), rs[i]? = some r → Row w w0.heap.size r.e r.q r.v r.xs
  apart : ∀ (i j : Nat) (a b : Rw), i ≠ j → rs[i]? = some a → rs[j]? = some b → ∀ g, a.v.ownBlock = some g → b.v.ownBlock ≠ some g
  off : ∀ (i : Nat) (r : Rw), rs[i]? = some r → ∀ g, r.v.ownBlock = some g → g ≠ mp ∧ g ≠ tb ∧ ¬ turns qb S st g
  fixed : ∀ p ∈ fx, w.heap[p.1]? = some p.2 ∧ w0.heap.size ≤ p.1 ∧ p.1 ≠ mp ∧ p.1 ≠ tb ∧ ¬ turns qb S st p.1 ∧ ∀ (i : Nat) (r : Rw), rs[i]? = some r → r.v.ownBlock ≠ some p.1
  bel : Below w0.heap.size w0 w

section
variable {w0 w w' : World} {mp tb qb inf t : Nat} {S : List Int} {st : Int → Sit} {fx : List (Nat × Obj)} {rs : List Rw}

theorem Bk.size (h : Bk w0 w mp tb qb inf t S st fx rs) : w0.heap.size ≤ w.heap.size := h.bel.size

theorem Bk.fix (h : Bk w0 w mp tb qb inf t S st fx rs) {b : Nat} {o : Obj} (hm : (b, o) ∈ fx) : w.heap[b]? = some o := (h.fixed _ hm).1

/-- Nothing of it has turned. -/
theorem Bk.same (h : Bk w0 w mp tb qb inf t S st fx rs) (hb : ∀ b, b < w.heap.size → w'.heap[b]? = w.heap[b]?) (hbel : Below w0.heap.size w0 w') : Bk w0 w' mp tb qb inf t S st fx rs := by
  refine ⟨h.pm.same fun b hb2 _ _ => hb b hb2, fun i r hr => (h.rows i r hr).same fun g hg => hb g ((h.rows i r hr).lt g hg).2, h.apart, h.off, fun p hp => ?_, hbel⟩
  obtain ⟨h1, h2⟩ := h.fixed p hp
  exact ⟨(hb p.1 (lt_of_block h1)).trans h1, h2⟩

theorem Bk.alloc (h : Bk w0 w mp tb qb inf t S st fx rs) (o : Obj) : Bk w0 (w.alloc o) mp tb qb inf t S st fx rs :=
  h.same (fun _ hb => Below.heap_alloc _ _ _ hb) (h.bel.alloc h.size o)
theorem Bk.drewN (h : Bk w0 w mp tb qb inf t S st fx rs) (q : Nat) : Bk w0 (w.drewN q) mp tb qb inf t S st fx rs :=
  h.same (fun _ _ => rfl) (h.bel.trans ⟨rfl, rfl, rfl, Nat.le_refl _, fun _ _ => rfl⟩)
theorem Bk.drew (h : Bk w0 w mp tb qb inf t S st fx rs) : Bk w0 w.drew mp tb qb inf t S st fx rs :=
  h.same (fun _ _ => rfl) (h.bel.trans ⟨rfl, rfl, rfl, Nat.le_refl _, fun _ _ => rfl⟩)

/-- A new block that stays as it is. -/
theorem Bk.box (h : Bk w0 w mp tb qb inf t S st fx rs) (cs : Array Value) (ty : TypeId) : Bk w0 (w.alloc (.cells cs ty)) mp tb qb inf t S st ((w.heap.size, .cells cs ty (0, 0)) :: fx) rs := by
  have ha := h.alloc (.cells cs ty)
  refine ⟨ha.pm, ha.rows, ha.apart, ha.off, fun p hp => ?_, ha.bel⟩
  rcases List.mem_cons.1 hp with rfl | hp
  · obtain ⟨l1, l2, l3, l4⟩ := h.pm.lts
    refine ⟨heap_alloc_new w _, h.size, by show w.heap.size ≠ mp; omega, by show w.heap.size ≠ tb; omega, ?_, ?_⟩
    · intro e
      have := (h.pm.turns_lt e).1
      exact absurd this (Nat.lt_irrefl _)
    · intro i r hr e
      have := ((h.rows i r hr).lt _ e).2
      exact absurd this (Nat.lt_irrefl _)
  · exact ha.fixed p hp

/-- The blocks that stay are let go. -/
theorem Bk.unfix (h : Bk w0 w mp tb qb inf t S st fx rs) : Bk w0 w mp tb qb inf t S st [] rs := ⟨h.pm, h.rows, h.apart, h.off, by simp, h.bel⟩

/-- A slice more, nil. -/
theorem Bk.push (h : Bk w0 w mp tb qb inf t S st fx rs) (e : TypeId) (q : IntKind) : Bk w0 w mp tb qb inf t S st fx (rs ++ [⟨e, q, .slice none 0 0, []⟩]) := by
  have key : ∀ (i : Nat) (r : Rw), (rs ++ [⟨e, q, .slice none 0 0, []⟩])[i]? = some r → rs[i]? = some r ∨ r = ⟨e, q, .slice none 0 0, []⟩ := by
    intro i r hr
    rw [List.getElem?_append] at hr
    split at hr
    · exact Or.inl hr
    · right
      cases hk : i - rs.length with
      | zero => rw [hk] at hr; simpa using hr.symm
      | succ n => rw [hk] at hr; simp at hr
  refine ⟨h.pm, ?_, ?_, ?_, ?_, h.bel⟩
  · intro i r hr
    rcases key i r hr with hr | rfl
    · exact h.rows i r hr
    · exact Row.nil _ _ _ _
  · intro i j a b hij ha hb g hg
    rcases key i a ha with ha | rfl
    · rcases key j b hb with hb | rfl
      · exact h.apart i j a b hij ha hb g hg
      · simp [Value.ownBlock]
    · simp [Value.ownBlock] at hg
  · intro i r hr
    rcases key i r hr with hr | rfl
    · exact h.off i r hr
    · intro g hg; simp [Value.ownBlock] at hg
  · intro p hp
    obtain ⟨a, b, c, d, e', f⟩ := h.fixed p hp
    refine ⟨a, b, c, d, e', fun i r hr => ?_⟩
    rcases key i r hr with hr | rfl
    · exact f i r hr
    · simp [Value.ownBlock]

/-- The last slices are let go. -/
theorem Bk.pop {rs' : List Rw} (h : Bk w0 w mp tb qb inf t S st fx (rs ++ rs')) : Bk w0 w mp tb qb inf t S st fx rs := by
  have key : ∀ (i : Nat) (r : Rw), rs[i]? = some r → (rs ++ rs')[i]? = some r := by
    intro i r hr
    have hi : i < rs.length := by
      rcases Nat.lt_or_ge i rs.length with e | e
      · exact e
      · rw [List.getElem?_eq_none e] at hr; cases hr
    rw [List.getElem?_append_left hi]
    exact hr
  exact ⟨h.pm, fun i r hr => h.rows i r (key i r hr), fun i j a b hij ha hb => h.apart i j a b hij (key i a ha) (key j b hb), fun i r hr => h.off i r (key i r hr),
    fun p hp => by obtain ⟨a, b, c, d, e, f⟩ := h.fixed p hp; exact ⟨a, b, c, d, e, fun i r hr => f i r (key i r hr)⟩, h.bel⟩

/-- One slice has turned: its block, or a new one. -/
theorem Bk.turn (h : Bk w0 w mp tb qb inf t S st fx rs) {k : Nat} {r : Rw} (hk : rs[k]? = some r) {v' : Value} {xs' : List Int} (hr : Row w' w0.heap.size r.e r.q v' xs') (hg : w.grownBy w' r.v.ownBlock)
    (hl : v'.ownBlock = r.v.ownBlock ∨ v'.ownBlock = none ∨ ∃ g, v'.ownBlock = some g ∧ w.heap.size ≤ g) : Bk w0 w' mp tb qb inf t S st fx (rs.set k { r with v := v', xs := xs' }) := by
  obtain ⟨l1, l2, l3, l4⟩ := h.pm.lts
  have hklt : k < rs.length := by
    rcases Nat.lt_or_ge k rs.length with e | e
    · exact e
    · rw [List.getElem?_eq_none e] at hk; cases hk
  have hoff := h.off k r hk
  have blk : ∀ b, b < w.heap.size → r.v.ownBlock ≠ some b → w'.heap[b]? = w.heap[b]? := fun b hb hne => hg.block b hb (fun e => hne e.symm)
  have key : ∀ (i : Nat) (x : Rw), (rs.set k { r with v := v', xs := xs' })[i]? = some x → (i = k ∧ x = { r with v := v', xs := xs' }) ∨ (i ≠ k ∧ rs[i]? = some x) := by
    intro i x hx
    by_cases e : i = k
    · subst e
      left
      rw [List.getElem?_set_self hklt] at hx
      exact ⟨rfl, (Option.some.inj hx).symm⟩
    · right
      rw [List.getElem?_set_ne (Ne.symm e)] at hx
      exact ⟨e, hx⟩
  have fresh : ∀ g, v'.ownBlock = some g → r.v.ownBlock = some g ∨ w.heap.size ≤ g := by
    intro g e
    rcases hl with hl | hl | ⟨g', hl, hge⟩
    · left; rw [← hl]; exact e
    · rw [hl] at e; cases e
    · rw [hl] at e; cases e; exact Or.inr hge
  refine ⟨?_, ?_, ?_, ?_, ?_, ?_⟩
  · refine h.pm.same fun b hb _ hf => blk b hb ?_
    intro e
    obtain ⟨a1, a2, a3⟩ := hoff b e
    rcases hf with e1 | e1 | e1
    · exact a1 e1
    · exact a2 e1
    · exact a3 e1
  · intro i x hx
    rcases key i x hx with ⟨rfl, rfl⟩ | ⟨hne, hx⟩
    · exact hr
    · have hrow := h.rows i x hx
      exact hrow.same fun g hgx => blk g (hrow.lt g hgx).2 (h.apart i k x r hne hx hk g hgx)
  · intro i j a b hij ha hb g hga
    rcases key i a ha with ⟨rfl, rfl⟩ | ⟨hi, ha'⟩
    · rcases key j b hb with ⟨rfl, rfl⟩ | ⟨hj, hb⟩
      · exact absurd rfl hij
      · intro e
        rcases fresh g hga with e2 | e2
        · exact h.apart j i b r hj hb hk g e e2
        · have := ((h.rows j b hb).lt g e).2
          omega
    · rcases key j b hb with ⟨rfl, rfl⟩ | ⟨hj, hb⟩
      · intro e
        rcases fresh g e with e2 | e2
        · exact h.apart i j a r hi ha' hk g hga e2
        · have := ((h.rows i a ha').lt g hga).2
          omega
      · exact h.apart i j a b hij ha' hb g hga
  · intro i x hx g hgx
    rcases key i x hx with ⟨rfl, rfl⟩ | ⟨_, hx⟩
    · rcases fresh g hgx with e | e
      · exact hoff g e
      · refine ⟨by omega, by omega, fun e2 => ?_⟩
        have := (h.pm.turns_lt e2).1
        omega
    · exact h.off i x hx g hgx
  · intro p hp
    obtain ⟨a, b, c, d, e, f⟩ := h.fixed p hp
    refine ⟨(blk p.1 (lt_of_block a) (f k r hk)).trans a, b, c, d, e, fun i x hx => ?_⟩
    rcases key i x hx with ⟨rfl, rfl⟩ | ⟨_, hx⟩
    · intro e2
      rcases fresh p.1 e2 with e3 | e3
      · exact f i r hk e3
      · have := lt_of_block a
        omega
    · exact f i x hx
  · exact h.bel.grown hg h.size (fun g e => ((h.rows k r hk).lt g e).1)

/-- A number has been appended (it lay in a block of its own, o). -/
theorem Bk.append (h : Bk w0 w mp tb qb inf t S st fx rs) {k : Nat} {r : Rw} (hk : rs[k]? = some r) (o : Obj) {v' : Value} {xs' : List Int} (hr : Row w' w0.heap.size r.e r.q v' xs') (hg : (w.alloc o).grownBy w' r.v.ownBlock)
    (hl : v'.ownBlock = r.v.ownBlock ∨ v'.ownBlock = some (w.alloc o).heap.size) : Bk w0 w' mp tb qb inf t S st fx (rs.set k { r with v := v', xs := xs' }) :=
  (h.alloc o).turn hk hr hg (hl.imp id fun e => Or.inr ⟨_, e, Nat.le_refl _⟩)

/-- A number of a slice has been set. -/
theorem Bk.setc (h : Bk w0 w mp tb qb inf t S st fx rs) {k : Nat} {e : TypeId} {q : IntKind} {g cap : Nat} {xs : List Int} (hk : rs[k]? = some ⟨e, q, .slice (some ⟨g, 0, none⟩) xs.length cap, xs⟩) (i : Nat) (y : Int) :
    Bk w0 (w.setCell ⟨g, i, none⟩ (.int q y)) mp tb qb inf t S st fx (rs.set k ⟨e, q, .slice (some ⟨g, 0, none⟩) xs.length cap, xs.set i y⟩) := by
  have hr := h.rows k _ hk
  exact h.turn hk (hr.set i y) ⟨rfl, rfl, rfl, by simp [World.setCell], fun b _ hb => Below.heap_setCell _ _ _ _ (fun e2 => hb (by rw [e2]; rfl))⟩ (Or.inl rfl)

/-- A slice has been cut short. -/
theorem Bk.take (h : Bk w0 w mp tb qb inf t S st fx rs) {k : Nat} {e : TypeId} {q : IntKind} {ao : Option Addr} {n cap : Nat} {xs : List Int} (hk : rs[k]? = some ⟨e, q, .slice ao n cap, xs⟩) (m : Nat) (hm : m ≤ xs.length) :
    Bk w0 w mp tb qb inf t S st fx (rs.set k ⟨e, q, .slice ao m cap, xs.take m⟩) :=
  h.turn hk ((h.rows k _ hk).take m hm) ⟨rfl, rfl, rfl, Nat.le_refl _, fun _ _ _ => rfl⟩ (Or.inl (by cases ao <;> rfl))

/-- A record has been passed. -/
theorem Bk.pass (h : Bk w0 w mp tb qb inf t S st fx rs) {z : Int} {k : Int × Int} {v : Int} {S' : List Int} {x : Sit} (hp : PassPost w w0.heap.size mp tb qb inf t S st z k v w' S' x) :
    Bk w0 w' mp tb qb inf (t + 2) S' (updS st z x) fx rs := by
  have hsub : ∀ b, b < w.heap.size → turns qb S' (updS st z x) b → turns qb S st b := by
    intro b hb ht
    rcases ht with e | ⟨y, hy, e⟩
    · exact Or.inl e
    · by_cases hyz : y = z
      · subst hyz
        rw [updS_same] at e
        rcases hp.new with ⟨hz, e1, e2⟩ | ⟨e1, e2⟩
        · rw [e1, e2] at e
          exact Or.inr ⟨y, hz, e⟩
        · rcases e with e | e <;> omega
      · rw [updS_other hyz] at e
        refine Or.inr ⟨y, ?_, e⟩
        rcases hp.set with ⟨_, e2⟩ | ⟨_, e2⟩
        · rw [e2] at hy; exact hy
        · rw [e2] at hy
          rcases List.mem_cons.1 hy with e3 | h3
          · exact absurd e3 hyz
          · exact h3
  refine ⟨hp.pm, ?_, h.apart, ?_, ?_, ?_⟩
  · intro i r hr
    exact (h.rows i r hr).kept hp.kept fun g hg => (h.off i r hr g hg).2.2
  · intro i r hr g hg
    obtain ⟨a, b, c⟩ := h.off i r hr g hg
    exact ⟨a, b, fun e => c (hsub g ((h.rows i r hr).lt g hg).2 e)⟩
  · intro p hpf
    obtain ⟨a, b, c, d, e, f⟩ := h.fixed p hpf
    exact ⟨(hp.kept.block p.1 (lt_of_block a) e).trans a, b, c, d, fun e2 => e (hsub p.1 (lt_of_block a) e2), f⟩
  · exact h.bel.trans (hp.kept.below h.size fun k hk => (h.pm.turns_lt hk).2)

end

end Go.Proofs.Qxb6604710a
