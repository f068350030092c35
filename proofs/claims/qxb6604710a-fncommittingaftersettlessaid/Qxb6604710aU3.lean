import Derived.Test.Qxb6604710aU1
namespace Go.Proofs.Qxb6604710a
open Go.RowKit

theorem PlAll.below {w : World} {base M A n : Nat} {Z : Nat → Nat → Int} {i : Nat} {wr w' : World} {mc : Array Value} {vp : Value} {P : List Nat} {T : Nat → Tx} {al : List Nat} (h : PlAll w base M A n Z i wr mc vp P T al) (hb : Below wr.heap.size wr w') : PlAll w base M A n Z i w' mc vp P T al :=
  ⟨h.mg.below hb, h.perm, h.len, h.arr.below hb, h.bel.trans (hb.mono h.bel.size), h.com⟩

/-- The fields of a transaction have been set anew (its place in 'placed' stands). -/
theorem MgQ.setTx {w w' : World} {base M : Nat} {mc : Array Value} {vp vc : Value} {P C : List Nat} {T : Nat → Tx} (h : MgQ w base M mc vp vc P C T) {t i : Nat} (hi : P[i]? = some t) (htC : t ∉ C) {y : Tx} (hk : Kept (fun b => b = t) w w') (ht : IsTx w' t (y.at i)) (hy : y.queued = true) :
    MgQ w' base M mc vp vc P C (updT T t y) := by
  have htx := h.p.tx i t hi
  have hM : M ≠ t := fun e => h.p.ne_mer hi e.symm
  have hm : w'.heap[M]? = some (.cells mc 71 (0, 0)) := (hk.block M h.p.ltM hM).trans h.p.mer
  have hown : w'.ownsRow base 30 1 vp P.length (P.map ptr) := by
    obtain ⟨h1, h2⟩ := h.p.own
    refine ⟨h1, ?_⟩
    rcases h2 with h2 | ⟨g, cap, cur, hv, hg, hh, r⟩
    · exact Or.inl h2
    · have hgl := (h.p.own_lt (b := g) (by rw [hv]; rfl)).2
      have hgt : g ≠ t := fun e => h.p.own_ne htx (by decide) (by rw [hv, ← e]; rfl)
      exact Or.inr ⟨g, cap, cur, hv, hg, (hk.block g hgl hgt).trans hh, r⟩
  refine ⟨⟨hm, h.p.var, hown, ?_⟩, ?_, h.dj, h.ar, ?_, ?_, h.bp, h.bc, Nat.le_trans h.hb hk.size, h.hM⟩
  · intro k u hu
    by_cases e : u = t
    · subst e
      have : k = i := h.p.inj hu hi
      subst this
      rw [updT_same]; exact ht
    · rw [updT_other T y (b := u) (t := t) e]
      have tt := h.p.tx k u hu
      unfold IsTx
      rw [hk.block u tt.lt e]
      exact tt
  · refine (h.c.kept hk hm h.c.var (fun b hb e => htC (e ▸ hb)) (fun b hb e => h.c.own_ne htx (by decide) (e ▸ hb))).congr ?_
    intro b hb
    exact updT_other _ _ (fun e => htC (e ▸ hb))
  · intro b hb
    by_cases e : b = t
    · subst e; rw [updT_same]; exact hy
    · rw [updT_other T y (b := b) (t := t) e]; exact h.fp b hb
  · intro b hb
    rw [updT_other T y (b := b) (t := t) (fun e => htC (e ▸ hb))]; exact h.fc b hb

/-- What stands before ZZsettle, whether t was in 'placed' (qd) or is new. -/
structure TPre (w : World) (base M A n : Nat) (ts voted cm vt parts : Int) (qd : Bool) (wc : World) (mc : Array Value) (vp : Value) (P : List Nat) (T T0 : Nat → Tx) (al : List Nat) (t : Nat) : Prop where
  pre : SetPre wc base M mc vp (.slice none 0 0) P [] T T0 t parts
  hin : t ∈ P ∨ (t ∉ P ∧ (T t).queued = false ∧ ∃ j, IsTx wc t ((T t).at j))
  perm : P.Perm al
  len : al.length = n
  arr : AllAt wc A n al
  bel : Below w.heap.size w wc
  fts : (T t).ts = ts
  fvo : (T t).voted = voted
  fcm : (T t).commits = cm
  fvt : (T t).votes = vt
  hqd : qd = true ↔ t ∈ P

theorem tpre_queued {w : World} {base M A n : Nat} {Z : Nat → Nat → Int} {wr w' : World} {mc : Array Value} {vp : Value} {P : List Nat} {T : Nat → Tx} {al : List Nat} (h : PlAll w base M A n Z n wr mc vp P T al) (hn : n ≤ 4096) (hMw : w.heap.size ≤ M) (hAM : M < A) (hAb : A < base)
    {t i : Nat} (hi : P[i]? = some t) {ts voted cm vt parts : Int} {v : Value} (hv : IsParts parts v) (h1 : 0 ≤ cm) (h2 : cm ≤ 536870912) (h3 : 0 ≤ vt) (h4 : vt ≤ 536870912)
    (hk : Kept (fun b => b = t) wr w') (ht : IsTx w' t (((T t).at i).set ts voted cm vt v)) :
    TPre w base M A n ts voted cm vt parts true w' mc vp P (updT T t ((T t).set ts voted cm vt v)) T al t := by
  have htP := List.mem_of_getElem? hi
  have hy : ((T t).set ts voted cm vt v).queued = true := h.mg.fp t htP
  have hq := h.mg.toMgQ.setTx hi (by simp) hk (show IsTx w' t (((T t).set ts voted cm vt v).at i) from ht) hy
  have hAt : A ≠ t := fun e => by have := h.mg.bp t htP; omega
  have hlen := h.perm.length_eq
  have hl2 := h.len
  refine ⟨⟨hq, ?_, h.mg.hp, ?_, by simp, h.mg.bp t htP, ?_, ?_, ?_, ?_, ?_, by omega, by simp⟩, Or.inl htP, h.perm, h.len, h.arr.kept hk hAt, ?_, ?_, ?_, ?_, ?_, ?_⟩
  · intro i _ hn; simp at hn
  · intro b hb; exact updT_other _ _ hb
  · rw [updT_same]; exact hv
  · rw [updT_same]; exact h1
  · rw [updT_same]; exact h2
  · rw [updT_same]; exact h3
  · rw [updT_same]; exact h4
  · refine h.bel.trans (hk.below h.bel.size ?_)
    intro b e
    have := h.mg.bp t htP
    omega
  · rw [updT_same]; rfl
  · rw [updT_same]; rfl
  · rw [updT_same]; rfl
  · rw [updT_same]; rfl
  · exact ⟨fun _ => htP, fun _ => rfl⟩

theorem tpre_new {w : World} {base M A n : Nat} {Z : Nat → Nat → Int} {wr : World} {mc : Array Value} {vp : Value} {P : List Nat} {T : Nat → Tx} {al : List Nat} (h : PlAll w base M A n Z n wr mc vp P T al) (hn : n ≤ 4096)
    {site nn ts voted cm vt parts : Int} {v : Value} (hv : IsParts parts v) (h1 : 0 ≤ cm) (h2 : cm ≤ 536870912) (h3 : 0 ≤ vt) (h4 : vt ≤ 536870912) :
    TPre w base M A n ts voted cm vt parts false (wr.alloc (.cells (newTx site nn ts voted cm vt v).cells 76)) mc vp P (updT T wr.heap.size (newTx site nn ts voted cm vt v)) T al wr.heap.size := by
  have hb : Below wr.heap.size wr (wr.alloc (.cells (newTx site nn ts voted cm vt v).cells 76)) := (Below.refl _ _).alloc (Nat.le_refl _) _
  have h' := h.below hb
  have nP : wr.heap.size ∉ P := fun e => by have := h.mg.memP_lt e; omega
  have hlen := h.perm.length_eq
  have hl2 := h.len
  have ht : IsTx (wr.alloc (.cells (newTx site nn ts voted cm vt v).cells 76)) wr.heap.size ((updT T wr.heap.size (newTx site nn ts voted cm vt v) wr.heap.size).at 0) := by
    rw [updT_same]; exact heap_alloc_new wr _
  refine ⟨⟨h'.mg.toMgQ.congr (fun t ht => updT_other _ _ (fun e => nP (e ▸ ht))) (fun t ht => by simp at ht), ?_, h.mg.hp, ?_, by simp, h.mg.hb, ?_, ?_, ?_, ?_, ?_, by omega, by simp⟩, Or.inr ⟨nP, ?_, 0, ht⟩, h.perm, h.len, h'.arr, h'.bel, ?_, ?_, ?_, ?_, ?_⟩
  · intro i _ hn; simp at hn
  · intro b hb; exact updT_other _ _ hb
  · rw [updT_same]; exact hv
  · rw [updT_same]; exact h1
  · rw [updT_same]; exact h2
  · rw [updT_same]; exact h3
  · rw [updT_same]; exact h4
  · rw [updT_same]; rfl
  · rw [updT_same]; rfl
  · rw [updT_same]; rfl
  · rw [updT_same]; rfl
  · rw [updT_same]; rfl
  · constructor
    · intro e; cases e
    · intro e; exact absurd e nP

/-- What stands behind ZZsettle. -/
structure TPost (w : World) (base M A n : Nat) (ts voted cm vt : Int) (qd dn : Bool) (wc : World) (mc : Array Value) (vp vc : Value) (P C : List Nat) (T : Nat → Tx) (al : List Nat) (t : Nat) : Prop where
  mg : Mg wc base M mc vp vc P C T
  alP : ∀ u ∈ al, u ≠ t → u ∈ P
  tin : (dn = true → C = [t]) ∧ (dn = false → C = [] ∧ t ∈ P)
  len : al.length = n
  lenP : P.length + (if dn then (if qd then 1 else 0) else 0) = n + (if dn then 0 else (if qd then 0 else 1))
  arr : AllAt wc A n al
  bel : Below w.heap.size w wc
  fts : (T t).ts = ts
  fvo : (T t).voted = voted
  fcm : (T t).commits = cm
  fvt : (T t).votes = vt

theorem TPost.tTx {w : World} {base M A n : Nat} {ts voted cm vt : Int} {qd dn : Bool} {wc : World} {mc : Array Value} {vp vc : Value} {P C : List Nat} {T : Nat → Tx} {al : List Nat} {t : Nat} (h : TPost w base M A n ts voted cm vt qd dn wc mc vp vc P C T al t) : ∃ j, IsTx wc t ((T t).at j) := by
  cases dn with
  | true =>
    obtain ⟨j, _, hj⟩ := h.mg.c.memTx (t := t) (by rw [h.tin.1 rfl]; simp)
    exact ⟨j, hj⟩
  | false =>
    obtain ⟨j, _, hj⟩ := h.mg.p.memTx (h.tin.2 rfl).2
    exact ⟨j, hj⟩

theorem tpost {w : World} {base M A n : Nat} {ts voted cm vt parts : Int} {qd : Bool} {wc : World} {mc : Array Value} {vp : Value} {P : List Nat} {T T0 : Nat → Tx} {al : List Nat} {t : Nat} (h : TPre w base M A n ts voted cm vt parts qd wc mc vp P T T0 al t) (hMw : w.heap.size ≤ M) (hAM : M < A) (hAb : A < base) {w' : World}
    (hs : SettlePost wc base M vp (.slice none 0 0) P [] T t (doneB cm vt parts) w') : ∃ mc' vp' vc' P' C' T', TPost w base M A n ts voted cm vt qd (doneB cm vt parts) w' mc' vp' vc' P' C' T' al t := by
  obtain ⟨mc', vp', vc', P', C', hmg, hp, hc, hk⟩ := hs
  generalize doneB cm vt parts = dn at *
  have hmemE : ∀ u ∈ al, u ≠ t → u ∈ P.erase t := fun u hu hne => (List.mem_erase_of_ne hne).2 (h.perm.mem_iff.2 hu)
  have hlp : P.length = n := by rw [h.perm.length_eq]; exact h.len
  have hle : t ∈ P → (P.erase t).length + 1 = P.length := fun ht => by
    have := List.length_erase_of_mem ht
    have := List.length_pos_of_mem ht
    omega
  have hne : t ∉ P → (P.erase t).length = P.length := fun ht => by rw [List.erase_of_not_mem ht]
  refine ⟨mc', vp', vc', P', C', _, hmg, ?_, ⟨?_, ?_⟩, h.len, ?_, ?_, ?_, ?_, ?_, ?_, ?_⟩
  · intro u hu hut
    have := hmemE u hu hut
    cases dn with
    | true => exact hp.mem_iff.2 this
    | false => exact hp.mem_iff.2 (List.mem_append.2 (Or.inl this))
  · rintro rfl
    simpa using hc
  · rintro rfl
    refine ⟨by simpa using hc, ?_⟩
    exact hp.mem_iff.2 (by simp)
  · have hpl := hp.length_eq
    cases dn with
    | true =>
      simp only [if_true] at hpl ⊢
      cases qd with
      | true => have := hle (h.hqd.1 rfl); simp; omega
      | false => have := hne (fun e => by have := h.hqd.2 e; cases this); simp; omega
    | false =>
      simp only [Bool.false_eq_true, if_false, List.length_append, List.length_singleton] at hpl ⊢
      cases qd with
      | true => have := hle (h.hqd.1 rfl); simp; omega
      | false => have := hne (fun e => by have := h.hqd.2 e; cases this); simp; omega
  · refine h.arr.kept hk ?_
    have htb := h.pre.htb
    rintro (e | e)
    · rcases h.pre.q.mx_ge e with e | e <;> omega
    · omega
  · refine h.bel.trans (hk.below h.bel.size ?_)
    have htb := h.pre.htb
    rintro b (e | e)
    · rcases h.pre.q.mx_ge e with e | e <;> omega
    · omega
  · rw [updT_same]; exact h.fts
  · rw [updT_same]; exact h.fvo
  · rw [updT_same]; exact h.fcm
  · rw [updT_same]; exact h.fvt

end Go.Proofs.Qxb6604710a
