import Derived.Test.Qxb6604710aPF
import Derived.Test.Qxb6604710aPG
namespace Go.Proofs.Qxb6604710a
open Go.RowKit

def eS (x : En) : Int := x.1
def eT (x : En) : Int := x.2.1.1
def eN (x : En) : Int := x.2.1.2
def eV (x : En) : Int := x.2.2

/-- The law's slices. -/
def rowsE (v10 v11 v12 v13 v14 v15 : Value) (ps sn : List Int) (E : List En) : List Rw :=
  [⟨3, .i64, v10, ps⟩, ⟨23, .u64, v11, sn⟩, ⟨3, .i64, v12, E.map eS⟩, ⟨3, .i64, v13, E.map eT⟩, ⟨23, .u64, v14, E.map eN⟩, ⟨23, .u64, v15, E.map eV⟩]

theorem nth_map (f : En → Int) {E : List En} {i : Nat} (hi : i < E.length) : nth (E.map f) i = f E[i] := by
  rw [nth_eq (by simpa using hi)]
  simp

section
variable {w0 w : World} {mp tb qb inf t : Nat} {S : List Int} {st : Int → Sit} {fx : List (Nat × Obj)} {rs : List Rw}

theorem Bk.form (h : Bk w0 w mp tb qb inf t S st fx rs) {k : Nat} {r : Rw} (hk : rs[k]? = some r) : ∃ ao cap, r.v = .slice ao r.xs.length cap := (h.rows k r hk).form

theorem Bk.rd (h : Bk w0 w mp tb qb inf t S st fx rs) {k : Nat} {e : TypeId} {q : IntKind} {ao : Option Addr} {n cap : Nat} {xs : List Int} (hk : rs[k]? = some ⟨e, q, .slice ao n cap, xs⟩) {i : Nat} (hi : i < xs.length) :
    ∃ g, ao = some ⟨g, 0, none⟩ ∧ w.cell? ⟨g, i, none⟩ = some (.int q (nth xs i)) ∧ w.frozen? ⟨g, i, none⟩ = false := by
  obtain ⟨g, cap', e1, _, _, h1, h2⟩ := (h.rows k _ hk).at hi
  have e2 : ao = some ⟨g, 0, none⟩ := by
    simp only [Value.slice.injEq] at e1
    exact e1.1
  exact ⟨g, e2, h1 i hi, h2 i⟩

end

/-! the loop that notes a record -/

def part (z : Int) (k : Int × Int) (v : Int) (E : List En) (e : Nat) : List En := (E.take e).map (upd z k v) ++ E.drop e

section
variable {z : Int} {k : Int × Int} {v : Int} {E : List En} {e : Nat}

theorem part_zero : part z k v E 0 = E := by simp [part]
theorem part_end : part z k v E E.length = E.map (upd z k v) := by simp [part]
theorem part_length : (part z k v E e).length = E.length := by
  unfold part
  rw [List.length_append, List.length_map, List.length_take, List.length_drop]
  omega

theorem part_map {f : En → Int} (hf : ∀ x, f (upd z k v x) = f x) : (part z k v E e).map f = E.map f := by
  unfold part
  rw [List.map_append, List.map_map]
  have : (E.take e).map (f ∘ upd z k v) = (E.take e).map f := List.map_congr_left fun x _ => hf x
  rw [this, ← List.map_append, List.take_append_drop]

theorem part_mapS : (part z k v E e).map eS = E.map eS := part_map fun x => upd_fst z k v x
theorem part_mapT : (part z k v E e).map eT = E.map eT := part_map fun x => by unfold eT; rw [upd_tid]
theorem part_mapN : (part z k v E e).map eN = E.map eN := part_map fun x => by unfold eN; rw [upd_tid]

theorem part_succ (h : e < E.length) : part z k v E (e + 1) = (part z k v E e).set e (upd z k v E[e]) := by
  unfold part
  rw [List.set_append_right _ _ (by simp; omega)]
  have e1 : e - ((E.take e).map (upd z k v)).length = 0 := by simp; omega
  have e2 : (E.take (e + 1)).map (upd z k v) = (E.take e).map (upd z k v) ++ [upd z k v E[e]] := by
    rw [List.take_add_one, List.getElem?_eq_getElem h, List.map_append]
    rfl
  rw [e1, List.drop_eq_getElem_cons h, List.set_cons_zero, e2, List.append_assoc]
  rfl

theorem part_get (h : e < E.length) : (part z k v E e)[e]? = some E[e] := by
  unfold part
  rw [List.getElem?_append_right (by simp; omega)]
  have e1 : e - ((E.take e).map (upd z k v)).length = 0 := by simp; omega
  rw [e1, List.drop_eq_getElem_cons h]
  rfl

theorem part_stay (h : e < E.length) (hu : hit z k E[e] = false) : part z k v E (e + 1) = part z k v E e := by
  rw [part_succ h]
  have : upd z k v E[e] = E[e] := by simp [upd, hu]
  rw [this]
  apply List.ext_getElem?
  intro i
  by_cases hi : i = e
  · subst hi
    rw [List.getElem?_set_self (by rw [part_length]; exact h), part_get h]
  · rw [List.getElem?_set_ne (Ne.symm hi)]

theorem part_hit (h : e < E.length) (hu : hit z k E[e] = true) : (part z k v E (e + 1)).map eV = ((part z k v E e).map eV).set e v := by
  rw [part_succ h, List.map_set]
  congr 1
  simp [upd, hu, eV]

theorem take_ents (h : e < E.length) : ents (E.take (e + 1)) z = ents (E.take e) z ++ if E[e].1 = z then [E[e].2] else [] := by
  rw [List.take_add_one, List.getElem?_eq_getElem h, ents_append]
  congr 1
  by_cases h1 : E[e].1 = z <;> simp [ents, h1]

theorem take_any (h : e < E.length) (p : En → Bool) : (E.take (e + 1)).any p = ((E.take e).any p || p E[e]) := by
  rw [List.take_add_one, List.getElem?_eq_getElem h, List.any_append]
  simp

theorem ents_take_le (e : Nat) : (ents (E.take e) z).length ≤ E.length := by
  unfold ents
  rw [List.length_map]
  refine Nat.le_trans (List.length_filter_le _ _) ?_
  rw [List.length_take]
  omega

end

/-! the loop that packs -/

def packed (P : En → Bool) (E : List En) (e : Nat) : List En := (E.take e).filter P ++ E.drop ((E.take e).filter P).length

section
variable {P : En → Bool} {E : List En} {e : Nat}

theorem packed_zero : packed P E 0 = E := by simp [packed]

theorem packed_n (e : Nat) (E : List En) (P : En → Bool) : ((E.take e).filter P).length ≤ e ∧ ((E.take e).filter P).length ≤ E.length := by
  have := List.length_filter_le P (E.take e)
  rw [List.length_take] at this
  omega

theorem packed_length : (packed P E e).length = E.length := by
  unfold packed
  have := (packed_n e E P).2
  rw [List.length_append, List.length_drop]
  omega

theorem packed_get (h : e < E.length) : (packed P E e)[e]? = some E[e] := by
  unfold packed
  have := (packed_n e E P).1
  rw [List.getElem?_append_right this, List.getElem?_drop, Nat.add_sub_cancel' this, List.getElem?_eq_getElem h]

theorem packed_skip (h : e < E.length) (hp : P E[e] = false) : packed P E (e + 1) = packed P E e ∧ ((E.take (e + 1)).filter P).length = ((E.take e).filter P).length := by
  have e1 : (E.take (e + 1)).filter P = (E.take e).filter P := by
    rw [List.take_add_one, List.getElem?_eq_getElem h, List.filter_append]
    simp [hp]
  unfold packed
  rw [e1]
  exact ⟨rfl, rfl⟩

theorem packed_keep (h : e < E.length) (hp : P E[e] = true) : packed P E (e + 1) = (packed P E e).set ((E.take e).filter P).length E[e] ∧ ((E.take (e + 1)).filter P).length = ((E.take e).filter P).length + 1 := by
  have e1 : (E.take (e + 1)).filter P = (E.take e).filter P ++ [E[e]] := by
    rw [List.take_add_one, List.getElem?_eq_getElem h, List.filter_append]
    simp [hp]
  have e2 : ((E.take (e + 1)).filter P).length = ((E.take e).filter P).length + 1 := by rw [e1]; simp
  refine ⟨?_, e2⟩
  have hn := (packed_n e E P).1
  unfold packed
  rw [e2, e1, List.set_append_right _ _ (Nat.le_refl _), Nat.sub_self, List.drop_eq_getElem_cons (show ((E.take e).filter P).length < E.length by omega), List.set_cons_zero]
  simp

theorem packed_end : (packed P E E.length).take ((E.take E.length).filter P).length = E.filter P := by
  unfold packed
  rw [List.take_append_of_le_length (Nat.le_refl _), List.take_length, List.take_length]

end

end Go.Proofs.Qxb6604710a
