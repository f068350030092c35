import Derived.Test.Qxb6604710aPO
namespace Go.Proofs.Qxb6604710a
open Go.RowKit

/-- What stays where a site is cut at s. -/
def keepP (z s : Int) (y : En) : Bool := decide (y.1 ≠ z) || decide (s ≤ y.2.2)

theorem cutE_keepP (z s : Int) (E : List En) : cutE z s E = E.filter (keepP z s) := rfl

theorem nth_get (f : En → Int) {G : List En} {i : Nat} {y : En} (h : G[i]? = some y) : nth (G.map f) i = f y := by
  unfold nth
  rw [List.getD_eq_getElem?_getD, List.getElem?_map, h]
  rfl

/-- The packing loop has moved one entry. -/
theorem packed_rows {z s : Int} {E : List En} {e : Nat} {v10 v11 v12 v13 v14 v15 : Value} {ps sn : List Int} (h : e < E.length) (hp : keepP z s E[e] = true) :
    [⟨3, .i64, v10, ps⟩, ⟨23, .u64, v11, sn⟩, ⟨3, .i64, v12, ((packed (keepP z s) E e).map eS).set ((E.take e).filter (keepP z s)).length E[e].1⟩,
      ⟨3, .i64, v13, ((packed (keepP z s) E e).map eT).set ((E.take e).filter (keepP z s)).length E[e].2.1.1⟩,
      ⟨23, .u64, v14, ((packed (keepP z s) E e).map eN).set ((E.take e).filter (keepP z s)).length E[e].2.1.2⟩,
      ⟨23, .u64, v15, ((packed (keepP z s) E e).map eV).set ((E.take e).filter (keepP z s)).length E[e].2.2⟩] = rowsE v10 v11 v12 v13 v14 v15 ps sn (packed (keepP z s) E (e + 1)) := by
  unfold rowsE
  rw [(packed_keep h hp).1]
  simp only [List.map_set]
  rfl

theorem packed_cut {z s : Int} {E : List En} {e : Nat} (he : e = E.length) (f : En → Int) : ((packed (keepP z s) E e).map f).take ((E.take e).filter (keepP z s)).length = (cutE z s E).map f := by
  subst he
  rw [← List.map_take, packed_end, cutE_keepP]

end Go.Proofs.Qxb6604710a
