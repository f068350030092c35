import Derived.Test.Qxb6604710aPQ
namespace Go.Proofs.Qxb6604710a
open Go.RowKit

section
variable {w0 w : World} {mp tb qb inf t : Nat} {S : List Int} {st : Int → Sit} {fx : List (Nat × Obj)} {rs : List Rw}

theorem Bk.at' (h : Bk w0 w mp tb qb inf t S st fx rs) {k : Nat} {e : TypeId} {q : IntKind} {g n cap : Nat} {xs : List Int} (hk : rs[k]? = some ⟨e, q, .slice (some ⟨g, 0, none⟩) n cap, xs⟩) {i : Nat} (hi : i < xs.length) :
    w.cell? ⟨g, i, none⟩ = some (.int q (nth xs i)) ∧ w.frozen? ⟨g, i, none⟩ = false := by
  obtain ⟨g', e1, h1, h2⟩ := h.rd hk hi
  cases e1
  exact ⟨h1, h2⟩

theorem Bk.setc' (h : Bk w0 w mp tb qb inf t S st fx rs) {k : Nat} {e : TypeId} {q : IntKind} {g n cap : Nat} {xs : List Int} (hk : rs[k]? = some ⟨e, q, .slice (some ⟨g, 0, none⟩) n cap, xs⟩) (hn : n = xs.length) (i : Nat) (y : Int) :
    Bk w0 (w.setCell ⟨g, i, none⟩ (.int q y)) mp tb qb inf t S st fx (rs.set k ⟨e, q, .slice (some ⟨g, 0, none⟩) n cap, xs.set i y⟩) := by
  subst hn
  exact h.setc hk i y

/-- The slice's length is at most its room. -/
theorem Bk.cap (h : Bk w0 w mp tb qb inf t S st fx rs) {k : Nat} {e : TypeId} {q : IntKind} {ao : Option Addr} {n cap : Nat} {xs : List Int} (hk : rs[k]? = some ⟨e, q, .slice ao n cap, xs⟩) : xs.length ≤ cap ∧ cap ≤ maxLen := by
  obtain ⟨h1, ⟨e1, h2⟩ | ⟨g, cap', cur, e1, _, _, h3, h4, _⟩⟩ := (h.rows k _ hk).own
  · have h5 : xs.length = 0 := h2
    exact ⟨by omega, by simp only [Value.slice.injEq] at e1; rw [e1.2.2]; exact Nat.zero_le _⟩
  · have e2 : cap = cap' := by
      simp only [Value.slice.injEq] at e1
      exact e1.2.2
    subst e2
    exact ⟨h3, h4⟩
end

end Go.Proofs.Qxb6604710a
