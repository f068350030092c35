import Derived.ProofKit
import Derived.OpenShut
import Derived.Deep.Slices
namespace Go.Proofs.Qxb6604710a
open Go.ChangeShapes Go.WideShapes Go.Deep Go.RowKit

/-- A slice of structs whose fields are integers (the kinds 'ks'), as it came in: field c of element i is 'Z i c'. -/
def IsRows (ks : List IntKind) (w : World) (a : Option Addr) (len cap : Nat) (Z : Nat → Nat → Int) : Prop :=
  (a = none ∧ len = 0 ∧ cap = 0) ∨
  ∃ x, a = some x ∧ len ≤ cap ∧ cap ≤ maxLen ∧ ∀ i, i < len → ∀ c k, ks[c]? = some k → w.cell? (x.add (i * ks.length + c)) = some (.int k (Z i c)) ∧ (Lit.int k (Z i c)).wf = true

theorem IsRows.at {ks : List IntKind} {w : World} {a : Option Addr} {len cap : Nat} {Z : Nat → Nat → Int} (h : IsRows ks w a len cap Z) {i : Nat} (hi : i < len) (hk : 0 < ks.length) :
    ∃ b off, a = some ⟨b, off, none⟩ ∧ b < w.heap.size ∧ ∀ i, i < len → ∀ c k, ks[c]? = some k → w.cell? ⟨b, off + (i * ks.length + c), none⟩ = some (.int k (Z i c)) ∧ (Lit.int k (Z i c)).wf = true := by
  rcases h with ⟨_, h0, _⟩ | ⟨⟨b, off, spot⟩, rfl, _, _, hc⟩
  · omega
  · have h0 := (hc 0 (by omega) 0 ks[0] (List.getElem?_eq_getElem hk)).1
    have hspot : spot = none := by simpa [Addr.add] using World.cell?_spot h0
    subst hspot
    refine ⟨b, off, rfl, ?_, fun i hi c k hck => ?_⟩
    · rcases Nat.lt_or_ge b w.heap.size with h1 | h1
      · exact h1
      · simp [Addr.add, World.cell?, Array.getElem?_eq_none h1] at h0
    · have := hc i hi c k hck
      rw [add_plain] at this
      exact this

theorem IsRows.nonneg {ks : List IntKind} {w : World} {a : Option Addr} {len cap : Nat} {Z : Nat → Nat → Int} (h : IsRows ks w a len cap Z) : len ≤ cap ∧ cap ≤ maxLen := by
  rcases h with ⟨_, rfl, rfl⟩ | ⟨_, _, h1, h2, _⟩
  · exact ⟨Nat.le_refl _, Nat.zero_le _⟩
  · exact ⟨h1, h2⟩

section
variable {H : Type} {enc : TypeId × Value → H} {P : Program} {w : World} {base : Nat} {spare : Nat → Bool} {held : Bool}

theorem open_rows {t e : TypeId} {fs : Array Field} {ks : List IntKind} {fuel : Nat} {a : Option Addr} {len cap : Nat} {x : DataW H × List MemPlace} (ht : P.underlying t = some (.slice e)) (he : P.underlying e = some (.struct fs))
    (ce : P.cellsOf e = ks.length) (hfs : ∀ c k, ks[c]? = some k → ∃ f : Field, fs[c]? = some f ∧ f.offset = c ∧ P.cellsOf f.type = 1 ∧ P.underlying f.type = some (.int k))
    (h : DataW.trod enc P w base spare held fuel t [.slice a len cap] = some x) : ∃ Z, IsRows ks w a len cap Z := by
  rcases open_slice ht h with ⟨h0, _⟩ | ⟨ad, len', cap', m, n, D, Pl, hcs, hb, hl, hm, hmm, _, hx⟩
  · simp at h0
    exact ⟨fun _ _ => 0, Or.inl ⟨h0.1, h0.2.1, h0.2.2⟩⟩
  · simp at hcs
    obtain ⟨rfl, rfl, rfl⟩ := hcs
    have each : ∀ i, i < len → ∃ zs : Nat → Int, ∀ c k, ks[c]? = some k → w.cell? (ad.add (i * ks.length + c)) = some (.int k (zs c)) ∧ (Lit.int k (zs c)).wf = true := by
      intro i hi
      obtain ⟨cs', h1, h2⟩ := hx i (by rw [hmm]; split <;> omega)
      rw [ce] at h1
      obtain ⟨_, hlen, hcell⟩ := World.cells?_some h1
      obtain ⟨xs, k, hk, hxy, _, hxl, hf⟩ := DataW.trod_struct he h2
      obtain ⟨zs, hzs⟩ := choose_lt (α := Int) (n := ks.length) (p := fun c z => ∀ k, ks[c]? = some k → w.cell? (ad.add (i * ks.length + c)) = some (.int k z) ∧ (Lit.int k z).wf = true) (fun c hc => by
        obtain ⟨f, hfc, hfo, hf1, hfi⟩ := hfs c ks[c] (List.getElem?_eq_getElem hc)
        have g := hf c f hfc
        have hcx : c < xs.length := by
          rw [hxl]
          rcases Nat.lt_or_ge c fs.size with h5 | h5
          · exact h5
          · rw [Array.getElem?_eq_none h5] at hfc; cases hfc
        rw [List.getElem?_eq_getElem hcx, hfo, hf1] at g
        obtain ⟨z, hz1, _, hz3⟩ := DataW.trod_int hfi g
        have hcc : cs'[c]? = some (.int ks[c] z) := by
          have := congrArg (fun l => l[0]?) hz1
          simpa [List.getElem?_take, List.getElem?_drop] using this
        have hce := hcell c hc
        rw [add_add, hcc] at hce
        refine ⟨z, fun k' hk' => ?_⟩
        rw [List.getElem?_eq_getElem hc] at hk'
        cases hk'
        exact ⟨hce, hz3⟩)
      exact ⟨zs, fun c k hck => hzs c (by
        rcases Nat.lt_or_ge c ks.length with h5 | h5
        · exact h5
        · rw [List.getElem?_eq_none h5] at hck; cases hck) k hck⟩
    obtain ⟨Z, hZ⟩ := choose_lt each
    exact ⟨Z, Or.inr ⟨ad, rfl, hl, hm, hZ⟩⟩
end

end Go.Proofs.Qxb6604710a
