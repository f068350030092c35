import Derived.Test.Qxb6604710aV2
namespace Go.Proofs.Qxb6604710a
open Go.RowKit

def sks : List IntKind := [.i64, .u64, .u64, .i64, .i64, .i64]

theorem IsRows.s6 {w wr : World} {ao : Option Addr} {n cap : Nat} {Z : Nat → Nat → Int} (h : IsRows sks w ao n cap Z) (hb : Below w.heap.size w wr) {i : Nat} (hi : i < n) :
    ∃ b off, ao = some ⟨b, off, none⟩ ∧ wr.cell? ⟨b, off + i * 6, none⟩ = some (.int .i64 (Z i 0)) ∧ wr.cell? ⟨b, off + i * 6 + 1, none⟩ = some (.int .u64 (Z i 1)) ∧ wr.cell? ⟨b, off + i * 6 + 2, none⟩ = some (.int .u64 (Z i 2)) ∧
      wr.cell? ⟨b, off + i * 6 + 3, none⟩ = some (.int .i64 (Z i 3)) ∧ wr.cell? ⟨b, off + i * 6 + 4, none⟩ = some (.int .i64 (Z i 4)) ∧ wr.cell? ⟨b, off + i * 6 + 5, none⟩ = some (.int .i64 (Z i 5)) := by
  obtain ⟨b, off, rfl, hbl, hc⟩ := h.at hi (by decide)
  refine ⟨b, off, rfl, ?_, ?_, ?_, ?_, ?_, ?_⟩
  · rw [hb.cell (p := ⟨b, _, none⟩) hbl]; exact (hc i hi 0 .i64 rfl).1
  · rw [hb.cell (p := ⟨b, _, none⟩) hbl]; exact (hc i hi 1 .u64 rfl).1
  · rw [hb.cell (p := ⟨b, _, none⟩) hbl]; exact (hc i hi 2 .u64 rfl).1
  · rw [hb.cell (p := ⟨b, _, none⟩) hbl]; exact (hc i hi 3 .i64 rfl).1
  · rw [hb.cell (p := ⟨b, _, none⟩) hbl]; exact (hc i hi 4 .i64 rfl).1
  · rw [hb.cell (p := ⟨b, _, none⟩) hbl]; exact (hc i hi 5 .i64 rfl).1

theorem Try.info48 : (Try.prog.info? 48).map (fun i => (i.zero, i.size, i.bytes)) = some (some (.int .i8 0), 1, 1) := by kernel_rfl

theorem plRun_start {w w1 w2 w3 w4 : World} (hw1 : w1 = (w.alloc (.map #[] 0)).alloc (.cells (mergerCells (.map (some w.heap.size)) (.slice none 0 0) (.slice none 0 0) (.map none)) 71)) {n : Nat} {xs ys zs : List Value}
    (hown : w2.ownsRow 0 30 1 (.slice (some ⟨w1.heap.size, 0, none⟩) n n) n xs) (hg : w1.grownBy w2 none)
    (hown2 : w3.ownsRow 0 48 1 (.slice (some ⟨w2.heap.size, 0, none⟩) n n) n ys) (hg2 : w2.grownBy w3 none)
    (hown3 : w4.ownsRow 0 3 1 (.slice (some ⟨w3.heap.size, 0, none⟩) n n) n zs) (hg3 : w3.grownBy w4 none) (Z : Nat → Nat → Int) :
    w1.heap.size = w.heap.size + 2 ∧ w.heap.size + 2 < w2.heap.size ∧ w2.heap.size < w3.heap.size ∧ w3.heap.size < w4.heap.size ∧
    PlRun w w4.heap.size (w.heap.size + 1) (w.heap.size + 2) w2.heap.size w3.heap.size n Z 0 w4 (mergerCells (.map (some w.heap.size)) (.slice none 0 0) (.slice none 0 0) (.map none)) (.slice none 0 0) [] (fun _ => newTx 0 0 0 0 0 0 (.slice none 0 0)) [] := by
  have hsz : w1.heap.size = w.heap.size + 2 := by rw [hw1]; simp
  have hA := (hown.lt w1.heap.size rfl).2
  have hS := (hown2.lt w2.heap.size rfl).2
  have hC := (hown3.lt w3.heap.size rfl).2
  have b12 : Below w1.heap.size w1 w2 := (Below.refl _ _).grown hg (Nat.le_refl _) (by intro k hk; cases hk)
  have b23 : Below w2.heap.size w2 w3 := (Below.refl _ _).grown hg2 (Nat.le_refl _) (by intro k hk; cases hk)
  have b34 : Below w3.heap.size w3 w4 := (Below.refl _ _).grown hg3 (Nat.le_refl _) (by intro k hk; cases hk)
  have b14 : Below (w.heap.size + 2) w1 w4 := (b12.mono (by omega)).trans ((b23.mono (by omega)).trans (b34.mono (by omega)))
  have hb01 : Below w.heap.size w w1 := by rw [hw1]; exact ((Below.refl _ _).alloc (Nat.le_refl _) _).alloc (by simp) _
  have hAll : AllAt w2 (w.heap.size + 2) n [] := by
    rcases hown.2 with ⟨h1, _⟩ | ⟨g, cap, cur, hv, _, hh, _, _, hs, _⟩
    · cases h1
    · simp at hv
      obtain ⟨rfl, rfl⟩ := hv
      refine ⟨cur, ?_, by simpa using hs, ?_⟩
      · rw [← hsz]; exact hh
      · intro k t hk; simp at hk
  refine ⟨hsz, by omega, hS, hC, ⟨mg_init w _ _ (by omega) (by rw [← hw1]; exact b14) (Nat.le_refl _), List.Perm.refl _, rfl, (hAll.below b23).below b34, hb01.trans (b14.mono (by omega)), ?_⟩, (ArrAt.of_own hown2 rfl _).below b34, ArrAt.of_own hown3 rfl _⟩
  intro k t hk; simp at hk

/-- One round of the first loop, behind ZZplace: the two stores. -/
theorem PlRun.step {w : World} {base M A S Cm n : Nat} {Z : Nat → Nat → Int} {i : Nat} {wr : World} {mc : Array Value} {vp : Value} {P : List Nat} {T : Nat → Tx} {al : List Nat} (h : PlRun w base M A S Cm n Z i wr mc vp P T al) (hMw : w.heap.size ≤ M) (hMA : M < A) (hAS : A < S) (hSC : S < Cm) (hCb : Cm < base) (hin : i < n)
    {W w' : World} (hWb : Below wr.heap.size wr W) (hk : Kept (fun b => b = A ∨ MX M vp (.slice none 0 0) P [] b) W w') {mc' : Array Value} {vp' : Value} {P' : List Nat} {T' : Nat → Tx} {al' : List Nat} (hpl : PlAll w base M A n Z (i + 1) w' mc' vp' P' T' al') :
    ArrAt w' S 48 n (fun _ => .int .i8 1) i ∧ ArrAt (w'.setCell ⟨S, i, none⟩ (.int .i8 1)) Cm 3 n (fun k => .int .i64 (Z k 4)) i ∧
    PlRun w base M A S Cm n Z (i + 1) ((w'.setCell ⟨S, i, none⟩ (.int .i8 1)).setCell ⟨Cm, i, none⟩ (.int .i64 (Z i 4))) mc' vp' P' T' al' := by
  have nX : ∀ b, b < base → b ≠ M → b ≠ A → ¬ (b = A ∨ MX M vp (.slice none 0 0) P [] b) := by
    rintro b hb hbM hbA (e | e)
    · exact hbA e
    · rcases h.pl.mg.mx_ge e with e | e <;> omega
  have hsz := h.pl.bel.size
  have s1 := (h.sta.below hWb).kept hk (nX S (by omega) (by omega) (by omega))
  have c1 := (h.cma.below hWb).kept hk (nX Cm (by omega) (by omega) (by omega))
  have kS : Kept (fun b => b = S) w' (w'.setCell ⟨S, i, none⟩ (.int .i8 1)) := Kept.setCell (X := fun b => b = S) (Kept.refl _ _) (p := ⟨S, i, none⟩) rfl _
  have kC : Kept (fun b => b = Cm) (w'.setCell ⟨S, i, none⟩ (.int .i8 1)) ((w'.setCell ⟨S, i, none⟩ (.int .i8 1)).setCell ⟨Cm, i, none⟩ (.int .i64 (Z i 4))) := Kept.setCell (X := fun b => b = Cm) (Kept.refl _ _) (p := ⟨Cm, i, none⟩) rfl _
  have c2 := c1.kept kS (by omega)
  refine ⟨s1, c2, ?_, ?_, ?_⟩
  · refine (hpl.kept kS ?_ (by omega) (by intro b e; omega)).kept kC ?_ (by omega) (by intro b e; omega)
    · intro b hb e; rcases hpl.mg.mx_ge hb with e2 | e2 <;> omega
    · intro b hb e; rcases hpl.mg.mx_ge hb with e2 | e2 <;> omega
  · exact (s1.store1 hin rfl).kept kC (by omega)
  · exact c2.store1 hin rfl

end Go.Proofs.Qxb6604710a
