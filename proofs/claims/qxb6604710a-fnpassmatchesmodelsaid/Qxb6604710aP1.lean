import Derived.Test.Qxb6604710aProg
import Derived.WalkKit
import Derived.KernelRfl
import Derived.DeepKeys4
import Derived.Maps.OwnSet
import Derived.Maps.RangeWalk
namespace Go.Proofs.Qxb6604710a
open Go.RowKit Go.Maps

theorem key73 : Keyed Try.prog 73 :=
  Keyed.of_law (deep_law_laid (by kernel_rfl) (m := 2) (by omega) (of_decide_eq_true (by kernel_rfl)) (by kernel_rfl) (by rw [Try.underlying73]))

theorem key3 : Keyed Try.prog 3 := int_keyed Try.underlying3

/-- A transaction's name as a map's key. -/
def tidV (s n : Int) : Value := .agg #[.int .i64 s, .int .u64 n]

/-- What it reads as. -/
def tk (s n : Int) : Lit := .string (keyBytes [.int .i64 s, .int .u64 n])

theorem cells73 : Try.prog.cellsOf 73 = 2 := by kernel_rfl
theorem cells3 : Try.prog.cellsOf 3 = 1 := by kernel_rfl
theorem cells23 : Try.prog.cellsOf 23 = 1 := by kernel_rfl
theorem keyType73 : Try.prog.keyType 73 = true := by kernel_rfl

theorem keyOf_tid {s n : Int} (hs : (Lit.int .i64 s).wf = true) (hn : (Lit.int .u64 n).wf = true) : keyOf Try.prog 73 (tidV s n) = some (tk s n) := by
  have hf : (tidV s n).formed Try.prog 73 = true := by simp [tidV, Value.formed, Try.underlying73, cells73]
  unfold keyOf
  rw [Try.underlying73]
  simp only [keyType73, hf, Bool.and_self, if_true]
  obtain ⟨m, hm⟩ : ∃ m, Try.prog.types.size + 1 = m + 2 := ⟨Try.prog.types.size - 1, by
    have : (73 : Nat) < Try.prog.types.size := of_decide_eq_true (by kernel_rfl)
    omega⟩
  rw [hm]
  simp [Program.keyLits, Try.underlying73, Try.underlying3, Try.underlying23, cells73, cells3, cells23, tidV, Value.cells, hs, hn, tk]

theorem tk_inj {s n s' n' : Int} (hs : (Lit.int .i64 s).wf = true) (hn : (Lit.int .u64 n).wf = true) (hs' : (Lit.int .i64 s').wf = true) (hn' : (Lit.int .u64 n').wf = true) (h : tk s n = tk s' n') : s = s' ∧ n = n' := by
  have := key73.inj (keyOf_tid hs hn) (h ▸ keyOf_tid hs' hn')
  simpa [tidV] using this

theorem keyOf73 (v : Value) : ∃ m, keyOf Try.prog 73 v = if v.formed Try.prog 73 = true then (Try.prog.keyLits (m + 2) 73 v.cells.toList).map fun ls => .string (keyBytes ls) else none := by
  obtain ⟨m, hm⟩ : ∃ m, Try.prog.types.size + 1 = m + 2 := ⟨Try.prog.types.size - 1, by
    have : (73 : Nat) < Try.prog.types.size := of_decide_eq_true (by kernel_rfl)
    omega⟩
  refine ⟨m, ?_⟩
  unfold keyOf
  rw [Try.underlying73]
  simp only [keyType73, Bool.true_and]
  rw [hm]

theorem keyLits_int {m : Nat} {t : TypeId} {q : IntKind} (ht : Try.prog.underlying t = some (.int q)) {v : Value} {ls : List Lit} (h : Try.prog.keyLits (m + 1) t [v] = some ls) : ∃ x, v = .int q x ∧ (Lit.int q x).wf = true := by
  unfold Program.keyLits at h
  rw [ht] at h
  cases v <;> simp at h
  rename_i q' x
  exact ⟨x, by rw [h.1.1], h.1.2⟩

theorem two_of_size {cs : Array Value} (h : cs.size = 2) : ∃ a b, cs = #[a, b] := by
  obtain ⟨l⟩ := cs
  match l, h with
  | [a, b], _ => exact ⟨a, b, rfl⟩

set_option maxRecDepth 100000 in
theorem keyOf_tid_inv {v : Value} {l : Lit} (h : keyOf Try.prog 73 v = some l) : ∃ s n, v = tidV s n ∧ l = tk s n ∧ (Lit.int .i64 s).wf = true ∧ (Lit.int .u64 n).wf = true := by
  have h0 := h
  obtain ⟨m, hm⟩ := keyOf73 v
  rw [hm] at h
  split at h
  · rename_i hf
    cases v <;> simp [Value.formed, Try.underlying73, cells73] at hf
    rename_i cs
    obtain ⟨c0, c1, rfl⟩ := two_of_size hf
    simp only [Value.cells] at h
    have h2 : ∃ a b, Try.prog.keyLits (m + 1) 3 [c0] = some a ∧ Try.prog.keyLits (m + 1) 23 [c1] = some b := by
      rw [Option.map_eq_some_iff] at h
      obtain ⟨ls, h, _⟩ := h
      unfold Program.keyLits at h
      simp [Try.underlying73, cells73, cells3, cells23] at h
      obtain ⟨x, hx, h⟩ := Option.bind_eq_some_iff.1 h
      cases hy : Try.prog.keyLits (m + 1) 23 [c1] with
      | none => rw [hy] at h; simp at h
      | some y => exact ⟨_, _, hx, rfl⟩
    obtain ⟨a, b, ha, hb⟩ := h2
    obtain ⟨s, rfl, ws⟩ := keyLits_int Try.underlying3 ha
    obtain ⟨n, rfl, wn⟩ := keyLits_int Try.underlying23 hb
    have := keyOf_tid ws wn
    rw [show keyOf Try.prog 73 (tidV s n) = some l from h0] at this
    cases this
    exact ⟨s, n, rfl, rfl, ws, wn⟩
  · cases h

end Go.Proofs.Qxb6604710a
