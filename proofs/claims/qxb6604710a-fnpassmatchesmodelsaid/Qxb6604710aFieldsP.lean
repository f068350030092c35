import Derived.Test.Qxb6604710aPD
namespace Go.Proofs.Qxb6604710a
open Go.RowKit
theorem fieldsP : ∀ c k, pks[c]? = some k → ∃ f : Field, (#[{ name := "Site", type := 3, offset := 0, embedded := false, tag := "", pkgPath := "", byteOffset := 0 },
        { name := "TidSite", type := 3, offset := 1, embedded := false, tag := "", pkgPath := "", byteOffset := 8 },
        { name := "TidN", type := 23, offset := 2, embedded := false, tag := "", pkgPath := "", byteOffset := 16 },
        { name := "Lsn", type := 23, offset := 3, embedded := false, tag := "", pkgPath := "", byteOffset := 24 }] : Array Field)[c]? = some f ∧ f.offset = c ∧ Try.prog.cellsOf f.type = 1 ∧ Try.prog.underlying f.type = some (.int k) := by
  have c3 : Try.prog.cellsOf 3 = 1 := by kernel_rfl
  have c23 : Try.prog.cellsOf 23 = 1 := by kernel_rfl
  intro c k h
  match c, h with
  | 0, h => simp [pks] at h; subst h; exact ⟨_, rfl, rfl, c3, Try.underlying3⟩
  | 1, h => simp [pks] at h; subst h; exact ⟨_, rfl, rfl, c3, Try.underlying3⟩
  | 2, h => simp [pks] at h; subst h; exact ⟨_, rfl, rfl, c23, Try.underlying23⟩
  | 3, h => simp [pks] at h; subst h; exact ⟨_, rfl, rfl, c23, Try.underlying23⟩
end Go.Proofs.Qxb6604710a
