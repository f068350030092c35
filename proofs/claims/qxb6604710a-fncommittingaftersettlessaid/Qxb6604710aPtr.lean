import Derived.Test.Qxb6604710aQ3
namespace Go.Proofs.Qxb6604710a
open Go.RowKit
theorem run_eq30 (w : World) (a b : Addr) : (Op.equal 30 (.pointer (some a)) (.pointer (some b))).run Try.prog w = (sameAddr a b).run Try.prog w := by
  kernel_rfl
theorem run_neq30_same (w : World) (a : Addr) : (binOp .neq 30 (.pointer (some a)) (.pointer (some a))).run Try.prog w = .ok (.bool false) w := by
  simp only [binOp]
  simp [run_eq30, sameAddr, go_sem]
theorem run_eql30_same (w : World) (a : Addr) : (binOp .eql 30 (.pointer (some a)) (.pointer (some a))).run Try.prog w = .ok (.bool true) w := by
  simp only [binOp]
  simp [run_eq30, sameAddr, go_sem]
theorem IsTx.shape {w : World} {t : Nat} {x : Tx} (h : IsTx w t x) : w.shape? t = some (76, 11) := by
  unfold World.shape?
  rw [show w.heap[t]? = _ from h]
  rfl
theorem run_stringish_tx (w : World) (a : Nat) (x : Tx) (ha : IsTx w a x) : (stringish ⟨a, 0, none⟩).run Try.prog w = .ok false w := by
  simp [stringish, go_sem, ha.shape, ha.frozen]
theorem run_sameAddr_tx (w : World) (a b : Nat) (x y : Tx) (ha : IsTx w a x) (hb : IsTx w b y) (hab : a ≠ b) : (sameAddr ⟨a, 0, none⟩ ⟨b, 0, none⟩).run Try.prog w = .ok false w := by
  simp [sameAddr, go_sem, hab, ha.frozen, noView, viewAt, mayBeOne, ha.shape, hb.shape, run_stringish_tx w a x ha, run_stringish_tx w b y hb]
theorem run_eql30_ne (w : World) (a b : Nat) (x y : Tx) (ha : IsTx w a x) (hb : IsTx w b y) (hab : a ≠ b) : (binOp .eql 30 (.pointer (some ⟨a, 0, none⟩)) (.pointer (some ⟨b, 0, none⟩))).run Try.prog w = .ok (.bool false) w := by
  simp only [binOp]
  simp [run_eq30, run_sameAddr_tx w a b x y ha hb hab]
theorem run_neq30_ne (w : World) (a b : Nat) (x y : Tx) (ha : IsTx w a x) (hb : IsTx w b y) (hab : a ≠ b) : (binOp .neq 30 (.pointer (some ⟨a, 0, none⟩)) (.pointer (some ⟨b, 0, none⟩))).run Try.prog w = .ok (.bool true) w := by
  simp only [binOp]
  simp [run_eq30, run_sameAddr_tx w a b x y ha hb hab]
end Go.Proofs.Qxb6604710a
