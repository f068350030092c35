import Derived.Test.Qxb6604710aQ9
namespace Go.Proofs.Qxb6604710a
open Go.RowKit
attribute [local go_sem] m_len0 m_less0 m_swap0 m_push m_pop

theorem Kept.trans2 {X Y : Nat → Prop} {a b c : World} (h : Kept X a b) (k : Kept Y b c) (hy : ∀ i, i < a.heap.size → Y i → X i) : Kept X a c :=
  ⟨k.os.trans h.os, k.tape.trans h.tape, k.output.trans h.output, Nat.le_trans h.size k.size, fun i hi hx => (k.block i (Nat.lt_of_lt_of_le hi h.size) (fun e => hx (hy i hi e))).trans (h.block i hi hx)⟩

theorem Que.shape {w : World} {base M k : Nat} {mc : Array Value} {v : Value} {ids : List Nat} {T : Nat → Tx} (hq : Que w base M k mc v ids T) : ∃ ao cap, v = .slice ao ids.length cap := by
  rcases hq.own.2 with ⟨rfl, h0⟩ | ⟨g, cap, cur, rfl, _⟩
  · exact ⟨none, 0, by rw [h0]⟩
  · exact ⟨_, _, rfl⟩

set_option maxHeartbeats 400000 in
theorem len_slice (w : World) (ao : Option Addr) (n cap : Nat) :
    Calls Try.prog 100 #[.slice ao n cap] w fun e w' => e = .returned (.int .i64 n) ∧ w' = w := by
  go_enter Try.func100, Try.ntmps100
  go_wp2_with fail
  go_ret
  exact ⟨rfl, rfl⟩

theorem Que.len {w : World} {base M k : Nat} {mc : Array Value} {v : Value} {ids : List Nat} {T : Nat → Tx} (hq : Que w base M k mc v ids T) :
    Calls Try.prog 100 #[v] w fun e w' => e = .returned (.int .i64 ids.length) ∧ w' = w := by
  obtain ⟨ao, cap, rfl⟩ := hq.shape
  exact len_slice w ao _ cap

/-- What a push onto a heap may turn. -/
def HX (M : Nat) (v : Value) (ids : List Nat) (t : Nat) (b : Nat) : Prop := b = M ∨ b = t ∨ b ∈ ids ∨ v.ownBlock = some b

set_option maxRecDepth 100000 in
set_option maxHeartbeats 1000000 in
theorem hpush_any (w : World) (base M k : Nat) (mc : Array Value) (v : Value) (ids : List Nat) (T : Nat → Tx) (t j : Nat)
    (hq : Que w base M k mc v ids T) (ht : IsTx w t ((T t).at j)) (htm : t ∉ ids) (hbig : ids.length < 1000000) (hbase : base ≤ w.heap.size) (hh : HeapOK (LT T) ids.length (gd ids)) :
    Calls Try.prog 45 #[.iface 89 (.pointer (some ⟨M, k, none⟩)), .iface 30 (.pointer (some ⟨t, 0, none⟩))] w fun e w' => e = .returned (.tuple #[]) ∧
      ∃ v' ids', Que w' base M k (mc.setIfInBounds k v') v' ids' T ∧ ids'.Perm (ids ++ [t]) ∧ HeapOK (LT T) (ids.length + 1) (gd ids') ∧ Kept (HX M v ids t) w w' ∧
        (v'.ownBlock = v.ownBlock ∨ ∃ h, v'.ownBlock = some h ∧ w.heap.size ≤ h) := by
  have hcell := hq.cell
  have hp := hide (qpush_any w base M k mc v ids T t j hq ht htm (by omega) hbase)
  clear hq ht
  go_enter Try.func45, Try.ntmps45
  go_wp2_with fail
  refine (unhide hp).mono ?_
  rintro e w1 ⟨rfl, v', hq1, hk1, hv1⟩
  have hcell1 := hq1.cell
  have hlen1 := hide hq1.len
  clear hcell hp
  go_wp2_with fail
  refine (unhide hlen1).mono ?_
  rintro e w2 ⟨rfl, rfl⟩
  have hl2 : (ids ++ [t]).length = ids.length + 1 := by simp
  have hg : ∀ i, i < ids.length → gd (ids ++ [t]) i = gd ids i := by
    intro i hi
    simp [gd, List.getD_eq_getElem?_getD, List.getElem?_append, hi]
  have hup := hide (up_any w2 base M k _ v' (ids ++ [t]) T (ids.length + 1) ids.length hq1 (by omega) (by omega) (by omega) (up_push hh hg))
  have Hk := hide hk1
  have Hv := hide hv1
  clear hlen1 hq1 hg hk1 hv1
  generalize (ids ++ [t]).length = L at *
  go_wp2_with fail
  refine (unhide hup).mono ?_
  rintro e w3 ⟨rfl, ids', hq3, hperm, hout, hheap, hk3⟩
  go_wp2_with fail
  go_end0
  refine ⟨rfl, v', ids', hq3, hperm, hheap, ?_, ?_⟩
  · refine Kept.trans2 ((unhide Hk).mono ?_) hk3 ?_
    · rintro b _ (h | h | h)
      · exact Or.inl h
      · exact Or.inr (Or.inl h)
      · exact Or.inr (Or.inr (Or.inr h))
    · rintro b hb (h | h)
      · rcases List.mem_append.1 h with h | h
        · exact Or.inr (Or.inr (Or.inl h))
        · exact Or.inr (Or.inl (by simpa using h))
      · rcases unhide Hv with e | e
        · exact Or.inr (Or.inr (Or.inr (e.symm.trans h)))
        · rw [e] at h
          cases h
          omega
  · rcases unhide Hv with e | e
    · exact Or.inl e
    · exact Or.inr ⟨_, e, by omega⟩

end Go.Proofs.Qxb6604710a
