import Derived.Test.Qxb6604710aQ8
import Derived.Test.Qxb6604710aApp
namespace Go.Proofs.Qxb6604710a
open Go.RowKit
theorem run_assert30 (w : World) (t : Nat) : (Instr.typeAssert (.iface 30 (.pointer (some ⟨t, 0, none⟩))) 20 30 false).run Try.prog w = .ok (.pointer (some ⟨t, 0, none⟩)) w := by kernel_rfl
attribute [local go_sem] m_len0 m_less0 m_swap0 m_push m_pop run_assert30

theorem Try.info30 : (Try.prog.info? 30).map (fun i => (i.zero, i.size, i.bytes)) = some (some (.pointer none), 1, 8) := by kernel_rfl

theorem Que.ltM {w : World} {base M k : Nat} {mc : Array Value} {v : Value} {ids : List Nat} {T : Nat → Tx} (h : Que w base M k mc v ids T) : M < w.heap.size := by
  rcases Nat.lt_or_ge M w.heap.size with h1 | h1
  · exact h1
  · have := h.mer; rw [Array.getElem?_eq_none h1] at this; cases this

theorem Que.own_ne {w : World} {base M k : Nat} {mc : Array Value} {v : Value} {ids : List Nat} {T : Nat → Tx} (h : Que w base M k mc v ids T) {b : Nat} {cs : Array Value} {e : TypeId} (hb : w.heap[b]? = some (.cells cs e (0, 0))) (he : e ≠ 30) : v.ownBlock ≠ some b := by
  rcases h.own.2 with ⟨rfl, _⟩ | ⟨g, cap, cur, rfl, hg, hh, _⟩
  · simp [Value.ownBlock]
  · intro hx
    simp [Value.ownBlock] at hx
    subst hx
    rw [hb] at hh
    simp at hh
    exact he hh.2

theorem Que.own_lt {w : World} {base M k : Nat} {mc : Array Value} {v : Value} {ids : List Nat} {T : Nat → Tx} (h : Que w base M k mc v ids T) {b : Nat} (hb : v.ownBlock = some b) : base ≤ b ∧ b < w.heap.size := h.own.lt b hb

/-- What a push may turn. -/
def PX (M : Nat) (v : Value) (t : Nat) (b : Nat) : Prop := b = M ∨ b = t ∨ v.ownBlock = some b

/-- The world behind the two stores and the append of a push. -/
theorem Que.pushed {w : World} {base M k : Nat} {mc : Array Value} {v : Value} {ids : List Nat} {T : Nat → Tx} (h : Que w base M k mc v ids T) {t j : Nat} (ht : IsTx w t ((T t).at j)) (htm : t ∉ ids) {o : Obj} {w1 : World} {v' : Value}
    (hown : w1.ownsRow base 30 1 v' (ids.length + 1) (ids.map ptr ++ [ptr t])) (hg : ((w.setCell ⟨t, 10, none⟩ (.int .i64 ids.length)).alloc o).grownBy w1 v.ownBlock)
    (hv' : v'.ownBlock = v.ownBlock ∨ v'.ownBlock = some (w.heap.size + 1)) :
    Que (w1.setCell ⟨M, k, none⟩ v') base M k (mc.setIfInBounds k v') v' (ids ++ [t]) T ∧ Kept (PX M v t) w (w1.setCell ⟨M, k, none⟩ v') := by
  have hMt : M ≠ t := by
    rintro rfl
    have h1 := h.mer
    rw [show w.heap[M]? = _ from ht] at h1
    simp at h1
  have hM := h.ltM
  have htl := ht.lt
  have hk : k < mc.size := by
    rcases Nat.lt_or_ge k mc.size with h1 | h1
    · exact h1
    · have := h.var; rw [Array.getElem?_eq_none h1] at this; cases this
  have nM := h.own_ne h.mer (by decide)
  have nt := h.own_ne ht (by decide)
  have hv'M : v'.ownBlock ≠ some M := by
    rcases hv' with e | e
    · rw [e]; exact nM
    · rw [e]; intro e'; cases e'; omega
  have hsz : ((w.setCell ⟨t, 10, none⟩ (.int .i64 ids.length)).alloc o).heap.size = w.heap.size + 1 := by simp [World.setCell]
  have blk : ∀ b, b < w.heap.size → v.ownBlock ≠ some b → b ≠ t → w1.heap[b]? = w.heap[b]? := by
    intro b hb1 hb2 hb3
    rw [hg.block b (by omega) (fun e => hb2 e.symm), Below.heap_alloc _ _ _ (by simpa [World.setCell] using hb1), Below.heap_setCell _ _ _ _ hb3]
  refine ⟨⟨?_, ?_, ?_, ?_⟩, ?_⟩
  · have e := (blk M hM nM hMt).trans h.mer
    simp only [World.setCell, Array.getElem?_modify, if_true, e]
    simp
  · simp [hk]
  · have e1 : (ids ++ [t]).length = ids.length + 1 := by simp
    have e2 : (ids ++ [t]).map ptr = ids.map ptr ++ [ptr t] := by simp
    rw [e1, e2]
    exact ownsRow_other (a := ⟨M, k, none⟩) hown hv'M v'
  · intro i u hu
    rw [List.getElem?_append] at hu
    split at hu
    · rename_i hi
      have tt := h.tx i u hu
      have hut : u ≠ t := fun e => htm (e ▸ List.mem_of_getElem? hu)
      refine IsTx.other ?_ (h.ne_mer hu) _
      unfold IsTx
      rw [blk u tt.lt (h.own_ne tt (by decide)) hut]
      exact tt
    · rename_i hi
      have hi2 : i = ids.length := by
        rcases Nat.lt_or_ge i (ids.length + 1) with h1 | h1
        · omega
        · rw [List.getElem?_eq_none (by simp; omega)] at hu; cases hu
      subst hi2
      simp at hu
      subst hu
      refine IsTx.other ?_ (Ne.symm hMt) _
      have t1 : IsTx (w.setCell ⟨t, 10, none⟩ (.int .i64 ids.length)) t ((T t).at ids.length) := ht.reindex ids.length
      unfold IsTx at *
      rw [hg.block t (by omega) (fun e => nt e.symm), Below.heap_alloc _ _ _ (by simpa [World.setCell] using htl)]
      exact t1
  · refine Kept.setCell ?_ (Or.inl rfl) _
    refine ((Kept.setCell (Kept.refl _ w) (p := ⟨t, 10, none⟩) (Or.inr (Or.inl rfl)) (.int .i64 ids.length)).alloc o).grown hg ?_
    intro b hb
    exact Or.inr (Or.inr hb)

set_option maxRecDepth 100000 in
set_option maxHeartbeats 1000000 in
theorem qpush_any (w : World) (base M k : Nat) (mc : Array Value) (v : Value) (ids : List Nat) (T : Nat → Tx) (t j : Nat)
    (hq : Que w base M k mc v ids T) (ht : IsTx w t ((T t).at j)) (htm : t ∉ ids) (hbig : ids.length ≤ 1000000) (hbase : base ≤ w.heap.size) :
    Calls Try.prog 107 #[.pointer (some ⟨M, k, none⟩), .iface 30 (.pointer (some ⟨t, 0, none⟩))] w fun e w' => e = .returned (.tuple #[]) ∧
      ∃ v', Que w' base M k (mc.setIfInBounds k v') v' (ids ++ [t]) T ∧ Kept (PX M v t) w w' ∧ (v'.ownBlock = v.ownBlock ∨ v'.ownBlock = some (w.heap.size + 1)) := by
  obtain ⟨ao, cap, rfl⟩ : ∃ ao cap, v = .slice ao ids.length cap := by
    rcases hq.own.2 with ⟨rfl, h0⟩ | ⟨g, cap, cur, rfl, _⟩
    · exact ⟨none, 0, by rw [h0]⟩
    · exact ⟨_, _, rfl⟩
  have hMt : M ≠ t := by
    rintro rfl
    have h1 := hq.mer
    rw [show w.heap[M]? = _ from ht] at h1
    simp at h1
  have hcell := hq.cell
  have hx := ht.c10
  have hxf := ht.frozen 10
  have hown := hide hq.own
  have nt := hide (hq.own_ne ht (by decide))
  have hM := hq.ltM
  have nM := hide (hq.own_ne hq.mer (by decide))
  have hmer := hide hq.mer
  have Hq := hide hq
  have Ht := hide ht
  clear hq ht
  obtain ⟨i, hi, hz0, hz1, hz2⟩ := info_parts Try.info30
  have Hi := hide hi
  have Hz0 := hide hz0
  have Hz1 := hide hz1
  have Hz2 := hide hz2
  clear hi hz0 hz1 hz2
  go_enter Try.func107, Try.ntmps107
  go_wp2_with (at_builtin; refine wpList_append_own2 _ rfl _ _ 67 rfl base 30 i (.pointer none) 1 8 Try.underlying67 (unhide Hi) (unhide Hz0) (unhide Hz1) (unhide Hz2) rfl (by omega) _ ids.length (ids.map ptr) rfl ?own _ 1 1 [ptr t] rfl rfl ?news ?one ?b1 ?b2 ?b3 ?_)
  case own => exact (ownsRow_other (a := ⟨t, 10, none⟩) (unhide hown) (unhide nt) _).alloc _
  case news =>
    intro j u hu
    match j, hu with
    | 0, hu =>
      simp at hu
      subst hu
      have e := heap_alloc_new (w.setCell ⟨t, 10, none⟩ (.int .i64 ids.length)) (Obj.cells #[Value.pointer (some ⟨t, 0, none⟩)] 30)
      have e2 : (w.setCell ⟨t, 10, none⟩ (.int .i64 ids.length)).heap.size = w.heap.size := by simp [World.setCell]
      rw [e2] at e
      show World.cell? _ ⟨w.heap.size, 0, none⟩ = _
      unfold World.cell?
      rw [e]
      rfl
  case one => simp [ptr, Value.oneCell']
  case b1 => simp only [maxLen]; omega
  case b2 => omega
  case b3 => simp [World.setCell]; omega
  intro v' w1 hown1 hg1 hv1
  obtain ⟨ao', n', cap', rfl⟩ : ∃ ao' n' cap', v' = .slice ao' n' cap' := by
    rcases hown1.2 with ⟨rfl, h0⟩ | ⟨g, cap, cur, rfl, _⟩
    · exact ⟨none, 0, 0, rfl⟩
    · exact ⟨_, _, _, rfl⟩
  obtain ⟨hque, hkept⟩ := (unhide Hq).pushed (unhide Ht) htm hown1 hg1 hv1
  have hmer1 : w1.heap[M]? = some (.cells mc 71 (0, 0)) := by
    rw [hg1.block M (by simp [World.setCell]; omega) (fun e => (unhide nM) e.symm), Below.heap_alloc _ _ _ (by simpa [World.setCell] using hM), Below.heap_setCell _ _ _ _ hMt]
    exact unhide hmer
  have hcellM : w1.cell? ⟨M, k, none⟩ = some (.slice ao ids.length cap) := by
    have := (unhide Hq).var
    unfold World.cell?; simp [hmer1, this]
  have hfzM : w1.frozen? ⟨M, k, none⟩ = false := by unfold World.frozen?; simp [hmer1]
  have Hque := hide hque
  have Hkept := hide hkept
  have Hv := hide hv1
  clear hmer1 hown1 hg1 hque hkept hv1 hcell hx hxf
  go_wp2_with fail
  go_end0
  exact ⟨rfl, _, unhide Hque, unhide Hkept, unhide Hv⟩

end Go.Proofs.Qxb6604710a
