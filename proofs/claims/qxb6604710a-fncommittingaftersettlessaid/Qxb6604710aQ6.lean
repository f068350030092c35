import Derived.Test.Qxb6604710aQ5
import Derived.Deep.LoopGhost
namespace Go.Proofs.Qxb6604710a
open Go.RowKit

theorem m_push (w : World) (a : Addr) : (Go.method 264 89 (.pointer (some a)) "Push").run Try.prog w = .ok (107, .pointer (some a)) w := by
  kernel_rfl
theorem m_pop (w : World) (a : Addr) : (Go.method 264 89 (.pointer (some a)) "Pop").run Try.prog w = .ok (106, .pointer (some a)) w := by
  kernel_rfl
theorem m_len0 (w : World) (a : Addr) : (Go.method 264 89 (.pointer (some a)) "Len").run Try.prog w = (do let v ← load a; pure (100, v) : Sem (FuncId × Value)).run Try.prog w := by
  kernel_rfl
theorem m_less0 (w : World) (a : Addr) : (Go.method 264 89 (.pointer (some a)) "Less").run Try.prog w = (do let v ← load a; pure (101, v) : Sem (FuncId × Value)).run Try.prog w := by
  kernel_rfl
theorem m_swap0 (w : World) (a : Addr) : (Go.method 264 89 (.pointer (some a)) "Swap").run Try.prog w = (do let v ← load a; pure (102, v) : Sem (FuncId × Value)).run Try.prog w := by
  kernel_rfl

section
variable {w : World} {base M k : Nat} {mc : Array Value} {v : Value} {ids : List Nat} {T : Nat → Tx}

theorem Que.below (h : Que w base M k mc v ids T) {w' : World} (hb : Below w.heap.size w w') : Que w' base M k mc v ids T := by
  have hM : M < w.heap.size := by
    rcases Nat.lt_or_ge M w.heap.size with h1 | h1
    · exact h1
    · have := h.mer; rw [Array.getElem?_eq_none h1] at this; cases this
  refine ⟨(hb.block M hM).trans h.mer, h.var, ?_, fun i t hi => (h.tx i t hi).below hb (h.tx i t hi).lt⟩
  obtain ⟨h1, h2⟩ := h.own
  refine ⟨h1, ?_⟩
  rcases h2 with h2 | ⟨g, cap, cur, hv, hg, hh, r⟩
  · exact Or.inl h2
  · have hgl : g < w.heap.size := by
      rcases Nat.lt_or_ge g w.heap.size with h1 | h1
      · exact h1
      · rw [Array.getElem?_eq_none h1] at hh; cases hh
    exact Or.inr ⟨g, cap, cur, hv, hg, (hb.block g hgl).trans hh, r⟩

theorem lt_of_some {l : List Nat} {i t : Nat} (h : l[i]? = some t) : i < l.length := by
  rcases Nat.lt_or_ge i l.length with h1 | h1
  · exact h1
  · rw [List.getElem?_eq_none h1] at h; cases h

theorem Que.less (h : Que w base M k mc v ids T) {i j a b : Nat} (hi : ids[i]? = some a) (hj : ids[j]? = some b) :
    Calls Try.prog 101 #[v, .int .i64 i, .int .i64 j] w fun e w' => e = .returned (.bool (LT T a b)) ∧ Below w.heap.size w w' := by
  have hil := lt_of_some hi
  have hjl := lt_of_some hj
  obtain ⟨g, cap, cur, hv, hg, hh, _, _⟩ := h.arr (by omega)
  have s1 := h.slot hv hi
  have s2 := h.slot hv hj
  subst hv
  exact less_any w g ids.length cap i j a b ((T a).at i) ((T b).at j) hil hjl s1 s2 (h.tx i a hi) (h.tx j b hj)

theorem Que.drewN (h : Que w base M k mc v ids T) (n : Nat) : Que (w.drewN n) base M k mc v ids T := ⟨h.mer, h.var, h.own, h.tx⟩

theorem Que.swapped {g cap : Nat} {cur : Array Value} (h : Que w base M k mc (.slice (some ⟨g, 0, none⟩) ids.length cap) ids T) (hh : w.heap[g]? = some (.cells cur 30 (0, 0)))
    {i j a b : Nat} (hi : i < ids.length) (hj : j < ids.length) (hij : i ≠ j) (ha : ids[i]? = some a) (hb : ids[j]? = some b) :
    Que ((((w.setCell ⟨g, i, none⟩ (ptr b)).setCell ⟨g, j, none⟩ (ptr a)).setCell ⟨b, 10, none⟩ (.int .i64 i)).setCell ⟨a, 10, none⟩ (.int .i64 j)) base M k mc (.slice (some ⟨g, 0, none⟩) ids.length cap) (sw ids i j) T := by
  have nag := h.ne_of hh ha
  have nbg := h.ne_of hh hb
  have nam := h.ne_mer ha
  have nbm := h.ne_mer hb
  have ngm := h.g_ne_mer hh
  have nab : a ≠ b := fun e => hij (h.inj ha (e ▸ hb))
  have ta := h.tx i a ha
  have tb := h.tx j b hb
  refine ⟨?_, h.var, ?_, ?_⟩
  · rw [Below.heap_setCell _ _ _ _ (Ne.symm nam), Below.heap_setCell _ _ _ _ (Ne.symm nbm), Below.heap_setCell _ _ _ _ (Ne.symm ngm), Below.heap_setCell _ _ _ _ (Ne.symm ngm)]
    exact h.mer
  · rw [sw_length]
    have o1 := (h.own.stored i (ptr b)).1
    have o2 := (o1.stored j (ptr a)).1
    have e : ((List.map ptr ids).set i (ptr b)).set j (ptr a) = (sw ids i j).map ptr := by
      unfold sw
      rw [List.map_set, List.map_set]
      simp [List.getD_eq_getElem?_getD, ha, hb]
    rw [e] at o2
    have o3 := ownsRow_other (a := ⟨b, 10, none⟩) o2 (by simpa [Value.ownBlock] using Ne.symm nbg) (.int .i64 i)
    exact ownsRow_other (a := ⟨a, 10, none⟩) o3 (by simpa [Value.ownBlock] using Ne.symm nag) (.int .i64 j)
  · intro x t hx
    rw [sw_getElem? ids hi hj] at hx
    by_cases e1 : x = i
    · subst e1
      rw [if_pos rfl, hb] at hx
      cases hx
      exact (((tb.other (a := ⟨g, x, none⟩) nbg _).other (a := ⟨g, j, none⟩) nbg _).reindex x).other (a := ⟨a, 10, none⟩) (Ne.symm nab) _
    · rw [if_neg e1] at hx
      by_cases e2 : x = j
      · subst e2
        rw [if_pos rfl, ha] at hx
        cases hx
        exact (((ta.other (a := ⟨g, i, none⟩) nag _).other (a := ⟨g, x, none⟩) nag _).other (a := ⟨b, 10, none⟩) nab _).reindex x
      · rw [if_neg e2] at hx
        have tt := h.tx x t hx
        have ntg := h.ne_of hh hx
        exact (((tt.other (a := ⟨g, i, none⟩) ntg _).other (a := ⟨g, j, none⟩) ntg _).other (a := ⟨b, 10, none⟩) (fun e => e2 (h.inj hx (e ▸ hb))) _).other (a := ⟨a, 10, none⟩) (fun e => e1 (h.inj hx (e ▸ ha))) _

theorem Que.swap (h : Que w base M k mc v ids T) {i j : Nat} (hi : i < ids.length) (hj : j < ids.length) (hij : i ≠ j) :
    Calls Try.prog 102 #[v, .int .i64 i, .int .i64 j] w fun e w' => e = .returned (.tuple #[]) ∧ Que w' base M k mc v (sw ids i j) T ∧ Kept (QX v ids) w w' := by
  obtain ⟨a, ha⟩ : ∃ a, ids[i]? = some a := ⟨_, List.getElem?_eq_getElem hi⟩
  obtain ⟨b, hb⟩ : ∃ b, ids[j]? = some b := ⟨_, List.getElem?_eq_getElem hj⟩
  obtain ⟨g, cap, cur, hv, hg, hh, _, _⟩ := h.arr (by omega)
  have s1 := h.slot hv ha
  have s2 := h.slot hv hb
  have nab : a ≠ b := fun e => hij (h.inj ha (e ▸ hb))
  have ta := h.tx i a ha
  have tb := h.tx j b hb
  subst hv
  have fz : ∀ o, w.frozen? ⟨g, o, none⟩ = false := fun o => by unfold World.frozen?; simp [hh]
  have key := h.swapped hh hi hj hij ha hb
  have hma : a ∈ ids := List.mem_of_getElem? ha
  have hmb : b ∈ ids := List.mem_of_getElem? hb
  have kk : Kept (QX (.slice (some ⟨g, 0, none⟩) ids.length cap) ids) w ((((w.setCell ⟨g, i, none⟩ (ptr b)).setCell ⟨g, j, none⟩ (ptr a)).setCell ⟨b, 10, none⟩ (.int .i64 i)).setCell ⟨a, 10, none⟩ (.int .i64 j)) :=
    ((((Kept.refl _ w).setCell (p := ⟨g, i, none⟩) (Or.inr rfl) _).setCell (p := ⟨g, j, none⟩) (Or.inr rfl) _).setCell (p := ⟨b, 10, none⟩) (Or.inl hmb) _).setCell (p := ⟨a, 10, none⟩) (Or.inl hma) _
  refine (swap_any w g ids.length cap i j a b hi hj hij s1 s2 (fz i) (fz j) (h.ne_of hh ha) (h.ne_of hh hb) nab _ _ ta.c10 tb.c10 (ta.frozen 10) (tb.frozen 10)).mono ?_
  rintro e w' ⟨he, n, hw'⟩
  rw [hw']
  exact ⟨he, key.drewN n, kk.drewN n⟩
end

end Go.Proofs.Qxb6604710a
