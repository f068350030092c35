import Derived.Test.Qxb6604710aP7
import Derived.Deep.DeepCutAuto
import Derived.Test.Qxb6604710aApp
namespace Go.Proofs.Qxb6604710a
open Go.RowKit

/-- Element j of a list of numbers. -/
def nth (xs : List Int) (j : Nat) : Int := xs.getD j 0

theorem nth_eq {xs : List Int} {j : Nat} (h : j < xs.length) : nth xs j = xs[j] := by simp [nth, h]
theorem nth_mem {xs : List Int} {j : Nat} (h : j < xs.length) : nth xs j ∈ xs := by rw [nth_eq h]; exact List.getElem_mem h
theorem mem_nth {xs : List Int} {x : Int} (h : x ∈ xs) : ∃ j, j < xs.length ∧ nth xs j = x := by
  obtain ⟨j, hj, e⟩ := List.getElem_of_mem h
  exact ⟨j, hj, by rw [nth_eq hj, e]⟩
theorem nth_set (xs : List Int) (i j : Nat) (y : Int) (h : i < xs.length) : nth (xs.set i y) j = if j = i then y else nth xs j := by
  unfold nth
  by_cases e : j = i
  · subst e; simp [h]
  · rw [if_neg e]; simp [Ne.symm e]
theorem nth_append_left {xs ys : List Int} {j : Nat} (h : j < xs.length) : nth (xs ++ ys) j = nth xs j := by simp [nth, h, List.getElem?_append_left]
theorem nth_append_at (xs : List Int) (y : Int) : nth (xs ++ [y]) xs.length = y := by simp [nth]
theorem nth_take {xs : List Int} {n j : Nat} (h : j < n) : nth (xs.take n) j = nth xs j := by simp [nth, h]

/-- A slice of numbers of the call's own. -/
structure Row (w : World) (base : Nat) (e : TypeId) (q : IntKind) (v : Value) (xs : List Int) : Prop where
  own : w.ownsRow base e 1 v xs.length (xs.map (Value.int q))

section
variable {w w' : World} {base : Nat} {e : TypeId} {q : IntKind} {v : Value} {xs : List Int}

theorem Row.nil (w : World) (base : Nat) (e : TypeId) (q : IntKind) : Row w base e q (.slice none 0 0) [] := ⟨World.ownsRow_nil _ _ _ _⟩

theorem Row.lt (h : Row w base e q v xs) : ∀ g, v.ownBlock = some g → base ≤ g ∧ g < w.heap.size := h.own.lt

theorem Row.same (h : Row w base e q v xs) (hb : ∀ g, v.ownBlock = some g → w'.heap[g]? = w.heap[g]?) : Row w' base e q v xs := by
  obtain ⟨h1, h2⟩ := h.own
  refine ⟨h1, ?_⟩
  rcases h2 with h2 | ⟨g, cap, cur, rfl, a, b, c⟩
  · exact Or.inl h2
  · exact Or.inr ⟨g, cap, cur, rfl, a, (hb g rfl).trans b, c⟩

theorem Row.kept {X : Nat → Prop} (h : Row w base e q v xs) (hk : Kept X w w') (hx : ∀ g, v.ownBlock = some g → ¬ X g) : Row w' base e q v xs :=
  h.same fun g hg => hk.block g (h.lt g hg).2 (hx g hg)

theorem Row.below {B : Nat} (h : Row w base e q v xs) (hk : Below B w w') (hx : ∀ g, v.ownBlock = some g → g < B) : Row w' base e q v xs :=
  h.same fun g hg => hk.block g (hx g hg)

theorem Row.alloc (h : Row w base e q v xs) (o : Obj) : Row (w.alloc o) base e q v xs := ⟨h.own.alloc o⟩
theorem Row.drewN (h : Row w base e q v xs) (k : Nat) : Row (w.drewN k) base e q v xs := h.same fun _ _ => rfl

theorem Row.form (h : Row w base e q v xs) : ∃ ao cap, v = .slice ao xs.length cap := by
  obtain ⟨h1, ⟨rfl, h2⟩ | ⟨g, cap, cur, rfl, _⟩⟩ := h.own
  · exact ⟨none, 0, by rw [h2]⟩
  · exact ⟨_, _, rfl⟩

theorem Row.at (h : Row w base e q v xs) {i : Nat} (hi : i < xs.length) : ∃ g cap, v = .slice (some ⟨g, 0, none⟩) xs.length cap ∧ base ≤ g ∧ g < w.heap.size ∧
    (∀ j, j < xs.length → w.cell? ⟨g, j, none⟩ = some (.int q (nth xs j))) ∧ (∀ j, w.frozen? ⟨g, j, none⟩ = false) := by
  have ho := h.own
  obtain ⟨h1, ⟨_, h2⟩ | ⟨g, cap, cur, rfl, _⟩⟩ := h.own
  · omega
  · have hl := ho.lt g rfl
    refine ⟨g, cap, rfl, hl.1, hl.2, fun j hj => ?_, ho.frozenAt⟩
    rw [ho.cellAt j (by omega)]
    simp [hj, nth]

theorem Row.set {g cap : Nat} (h : Row w base e q (.slice (some ⟨g, 0, none⟩) xs.length cap) xs) (i : Nat) (y : Int) :
    Row (w.setCell ⟨g, i, none⟩ (.int q y)) base e q (.slice (some ⟨g, 0, none⟩) xs.length cap) (xs.set i y) := by
  have := (h.own.stored i (.int q y)).1
  refine ⟨?_⟩
  rw [List.map_set, List.length_set]
  exact this

theorem Row.take {ao : Option Addr} {n cap : Nat} (h : Row w base e q (.slice ao n cap) xs) (m : Nat) (hm : m ≤ xs.length) : Row w base e q (.slice ao m cap) (xs.take m) := by
  refine ⟨?_⟩
  obtain ⟨h1, h2⟩ := h.own
  have hl : (xs.take m).length = m := by rw [List.length_take]; omega
  refine ⟨by simp, ?_⟩
  rcases h2 with ⟨e1, e2⟩ | ⟨g, cap', cur, e1, b1, b2, b3, b4, b5, b6⟩
  · left
    cases e1
    have : m = 0 := by omega
    subst this
    exact ⟨rfl, by simp⟩
  · right
    cases e1
    refine ⟨g, cap, cur, by rw [hl], b1, b2, by rw [hl]; omega, b4, b5, ?_⟩
    rw [hl, List.map_take, ← b6, List.take_take]
    congr 1
    omega

end

theorem cell_alloc_new (w : World) (u : Value) (e : TypeId) : (w.alloc (.cells #[u] e)).cell? ⟨w.heap.size, 0, none⟩ = some u := by
  unfold World.cell?
  rw [heap_alloc_new]
  rfl

theorem info3' : (Try.prog.info? 3).map (fun i => (i.zero, i.size, i.bytes)) = some (some (.int .i64 0), 1, 8) := by kernel_rfl
theorem info23' : (Try.prog.info? 23).map (fun i => (i.zero, i.size, i.bytes)) = some (some (.int .u64 0), 1, 8) := by kernel_rfl

/-- An append of one number. -/
theorem wpList_append_row (w : World) {ops : Array Oper} {rest : List Oper} {o : Oper} {a : Act} {Q : Exit → Act → World → Prop} (hgd : o.guard = none) (s x : Operand) (t : TypeId)
    (ho : o.op = .call { callee := .builtin .append, args := #[s, x], argTypes := #[t, t] }) (e : TypeId) (q : IntKind) (ht : Try.prog.underlying t = some (.slice e))
    (hinfo : (Try.prog.info? e).map (fun i => (i.zero, i.size, i.bytes)) = some (some (.int q 0), 1, 8))
    (base : Nat) (v : Value) (xs : List Int) (hs : a.eval s = v) (hr : Row w base e q v xs) (ad : Addr) (c : Nat) (y : Int) (hx : a.eval x = .slice (some ad) 1 c) (hc : w.cell? ad = some (.int q y))
    (hl : xs.length ≤ 1000000) (hb : base ≤ w.heap.size)
    (h : ∀ v' w', Row w' base e q v' (xs ++ [y]) → w.grownBy w' v.ownBlock → (v'.ownBlock = v.ownBlock ∨ v'.ownBlock = some w.heap.size) → wpList Try.prog ops Q rest (a.put o.dst v') w') : wpList Try.prog ops Q (o :: rest) a w := by
  obtain ⟨ti, hi, hz0, hz1, hz2⟩ := info_parts hinfo
  refine wpList_append_own2 w hgd s x t ho base e ti (.int q 0) 1 8 ht hi hz0 hz1 hz2 rfl (by omega) v xs.length (xs.map (Value.int q)) hs hr.own ad 1 c [.int q y] hx rfl ?_ ?_ (by unfold maxLen; omega) (by omega) hb ?_
  · intro j u hj
    match j with
    | 0 => cases hj; simpa [Addr.add] using hc
    | j + 1 => simp at hj
  · intro u hu; simp at hu; subst hu; rfl
  · intro v' w' h1 h2 h3
    refine h v' w' ⟨?_⟩ h2 h3
    simpa using h1

set_option maxHeartbeats 1000000 in
theorem findInt_any (w : World) (base : Nat) (v : Value) (xs : List Int) (x : Int) (h : Row w base 3 .i64 v xs) (hl : xs.length ≤ 1000000) :
    Calls Try.prog 31 #[v, .int .i64 x] w fun e w' => w' = w ∧ ((∃ i : Nat, i < xs.length ∧ e = .returned (.int .i64 i) ∧ nth xs i = x) ∨ (e = .returned (.int .i64 (-1)) ∧ x ∉ xs)) := by
  obtain ⟨ao, cap, rfl⟩ := h.form
  have H := hide h
  clear h
  generalize hn : xs.length = n at *
  have Hn := hide hn
  clear hn
  go_enter Try.func31, Try.ntmps31
  go_wp2_with fail
  go_loopw [5] (fun it wr => ∃ i : Nat, it = .int .i64 i ∧ i ≤ n ∧ (∀ k, k < i → nth xs k ≠ x) ∧ wr = w) (fun it _ => n - (intOf it).toNat)
  case atStart => exact ⟨0, rfl, Nat.zero_le _, fun k hk => by omega, rfl⟩
  case round =>
    obtain ⟨i, rfl, hle, hno, rfl⟩ := hrel
    by_cases hlt : i < n
    · have hlt' : (i : Int) < (n : Int) := by omega
      obtain ⟨g, cap', e1, _, _, hc, _⟩ := (unhide H).at (i := i) (by rw [unhide Hn]; exact hlt)
      have hci := hc i (by rw [unhide Hn]; exact hlt)
      cases e1
      clear hc
      by_cases hx : nth xs i = x
      · rw [hx] at hci
        go_wp2_with fail
        go_ret
        exact ⟨rfl, Or.inl ⟨i, hlt, rfl, hx⟩⟩
      · generalize hy : nth xs i = y at *
        go_wp2_with fail
        go_roundw
        case rel =>
          refine ⟨i + 1, by go_num, by omega, fun k hk => ?_, trivial⟩
          by_cases e : k = i
          · subst e; rw [hy]; exact hx
          · exact hno k (by omega)
        case measure => simp [intOf]; omega
    · have hlt' : ¬ (i : Int) < (n : Int) := by omega
      go_wp2_with fail
      go_ret
      refine ⟨rfl, Or.inr ⟨rfl, fun hm => ?_⟩⟩
      obtain ⟨j, hj, e⟩ := mem_nth hm
      rw [unhide Hn] at hj
      exact hno j (by omega) e

end Go.Proofs.Qxb6604710a
