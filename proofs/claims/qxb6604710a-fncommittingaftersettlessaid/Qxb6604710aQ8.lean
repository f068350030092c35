import Derived.Test.Qxb6604710aQ7
namespace Go.Proofs.Qxb6604710a
open Go.RowKit
attribute [local go_sem] m_len0 m_less0 m_swap0 m_push m_pop

/-- What 'down' keeps from round to round. -/
structure DownRel (w : World) (base M k : Nat) (mc : Array Value) (v : Value) (ids : List Nat) (T : Nat → Tx) (n i0 : Nat) (i : Nat) (wr : World) (ids' : List Nat) : Prop where
  q : Que wr base M k mc v ids' T
  perm : ids'.Perm ids
  lt : i < n
  ge : i0 ≤ i
  out : ∀ i, n ≤ i → ids'[i]? = ids[i]?
  hole : Hole (LT T) n (gd ids') i
  inv : i0 < i → DownInv (LT T) n (gd ids') i
  kept : Kept (QX v ids) w wr

/-- What 'down' leaves. -/
def DownPost (w : World) (base M k : Nat) (mc : Array Value) (v : Value) (ids : List Nat) (T : Nat → Tx) (n i0 : Nat) (b : Bool) (w' : World) : Prop :=
  ∃ ids', Que w' base M k mc v ids' T ∧ ids'.Perm ids ∧ (∀ i, n ≤ i → ids'[i]? = ids[i]?) ∧ (b = true → HeapOK (LT T) n (gd ids')) ∧ (b = false → UpInv (LT T) n (gd ids') i0) ∧ Kept (QX v ids) w w'

theorem DownRel.stop {w : World} {base M k : Nat} {mc : Array Value} {v : Value} {ids : List Nat} {T : Nat → Tx} {n i0 i : Nat} {wr : World} {ids' : List Nat} (h : DownRel w base M k mc v ids T n i0 i wr ids')
    (hs : ∀ k, 0 < k → k < n → par k = i → LT T (gd ids' k) (gd ids' i) = false) {w1 : World} (hb : Below wr.heap.size wr w1) (b : Bool) (hbb : b = decide (i0 < i)) : DownPost w base M k mc v ids T n i0 b w1 := by
  refine ⟨ids', h.q.below hb, h.perm, h.out, fun e => ?_, fun e => ?_, h.kept.trans (Kept.of_below hb)⟩
  · rw [hbb] at e
    have e' : i0 < i := by simp at e; omega
    exact down_stop (h.inv e') hs
  · rw [hbb] at e
    have h1 := h.ge
    have e' : i = i0 := by simp at e; omega
    subst e'
    exact hole_stop h.hole hs

theorem DownRel.step {w : World} {base M k : Nat} {mc : Array Value} {v : Value} {ids : List Nat} {T : Nat → Tx} {n i0 i : Nat} {wr : World} {ids' : List Nat} (h : DownRel w base M k mc v ids T n i0 i wr ids')
    (hn : n ≤ ids.length) {j : Nat} (hj : 0 < j) (hjn : j < n) (hp : par j = i) (hl : LT T (gd ids' j) (gd ids' i) = true) (hs : ∀ k, 0 < k → k < n → par k = i → LT T (gd ids' k) (gd ids' j) = false)
    {w1 w2 : World} (hb : Below wr.heap.size wr w1) (hq : Que w2 base M k mc v (sw ids' i j) T) (hk : Kept (QX v ids') w1 w2) : DownRel w base M k mc v ids T n i0 j w2 (sw ids' i j) := by
  have hlen : ids'.length = ids.length := h.perm.length_eq
  have hil := h.lt
  have hlt := par_lt hj
  have hst := down_step (ord_LT T) h.hole hj hjn hp hl hs
  have e : gd (sw ids' i j) = swapF (gd ids') i j := funext fun k => sw_getD ids' (by omega) (by omega) k
  rw [← e] at hst
  refine ⟨hq, (sw_perm _ (by omega) (by omega)).trans h.perm, hjn, by have := h.ge; omega, ?_, hst.hole, fun _ => hst, ?_⟩
  · intro x hx
    rw [sw_getElem? _ (by omega) (by omega), if_neg (by omega), if_neg (by omega)]
    exact h.out x hx
  · exact h.kept.trans ((Kept.of_below hb).trans (hk.mono fun b _ hb => hb.elim (fun h' => Or.inl (h.perm.mem_iff.1 h')) Or.inr))

theorem sib_none {L : Nat → Nat → Bool} {n i : Nat} {f : Nat → Nat} (h : n ≤ 2 * i + 1) : ∀ k, 0 < k → k < n → par k = i → L (f k) (f i) = false := by
  intro k h0 hn hp
  rcases of_par h0 hp with e | e <;> omega

theorem sib_one {L : Nat → Nat → Bool} (O : Ord L) {n i : Nat} {f : Nat → Nat} (h : n ≤ 2 * i + 2) : ∀ k, 0 < k → k < n → par k = i → L (f k) (f (2 * i + 1)) = false := by
  intro k h0 hn hp
  rcases of_par h0 hp with e | e
  · subst e
    cases hh : L (f (2 * i + 1)) (f (2 * i + 1)) with
    | false => rfl
    | true => have := O.asym _ _ hh; rw [hh] at this; cases this
  · omega

theorem Ord.irr {L : Nat → Nat → Bool} (O : Ord L) (a : Nat) : L a a = false := by
  cases hh : L a a with
  | false => rfl
  | true => have := O.asym _ _ hh; rw [hh] at this; cases this

theorem sib_left {L : Nat → Nat → Bool} (O : Ord L) {n i : Nat} {f : Nat → Nat} (h : L (f (2 * i + 2)) (f (2 * i + 1)) = false) : ∀ k, 0 < k → k < n → par k = i → L (f k) (f (2 * i + 1)) = false := by
  intro k h0 hn hp
  rcases of_par h0 hp with e | e
  · subst e; exact O.irr _
  · subst e; exact h

theorem sib_right {L : Nat → Nat → Bool} (O : Ord L) {n i : Nat} {f : Nat → Nat} (h : L (f (2 * i + 2)) (f (2 * i + 1)) = true) : ∀ k, 0 < k → k < n → par k = i → L (f k) (f (2 * i + 2)) = false := by
  intro k h0 hn hp
  rcases of_par h0 hp with e | e
  · subst e; exact O.asym _ _ h
  · subst e; exact O.irr _

theorem sib_stop {L : Nat → Nat → Bool} (O : Ord L) {n i j : Nat} {f : Nat → Nat} (hs : ∀ k, 0 < k → k < n → par k = i → L (f k) (f j) = false) (h : L (f j) (f i) = false) : ∀ k, 0 < k → k < n → par k = i → L (f k) (f i) = false :=
  fun k h0 hn hp => O.trans _ _ _ h (hs k h0 hn hp)

theorem Que.lessG {w : World} {base M k : Nat} {mc : Array Value} {v : Value} {ids : List Nat} {T : Nat → Tx} (h : Que w base M k mc v ids T) {i j : Nat} (hi : i < ids.length) (hj : j < ids.length) :
    Calls Try.prog 101 #[v, .int .i64 i, .int .i64 j] w fun e w' => e = .returned (.bool (LT T (gd ids i) (gd ids j))) ∧ Below w.heap.size w w' := by
  obtain ⟨a, ha⟩ : ∃ a, ids[i]? = some a := ⟨_, List.getElem?_eq_getElem hi⟩
  obtain ⟨b, hb⟩ : ∃ b, ids[j]? = some b := ⟨_, List.getElem?_eq_getElem hj⟩
  have ga : gd ids i = a := by simp [gd, List.getD_eq_getElem?_getD, ha]
  have gb : gd ids j = b := by simp [gd, List.getD_eq_getElem?_getD, hb]
  rw [ga, gb]
  exact h.less ha hb

theorem Que.lessI {w : World} {base M k : Nat} {mc : Array Value} {v : Value} {ids : List Nat} {T : Nat → Tx} (h : Que w base M k mc v ids T) {i j : Nat} (hi : i < ids.length) (hj : j < ids.length)
    {x y : Int} (hx : x = i) (hy : y = j) {b : Bool} (hb : LT T (gd ids i) (gd ids j) = b) :
    Calls Try.prog 101 #[v, .int .i64 x, .int .i64 y] w fun e w' => e = .returned (.bool b) ∧ Below w.heap.size w w' := by
  subst hx; subst hy; subst hb
  exact h.lessG hi hj

theorem Que.swapI {w : World} {base M k : Nat} {mc : Array Value} {v : Value} {ids : List Nat} {T : Nat → Tx} (h : Que w base M k mc v ids T) {i j : Nat} (hi : i < ids.length) (hj : j < ids.length) (hij : i ≠ j)
    {x y : Int} (hx : x = i) (hy : y = j) :
    Calls Try.prog 102 #[v, .int .i64 x, .int .i64 y] w fun e w' => e = .returned (.tuple #[]) ∧ Que w' base M k mc v (sw ids i j) T ∧ Kept (QX v ids) w w' := by
  subst hx; subst hy
  exact h.swap hi hj hij

set_option maxRecDepth 100000 in
set_option maxHeartbeats 2000000 in
theorem down_any (w : World) (base M k : Nat) (mc : Array Value) (v : Value) (ids : List Nat) (T : Nat → Tx) (n i0 : Nat) (hq : Que w base M k mc v ids T)
    (hi : i0 < n) (hn : n ≤ ids.length) (hbig : ids.length ≤ 1000000) (hinv : Hole (LT T) n (gd ids) i0) :
    Calls Try.prog 49 #[.iface 89 (.pointer (some ⟨M, k, none⟩)), .int .i64 i0, .int .i64 n] w fun e w' => ∃ b, e = .returned (.bool b) ∧ DownPost w base M k mc v ids T n i0 b w' := by
  have h0 : DownRel w base M k mc v ids T n i0 i0 w ids := ⟨hq, List.Perm.refl _, hi, Nat.le_refl _, fun _ _ => rfl, hinv, fun h => by omega, Kept.refl _ _⟩
  clear hq hinv
  go_enter Try.func49, Try.ntmps49
  go_wp2_with fail
  go_loopw [7] (fun t wr => ∃ (i : Nat) (ids' : List Nat), t = .int .i64 i ∧ DownRel w base M k mc v ids T n i0 i wr ids') (fun t _ => n - (intOf t).toNat)
  case atStart => exact ⟨i0, ids, rfl, h0⟩
  case round =>
    obtain ⟨i, ids', rfl, hr⟩ := hrel
    have hlt := hr.lt
    have hge := hr.ge
    have hcell := hr.q.cell
    have hlen : ids'.length = ids.length := hr.perm.length_eq
    clear h0
    by_cases hA : n ≤ 2 * i + 1
    · have hA' : (n : Int) ≤ 2 * (i : Int) + 1 := by omega
      go_wp2_with fail
      go_ret
      exact ⟨_, rfl, hr.stop (sib_none hA) (Below.refl _ _) _ rfl⟩
    · have hA' : 2 * (i : Int) + 1 < (n : Int) := by omega
      by_cases hB : 2 * i + 2 < n
      · have hB' : 2 * (i : Int) + 1 + 1 < (n : Int) := by omega
        cases hl : LT T (gd ids' (2 * i + 2)) (gd ids' (2 * i + 1)) with
        | true =>
          have hless := hide (hr.q.lessI (i := 2 * i + 2) (j := 2 * i + 1) (x := 2 * (i : Int) + 1 + 1) (y := 2 * (i : Int) + 1) (by omega) (by omega) (by omega) (by omega) hl)
          have Hs := hide (sib_right (n := n) (ord_LT T) hl)
          clear hl
          go_wp2_with fail
          refine (unhide hless).mono ?_
          rintro e w1 ⟨rfl, hb1⟩
          have hq1 := hr.q.below hb1
          have hcell1 := hq1.cell
          clear hcell
          cases hl2 : LT T (gd ids' (2 * i + 2)) (gd ids' i) with
          | true =>
            have hless2 := hide (hq1.lessI (i := 2 * i + 2) (j := i) (x := 2 * (i : Int) + 1 + 1) (y := i) (by omega) (by omega) (by omega) rfl hl2)
            have Hl2 := hide hl2
            clear hl2
            go_wp2_with fail
            refine (unhide hless2).mono ?_
            rintro e w2 ⟨rfl, hb2⟩
            have hq2 := hq1.below hb2
            have hcell2 := hq2.cell
            have hsw := hide (hq2.swapI (i := i) (j := 2 * i + 2) (x := i) (y := 2 * (i : Int) + 1 + 1) (by omega) (by omega) (by omega) rfl (by omega))
            go_wp2_with fail
            refine (unhide hsw).mono ?_
            rintro e w3 ⟨rfl, hq3, hk3⟩
            go_wp2_with fail
            go_roundw
            case rel => exact ⟨2 * i + 2, _, by go_num, hr.step hn (by omega) (by omega) (par_of_right i) (unhide Hl2) (unhide Hs) (hb1.trans (hb2.mono (Nat.le_trans hb1.size (Nat.le_refl _)))) hq3 hk3⟩
            case measure => simp [intOf]; omega
          | false =>
            have hless2 := hide (hq1.lessI (i := 2 * i + 2) (j := i) (x := 2 * (i : Int) + 1 + 1) (y := i) (by omega) (by omega) (by omega) rfl hl2)
            have Hl2 := hide hl2
            clear hl2
            go_wp2_with fail
            refine (unhide hless2).mono ?_
            rintro e w2 ⟨rfl, hb2⟩
            go_wp2_with fail
            go_ret
            exact ⟨_, rfl, hr.stop (sib_stop (ord_LT T) (unhide Hs) (unhide Hl2)) (hb1.trans (hb2.mono (Nat.le_trans hb1.size (Nat.le_refl _)))) _ rfl⟩
        | false =>
          have hless := hide (hr.q.lessI (i := 2 * i + 2) (j := 2 * i + 1) (x := 2 * (i : Int) + 1 + 1) (y := 2 * (i : Int) + 1) (by omega) (by omega) (by omega) (by omega) hl)
          have Hs := hide (sib_left (n := n) (ord_LT T) hl)
          clear hl
          go_wp2_with fail
          refine (unhide hless).mono ?_
          rintro e w1 ⟨rfl, hb1⟩
          have hq1 := hr.q.below hb1
          have hcell1 := hq1.cell
          clear hcell
          cases hl2 : LT T (gd ids' (2 * i + 1)) (gd ids' i) with
          | true =>
            have hless2 := hide (hq1.lessI (i := 2 * i + 1) (j := i) (x := 2 * (i : Int) + 1) (y := i) (by omega) (by omega) (by omega) rfl hl2)
            have Hl2 := hide hl2
            clear hl2
            go_wp2_with fail
            refine (unhide hless2).mono ?_
            rintro e w2 ⟨rfl, hb2⟩
            have hq2 := hq1.below hb2
            have hcell2 := hq2.cell
            have hsw := hide (hq2.swapI (i := i) (j := 2 * i + 1) (x := i) (y := 2 * (i : Int) + 1) (by omega) (by omega) (by omega) rfl (by omega))
            go_wp2_with fail
            refine (unhide hsw).mono ?_
            rintro e w3 ⟨rfl, hq3, hk3⟩
            go_wp2_with fail
            go_roundw
            case rel => exact ⟨2 * i + 1, _, by go_num, hr.step hn (by omega) (by omega) (par_of_left i) (unhide Hl2) (unhide Hs) (hb1.trans (hb2.mono (Nat.le_trans hb1.size (Nat.le_refl _)))) hq3 hk3⟩
            case measure => simp [intOf]; omega
          | false =>
            have hless2 := hide (hq1.lessI (i := 2 * i + 1) (j := i) (x := 2 * (i : Int) + 1) (y := i) (by omega) (by omega) (by omega) rfl hl2)
            have Hl2 := hide hl2
            clear hl2
            go_wp2_with fail
            refine (unhide hless2).mono ?_
            rintro e w2 ⟨rfl, hb2⟩
            go_wp2_with fail
            go_ret
            exact ⟨_, rfl, hr.stop (sib_stop (ord_LT T) (unhide Hs) (unhide Hl2)) (hb1.trans (hb2.mono (Nat.le_trans hb1.size (Nat.le_refl _)))) _ rfl⟩
      · have hB' : (n : Int) ≤ 2 * (i : Int) + 1 + 1 := by omega
        have hB'' : decide (2 * (i : Int) + 1 + 1 < (n : Int)) = false := by simp; omega
        have Hs := hide (sib_one (n := n) (i := i) (f := gd ids') (ord_LT T) (by omega))
        have hb1 : Below wr.heap.size wr wr := Below.refl _ _
        have hq1 := hr.q
        cases hl2 : LT T (gd ids' (2 * i + 1)) (gd ids' i) with
        | true =>
          have hless2 := hide (hq1.lessI (i := 2 * i + 1) (j := i) (x := 2 * (i : Int) + 1) (y := i) (by omega) (by omega) (by omega) rfl hl2)
          have Hl2 := hide hl2
          clear hl2
          go_wp2_with fail
          refine (unhide hless2).mono ?_
          rintro e w2 ⟨rfl, hb2⟩
          have hq2 := hq1.below hb2
          have hcell2 := hq2.cell
          have hsw := hide (hq2.swapI (i := i) (j := 2 * i + 1) (x := i) (y := 2 * (i : Int) + 1) (by omega) (by omega) (by omega) rfl (by omega))
          go_wp2_with fail
          refine (unhide hsw).mono ?_
          rintro e w3 ⟨rfl, hq3, hk3⟩
          go_wp2_with fail
          go_roundw
          case rel => exact ⟨2 * i + 1, _, by go_num, hr.step hn (by omega) (by omega) (par_of_left i) (unhide Hl2) (unhide Hs) (hb1.trans (hb2.mono (Nat.le_trans hb1.size (Nat.le_refl _)))) hq3 hk3⟩
          case measure => simp [intOf]; omega
        | false =>
          have hless2 := hide (hq1.lessI (i := 2 * i + 1) (j := i) (x := 2 * (i : Int) + 1) (y := i) (by omega) (by omega) (by omega) rfl hl2)
          have Hl2 := hide hl2
          clear hl2
          go_wp2_with fail
          refine (unhide hless2).mono ?_
          rintro e w2 ⟨rfl, hb2⟩
          go_wp2_with fail
          go_ret
          exact ⟨_, rfl, hr.stop (sib_stop (ord_LT T) (unhide Hs) (unhide Hl2)) (hb1.trans (hb2.mono (Nat.le_trans hb1.size (Nat.le_refl _)))) _ rfl⟩

end Go.Proofs.Qxb6604710a
