import Derived.Test.Qxb6604710aR4
import Derived.Test.Qxb6604710aPtr
namespace Go.Proofs.Qxb6604710a
open Go.RowKit
attribute [local go_sem] run_neq30_same run_eql30_same

/-- The places of the queue whose transactions have a commit record. -/
def cpos (T : Nat → Tx) (ids : List Nat) : List Nat := (List.range ids.length).filter fun i => decide (0 < (T (gd ids i)).commits)

theorem range_map_gd (ids : List Nat) : (List.range ids.length).map (gd ids) = ids := by
  apply List.ext_getElem
  · simp
  · intro i h1 h2
    simp [gd, List.getD_eq_getElem?_getD, h2]

theorem comm_cpos (T : Nat → Tx) (ids : List Nat) : comm T ids = (cpos T ids).map (gd ids) := by
  unfold comm cpos
  conv => lhs; rw [← range_map_gd ids]
  rw [List.filter_map]
  rfl

theorem cpos_lt (T : Nat → Tx) (ids : List Nat) {i p q : Nat} {j : Nat} (hij : i < j) (hi : (cpos T ids)[i]? = some p) (hj : (cpos T ids)[j]? = some q) : p < q := by
  have hp : (cpos T ids).Pairwise (· < ·) := List.Pairwise.filter _ List.pairwise_lt_range
  have hjl := lt_of_some hj
  rw [List.pairwise_iff_getElem] at hp
  have := hp i j (by omega) hjl hij
  rw [List.getElem?_eq_getElem (by omega)] at hi hj
  cases hi; cases hj
  exact this

theorem cpos_mem (T : Nat → Tx) (ids : List Nat) {i p : Nat} (hi : (cpos T ids)[i]? = some p) : p < ids.length ∧ 0 < (T (gd ids p)).commits := by
  have h := List.mem_of_getElem? hi
  unfold cpos at h
  rw [List.mem_filter] at h
  simpa using h

theorem ownsRow_shape {w : World} {base : Nat} {e : TypeId} {v : Value} {n : Nat} {xs : List Value} (h : w.ownsRow base e 1 v n xs) : ∃ ao cap, v = .slice ao n cap ∧ ∀ i u, xs[i]? = some u → ∃ g, ao = some ⟨g, 0, none⟩ ∧ w.cell? ⟨g, i, none⟩ = some u := by
  have h' := h
  rcases h.2 with ⟨rfl, h0⟩ | ⟨g, cap, cur, hv, hg, hh, h1, h2, h3, h4⟩
  · subst h0
    refine ⟨none, 0, rfl, ?_⟩
    intro i u hu
    have : xs = [] := List.eq_nil_of_length_eq_zero (by simpa using h.1)
    subst this
    simp at hu
  · subst hv
    refine ⟨_, cap, rfl, ?_⟩
    intro i u hu
    refine ⟨g, rfl, ?_⟩
    have hi : i < n := by
      rcases Nat.lt_or_ge i xs.length with h5 | h5
      · have := h.1; omega
      · rw [List.getElem?_eq_none h5] at hu; cases hu
    rw [h'.cellAt i (by omega)]
    exact hu

set_option maxRecDepth 100000 in
set_option maxHeartbeats 1000000 in
theorem listOK_any (w : World) (base M : Nat) (mc : Array Value) (v : Value) (ids : List Nat) (T : Nat → Tx) (hq : Que w base M 3 mc v ids T) (hf : ∀ t ∈ ids, (T t).queued = true) (hbig : ids.length ≤ 1000000) (B : Nat) (gv : Value)
    (hown : w.ownsRow B 30 1 gv (comm T ids).length ((comm T ids).map ptr)) :
    Calls Try.prog 26 #[v, gv] w fun e w' => e = .returned (.bool true) ∧ ∃ n, w' = w.drewN n := by
  obtain ⟨ao, cap, rfl⟩ := hq.shape
  obtain ⟨ag, capg, rfl, hgc⟩ := ownsRow_shape hown
  have hcl := comm_le T ids
  have Hq := hide hq
  have Hgc := hide hgc
  have Hf := hide hf
  have hlen : (comm T ids).length = (cpos T ids).length := by rw [comm_cpos]; simp
  clear hq hown hgc hf
  generalize hL : (comm T ids).length = L at *
  have HL := hide hL
  have Hlen := hide hlen
  clear hL hlen
  go_enter Try.func26, Try.ntmps26
  go_wp2_with fail
  go_loopw [5, 6] (fun pv it wr => ∃ (i : Nat) (p : Int), i ≤ L ∧ it = .int .i64 i ∧ pv = .int .i64 p ∧ -1 ≤ p ∧ p ≤ 1000000 ∧ (∀ k q, i ≤ k → (cpos T ids)[k]? = some q → p < (q : Int)) ∧ ∃ n, wr = w.drewN n) (fun _ it _ => L - (intOf it).toNat)
  case atStart => exact ⟨0, -1, Nat.zero_le _, rfl, rfl, by omega, by omega, fun k q _ _ => by omega, 0, rfl⟩
  case round =>
    obtain ⟨i, p, hle, rfl, rfl, hp1, hp2, hall, n, rfl⟩ := hrel
    have Hall := hide hall
    clear hall
    by_cases hlt : i < L
    · have hlt' : (i : Int) < (L : Int) := by omega
      obtain ⟨q, hqq⟩ : ∃ q, (cpos T ids)[i]? = some q := ⟨_, List.getElem?_eq_getElem (by have := unhide Hlen; omega)⟩
      obtain ⟨hql, hqc⟩ := cpos_mem T ids hqq
      have hpq := unhide Hall i q (Nat.le_refl _) hqq
      obtain ⟨t, ht⟩ : ∃ t, ids[q]? = some t := ⟨_, List.getElem?_eq_getElem hql⟩
      have hgt : gd ids q = t := by simp [gd, List.getD_eq_getElem?_getD, ht]
      obtain ⟨g, hag, hgcell⟩ := unhide Hgc i (ptr t) (by rw [comm_cpos]; simp [hqq, hgt])
      obtain ⟨g2, cap2, cur, hv, _, hh, _, _⟩ := (unhide Hq).arr (by omega)
      have hslot := (unhide Hq).slot hv ht
      have htx := (unhide Hq).tx q t ht
      have hfq := unhide Hf t (List.mem_of_getElem? ht)
      cases hv
      subst hag
      rw [hgt] at hqc
      have hfl := hide (fun m => fields_any (w.drewN m) t _ (htx.drewN m))
      have hgcell' : w.cell? ⟨g, i, none⟩ = some (.pointer (some ⟨t, 0, none⟩)) := hgcell
      have hql' : (q : Int) < (ids.length : Int) := by omega
      have Hqq := hide hqq
      clear hh ht hgt htx hgcell hqq
      simp only [Tx.at] at hfl
      rw [hfq] at hfl
      clear hfq
      generalize (T t).commits = cc at *
      have d1 : decide (cc ≤ 0) = false := by simp; omega
      have d2 : decide ((q : Int) ≤ p) = false := by simp; omega
      have d3 : decide ((ids.length : Int) ≤ (q : Int)) = false := by simp; omega
      go_wp2_with fail
      refine (unhide hfl _).mono ?_
      rintro e w1 ⟨rfl, m, rfl⟩
      go_wp2_with fail
      go_quiet (fail)
      go_wp2_with fail
      go_roundw
      case rel =>
        refine ⟨i + 1, (q : Int), by omega, by go_num, rfl, by omega, by omega, ?_, _, rfl⟩
        intro k q' hk hq'
        have := cpos_lt T ids (i := i) (j := k) (by omega) (unhide Hqq) hq'
        omega
      case measure => simp [intOf]; omega
    · have hlt' : ¬ (i : Int) < (L : Int) := by omega
      go_wp2_with fail
      go_ret
      exact ⟨rfl, n, rfl⟩

end Go.Proofs.Qxb6604710a
