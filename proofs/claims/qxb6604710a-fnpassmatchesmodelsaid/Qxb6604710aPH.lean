import Derived.Test.Qxb6604710aPG
namespace Go.Proofs.Qxb6604710a
open Go.RowKit

theorem take_snoc {xs : List Int} {b : Nat} (h : b < xs.length) : xs.take (b + 1) = xs.take b ++ [nth xs b] := by
  rw [List.take_add_one, nth_eq h, List.getElem?_eq_getElem h]
  rfl

theorem gtc_snoc {xs : List Int} {b : Nat} (h : b < xs.length) (x : Int) : gtc (xs.take (b + 1)) x = gtc (xs.take b) x + if x < nth xs b then 1 else 0 := by
  unfold gtc
  rw [take_snoc h, List.filter_append, List.length_append]
  congr 1
  by_cases e : x < nth xs b <;> simp [e]

theorem gec_snoc {xs : List Int} {b : Nat} (h : b < xs.length) (x : Int) : gec (xs.take (b + 1)) x = gec (xs.take b) x + if x ≤ nth xs b then 1 else 0 := by
  unfold gec
  rw [take_snoc h, List.filter_append, List.length_append]
  congr 1
  by_cases e : x ≤ nth xs b <;> simp [e]

theorem gtc_le (xs : List Int) (x : Int) : gtc xs x ≤ xs.length := List.length_filter_le _ _
theorem gec_le (xs : List Int) (x : Int) : gec xs x ≤ xs.length := List.length_filter_le _ _

set_option maxRecDepth 100000 in
set_option maxHeartbeats 8000000 in
theorem kth_any (w : World) (base : Nat) (v : Value) (xs : List Int) (k : Nat) (s : Int) (h : Row w base 23 .u64 v xs) (hl : xs.length ≤ 1000000) (hs : s ∈ xs) (h1 : gtc xs s < k) (h2 : k ≤ gec xs s) :
    Calls Try.prog 32 #[v, .int .i64 k] w fun e w' => e = .returned (.int .u64 s) ∧ w' = w := by
  obtain ⟨ao, cap, rfl⟩ := h.form
  have H := hide h
  have hk : k ≤ 1000000 := Nat.le_trans h2 (Nat.le_trans (gec_le _ _) hl)
  clear h
  generalize hn : xs.length = n at *
  have Hn := hide hn
  have H1 := hide h1
  have H2 := hide h2
  clear hn h1 h2
  go_enter Try.func32, Try.ntmps32
  go_wp2_with fail
  go_loopw [5] (fun it wr => ∃ a : Nat, it = .int .i64 a ∧ a ≤ n ∧ (∀ i, i < a → nth xs i ≠ s) ∧ w = wr) (fun it _ => n - (intOf it).toNat)
  case atStart => exact ⟨0, rfl, Nat.zero_le _, fun k hk => by omega, rfl⟩
  case round =>
    obtain ⟨a, rfl, hle, hno, rfl⟩ := hrel
    by_cases hlt : a < n
    · have hlt' : (a : Int) < (n : Int) := by omega
      obtain ⟨g, cap', e1, _, _, hc, _⟩ := (unhide H).at (i := a) (by rw [unhide Hn]; exact hlt)
      rw [unhide Hn] at e1 hc
      have hca := hc a hlt
      cases e1
      have Hc := hide hc
      clear hc
      generalize hx : nth xs a = x at *
      have Hx := hide hx
      clear hx
      go_wp2_with fail
      go_loopw [7, 8, 9] (fun g7 g8 it wr => ∃ b : Nat, it = .int .i64 b ∧ b ≤ n ∧ g7 = .int .i64 (gtc (xs.take b) x) ∧ g8 = .int .i64 (gec (xs.take b) x) ∧ w = wr) (fun _ _ it _ => n - (intOf it).toNat)
      case atStart => exact ⟨0, rfl, Nat.zero_le _, rfl, rfl, rfl⟩
      case round =>
        obtain ⟨b, rfl, hble, rfl, rfl, rfl⟩ := hrel
        by_cases hblt : b < n
        · have hblt' : (b : Int) < (n : Int) := by omega
          have hcb := unhide Hc b hblt
          have e1 := gtc_snoc (xs := xs) (b := b) (by rw [unhide Hn]; exact hblt) x
          have e2 := gec_snoc (xs := xs) (b := b) (by rw [unhide Hn]; exact hblt) x
          have l1 := gtc_le (xs.take b) x
          have l2 := gec_le (xs.take b) x
          rw [List.length_take] at l1 l2
          generalize hy : nth xs b = y at *
          generalize ht1 : gtc (xs.take b) x = t1 at *
          generalize ht2 : gec (xs.take b) x = t2 at *
          by_cases hgt : x < y
          · have hge : x ≤ y := by omega
            rw [if_pos hgt] at e1
            rw [if_pos hge] at e2
            have E1 := hide e1
            have E2 := hide e2
            clear e1 e2
            go_wp2_with fail
            go_roundw
            case rel => exact ⟨b + 1, by go_num, by omega, by rw [unhide E1]; go_num, by rw [unhide E2]; go_num, trivial⟩
            case measure => simp [intOf]; omega
          · rw [if_neg hgt] at e1
            by_cases hge : x ≤ y
            · rw [if_pos hge] at e2
              have E1 := hide e1
              have E2 := hide e2
              clear e1 e2
              go_wp2_with fail
              go_roundw
              case rel => exact ⟨b + 1, by go_num, by omega, by rw [unhide E1]; go_num, by rw [unhide E2]; go_num, trivial⟩
              case measure => simp [intOf]; omega
            · rw [if_neg hge] at e2
              have E1 := hide e1
              have E2 := hide e2
              clear e1 e2
              go_wp2_with fail
              go_roundw
              case rel => exact ⟨b + 1, by go_num, by omega, by rw [unhide E1]; go_num, by rw [unhide E2]; go_num, trivial⟩
              case measure => simp [intOf]; omega
        · have hblt' : ¬ (b : Int) < (n : Int) := by omega
          have hbn : b = xs.length := by rw [unhide Hn]; omega
          have et : xs.take b = xs := by rw [hbn, List.take_length]
          rw [et]
          by_cases hxs : x = s
          · subst hxs
            have g1 : (gtc xs x : Int) < (k : Int) := by have := unhide H1; omega
            have g1' : decide ((gtc xs x : Int) < (k : Int)) = true := by simpa using g1
            have g2 : (k : Int) ≤ (gec xs x : Int) := by have := unhide H2; omega
            clear hbn
            go_wp2_with fail
            go_ret
            exact ⟨rfl, rfl⟩
          · have hnot : ¬ (gtc xs x < k ∧ k ≤ gec xs x) := fun e => hxs (kth_unique e.1 e.2 (unhide H1) (unhide H2))
            by_cases g1 : gtc xs x < k
            · have g2 : ¬ k ≤ gec xs x := fun e => hnot ⟨g1, e⟩
              have g1' : (gtc xs x : Int) < (k : Int) := by omega
              have g1'' : decide ((gtc xs x : Int) < (k : Int)) = true := by simpa using g1'
              have g2' : ¬ (k : Int) ≤ (gec xs x : Int) := by omega
              clear hbn
              go_wp2_with fail
              go_roundw
              case rel =>
                refine ⟨a + 1, by go_num, by omega, fun i hi => ?_, trivial⟩
                by_cases e : i = a
                · subst e; rw [unhide Hx]; exact hxs
                · exact hno i (by omega)
              case measure => simp [intOf]; omega
            · have g1' : ¬ (gtc xs x : Int) < (k : Int) := by omega
              have g1'' : decide ((gtc xs x : Int) < (k : Int)) = false := by simpa using g1'
              clear hbn
              go_wp2_with fail
              go_roundw
              case rel =>
                refine ⟨a + 1, by go_num, by omega, fun i hi => ?_, trivial⟩
                by_cases e : i = a
                · subst e; rw [unhide Hx]; exact hxs
                · exact hno i (by omega)
              case measure => simp [intOf]; omega
    · exfalso
      obtain ⟨j, hj, e⟩ := mem_nth hs
      rw [unhide Hn] at hj
      exact hno j (by omega) e

end Go.Proofs.Qxb6604710a
