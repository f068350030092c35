import Derived.Test.Qxb6604710aV4
namespace Go.Proofs.Qxb6604710a
open Go.RowKit

theorem Fits.snoc {n i : Nat} {ZS : Nat → Nat → Int} {mp : Nat} (h : Fits n i ZS mp) {mp' : Nat} (hm : mp ≤ mp') (hm2 : mp' ≤ 65536) (h0 : 0 ≤ ZS i 0) (h0' : ZS i 0 < n) (h1 : 0 ≤ ZS i 3) (h2 : ZS i 3 ≤ 536870912) (h3 : 0 ≤ ZS i 4) (h4 : ZS i 4 ≤ 536870912) (h5 : -1 ≤ ZS i 5) (h6 : ZS i 5 ≤ mp') : Fits n (i + 1) ZS mp' := by
  refine ⟨hm2, fun k hk => ?_⟩
  by_cases e : k = i
  · subst e; exact ⟨h0, h0', h1, h2, h3, h4, h5, h6⟩
  · obtain ⟨a, b, c, d, e, f, g, l⟩ := h.2 k (by omega)
    exact ⟨a, b, c, d, e, f, g, by omega⟩

/-- What zzScriptFits answers. -/
def FitsPost (w : World) (n m : Nat) (ZS : Nat → Nat → Int) (e : Ending) (w' : World) : Prop :=
  Below w.heap.size w w' ∧ ((∃ mp : Nat, e = .returned (.tuple #[.bool true, .int .i64 mp]) ∧ Fits n m ZS mp) ∨ e = .returned (.tuple #[.bool false, .int .i64 0]))

set_option maxRecDepth 100000 in
set_option maxHeartbeats 16000000 in
theorem scriptFits_any (w : World) (ao so : Option Addr) (n cap m capS : Nat) (ZS : Nat → Nat → Int) (hs : IsRows sks w so m capS ZS) (hn : n ≤ 4096) (hm : m ≤ 4096) :
    Calls Try.prog 22 #[.slice ao n cap, .slice so m capS] w fun e w' => FitsPost w n m ZS e w' := by
  have Hs := hide hs
  clear hs
  have h7 : ¬ (4096 : Int) < (n : Int) := by omega
  have h8 : ¬ (4096 : Int) < (m : Int) := by omega
  have h7' : decide ((4096 : Int) < (n : Int)) = false := by simpa using h7
  go_enter Try.func22, Try.ntmps22
  go_wp2_with fail
  go_loopw [6, 7] (fun pv it wr => ∃ (i mp : Nat), it = .int .i64 i ∧ pv = .int .i64 mp ∧ i ≤ m ∧ Fits n i ZS mp ∧ Below w.heap.size w wr) (fun _ it _ => m - (intOf it).toNat)
  case atStart => exact ⟨0, 0, rfl, rfl, Nat.zero_le _, ⟨by omega, fun k hk => by omega⟩, Below.refl _ _⟩
  case round =>
    obtain ⟨i, mp, rfl, rfl, hle, hfit, hbel⟩ := hrel
    have Hfit := hide hfit
    have hmp : (mp : Int) ≤ 65536 := by have := hfit.1; omega
    by_cases hlt : i < m
    · have hlt' : (i : Int) < (m : Int) := by omega
      obtain ⟨b, off, rfl, c0, c1, c2, c3, c4, c5⟩ := (unhide Hs).s6 hbel hlt
      have Hb := hide ((hbel.alloc (hbel.size) (.cells #[.int .i64 (ZS i 0), .int .u64 (ZS i 1), .int .u64 (ZS i 2), .int .i64 (ZS i 3), .int .i64 (ZS i 4), .int .i64 (ZS i 5)] 81)))
      have Hsn := hide (fun mp' => hfit.snoc (mp' := mp'))
      clear hfit hbel
      generalize ZS i 0 = z0 at *
      generalize ZS i 1 = z1 at *
      generalize ZS i 2 = z2 at *
      generalize ZS i 3 = z3 at *
      generalize ZS i 4 = z4 at *
      generalize ZS i 5 = z5 at *
      by_cases g0 : z0 < 0
      · have d0 : decide (z0 < 0) = true := by simpa using g0
        go_wp2_with fail
        go_ret2
        exact ⟨unhide Hb, Or.inr rfl⟩
      have d0 : decide (z0 < 0) = false := by simpa using g0
      by_cases g1 : (n : Int) ≤ z0
      · have d1 : decide ((n : Int) ≤ z0) = true := by simpa using g1
        go_wp2_with fail
        go_ret2
        exact ⟨unhide Hb, Or.inr rfl⟩
      have d1 : decide ((n : Int) ≤ z0) = false := by simpa using g1
      by_cases g2 : z3 < 0
      · have d2 : decide (z3 < 0) = true := by simpa using g2
        go_wp2_with fail
        go_ret2
        exact ⟨unhide Hb, Or.inr rfl⟩
      have d2 : decide (z3 < 0) = false := by simpa using g2
      by_cases g3 : 536870912 < z3
      · have d3 : decide (536870912 < z3) = true := by simpa using g3
        go_wp2_with fail
        go_ret2
        exact ⟨unhide Hb, Or.inr rfl⟩
      have d3 : decide (536870912 < z3) = false := by simpa using g3
      by_cases g4 : z4 < 0
      · have d4 : decide (z4 < 0) = true := by simpa using g4
        go_wp2_with fail
        go_ret2
        exact ⟨unhide Hb, Or.inr rfl⟩
      have d4 : decide (z4 < 0) = false := by simpa using g4
      by_cases g5 : 536870912 < z4
      · have d5 : decide (536870912 < z4) = true := by simpa using g5
        go_wp2_with fail
        go_ret2
        exact ⟨unhide Hb, Or.inr rfl⟩
      have d5 : decide (536870912 < z4) = false := by simpa using g5
      by_cases g6 : z5 < -1
      · have d6 : decide (z5 < -1) = true := by simpa using g6
        go_wp2_with fail
        go_ret2
        exact ⟨unhide Hb, Or.inr rfl⟩
      have d6 : decide (z5 < -1) = false := by simpa using g6
      by_cases g7 : 65536 < z5
      · have d7 : decide (65536 < z5) = true := by simpa using g7
        go_wp2_with fail
        go_ret2
        exact ⟨unhide Hb, Or.inr rfl⟩
      have d7 : decide (65536 < z5) = false := by simpa using g7
      by_cases gm : (mp : Int) < z5
      · obtain ⟨q, hq⟩ := Int.eq_ofNat_of_zero_le (show (0 : Int) ≤ z5 by omega)
        subst hq
        go_wp2_with fail
        go_roundw
        case rel => exact ⟨i + 1, q, by go_num, rfl, by omega, unhide Hsn q (by omega) (by omega) (by omega) (by omega) (by omega) (by omega) (by omega) (by omega) (by omega) (by omega), unhide Hb⟩
        case measure => simp [intOf]; omega
      · go_wp2_with fail
        go_roundw
        case rel => exact ⟨i + 1, mp, by go_num, rfl, by omega, unhide Hsn mp (by omega) (by omega) (by omega) (by omega) (by omega) (by omega) (by omega) (by omega) (by omega) (by omega), unhide Hb⟩
        case measure => simp [intOf]; omega
    · have hlt' : ¬ (i : Int) < (m : Int) := by omega
      have hin : i = m := by omega
      rw [hin] at Hfit
      have Hb := hide hbel
      clear hfit hbel hin
      go_wp2_with fail
      go_ret2
      exact ⟨unhide Hb, Or.inl ⟨mp, rfl, unhide Hfit⟩⟩

end Go.Proofs.Qxb6604710a
