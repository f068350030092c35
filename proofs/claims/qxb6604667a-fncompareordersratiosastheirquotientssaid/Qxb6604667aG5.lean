import Derived.Test.Qxb6604667aG4
import Derived.Deep.RegionHeld3
namespace Go.Proofs.Qxb6604667a
open Go.RowKit

set_option maxRecDepth 100000
set_option maxHeartbeats 4000000

theorem or_any (w : World) (g : Nat) (a b : Int) (h0 : w.cell? ⟨g, 0, none⟩ = some (ii a)) (h1 : w.cell? ⟨g, 1, none⟩ = some (ii b)) :
    Calls Try.prog 16 #[.slice (some ⟨g, 0, none⟩) 2 2] w fun e w' => e = .returned (ii (if a ≠ 0 then a else b)) ∧ w' = w := by
  generalize hr : (if a ≠ 0 then a else b) = r
  go_enter Try.func16, Try.ntmps16
  go_wp2_with fail
  go_loopw [8] (fun it wr => ∃ i : Nat, i ≤ 2 ∧ it = .int .i64 i ∧ wr = w ∧ (1 ≤ i → a = 0) ∧ (2 ≤ i → b = 0)) (fun it _ => (2 - intOf it).toNat)
  case atStart => exact ⟨0, by omega, rfl, rfl, by omega, by omega⟩
  case round =>
    obtain ⟨i, hi, rfl, rfl, hA, hB⟩ := hrel
    have hc : i = 0 ∨ i = 1 ∨ i = 2 := by omega
    rcases hc with rfl | rfl | rfl
    · clear hA hB hi
      by_cases hz : a = 0
      · have d : (a != 0) = false := by simp [hz]
        go_wp2_with fail
        go_roundw
        case rel => exact ⟨1, by omega, rfl, by first | rfl | trivial, fun _ => hz, by omega⟩
        case measure => simp [intOf]
      · have d : (a != 0) = true := by simp [hz]
        rw [if_pos hz] at hr
        subst hr
        go_wp2_with fail
        go_ret
        exact ⟨rfl, rfl⟩
    · have ha := hA (by omega)
      rw [if_neg (by omega)] at hr
      subst hr
      clear hA hB hi
      by_cases hz : b = 0
      · have d : (b != 0) = false := by simp [hz]
        go_wp2_with fail
        go_roundw
        case rel => exact ⟨2, by omega, rfl, by first | rfl | trivial, fun _ => ha, fun _ => hz⟩
        case measure => simp [intOf]
      · have d : (b != 0) = true := by simp [hz]
        go_wp2_with fail
        go_ret
        exact ⟨rfl, rfl⟩
    · have ha := hA (by omega)
      have hb := hB (by omega)
      rw [if_neg (by omega)] at hr
      subst hr
      clear hA hB hi
      go_wp2_with fail
      go_ret
      exact ⟨by rw [hb]; rfl, rfl⟩

/-- How the program orders two ratios. -/
def cmpR (f : Nat) (e : Int) (f' : Nat) (e' : Int) : Int := if cmpI e e' ≠ 0 then cmpI e e' else cmpI (rg f) (rg f')

theorem compare_any (w : World) (f f' : Nat) (e e' : Int) (hf : Okw f) (hf' : Okw f') :
    Calls Try.prog 13 #[.agg #[fl f, ii e], .agg #[fl f', ii e']] w fun r w' => r = .returned (ii (cmpR f e f' e')) ∧ Below w.heap.size w w' := by
  have h17 := hide (fun w => cmpInt_any e e' w)
  have h18 := hide (fun w => cmpFl_any f f' hf hf' w)
  unfold cmpR
  generalize cmpI e e' = a at *
  generalize cmpI (rg f) (rg f') = b at *
  have hor := hide (fun w g h0 h1 => or_any w g a b h0 h1)
  generalize (if a ≠ 0 then a else b) = r at *
  go_enter Try.func13, Try.ntmps13
  go_wp2_with fail
  generalize hW : World.alloc _ _ = W
  have hsz : W.heap.size = w.heap.size + 2 := by rw [← hW]; simp
  have c0 : W.cell? ⟨w.heap.size, 0, none⟩ = some (fl f) := by
    rw [← hW]; unfold World.cell?; rw [heap_alloc2_old]; rfl
  have c1 : W.cell? ⟨w.heap.size, 1, none⟩ = some (ii e) := by
    rw [← hW]; unfold World.cell?; rw [heap_alloc2_old]; rfl
  have c2 : W.cell? ⟨w.heap.size + 1, 0, none⟩ = some (fl f') := by
    rw [← hW]; unfold World.cell?; rw [heap_alloc2_new]; rfl
  have c3 : W.cell? ⟨w.heap.size + 1, 1, none⟩ = some (ii e') := by
    rw [← hW]; unfold World.cell?; rw [heap_alloc2_new]; rfl
  have n0 : (W.alloc (Obj.cells #[ii a, ii b] 3)).cell? ⟨w.heap.size + 2, 0, none⟩ = some (ii a) := by
    unfold World.cell?; rw [← hsz, heap_alloc_new]; rfl
  have n1 : (W.alloc (Obj.cells #[ii a, ii b] 3)).cell? ⟨w.heap.size + 2, 1, none⟩ = some (ii b) := by
    unfold World.cell?; rw [← hsz, heap_alloc_new]; rfl
  have hbW : Below w.heap.size w W := by rw [← hW]; exact ((Below.refl _ _).alloc (Nat.le_refl _) _).alloc (by simp) _
  have hbW := hide ((hbW.alloc (by omega) (Obj.cells #[ii a, ii b] 3)).drew)
  clear hW
  go_region_held3 (fun w' => w'.cell? ⟨w.heap.size, 0, none⟩ = some (fl f) ∧ w'.cell? ⟨w.heap.size, 1, none⟩ = some (ii e) ∧ w'.cell? ⟨w.heap.size + 1, 0, none⟩ = some (fl f') ∧ w'.cell? ⟨w.heap.size + 1, 1, none⟩ = some (ii e')) (go_keep)
    (first | (go_at_call 17; refine (unhide h17 _).mono ?_; rintro e w1 ⟨rfl, rfl⟩) | (go_at_call 18; refine (unhide h18 _).mono ?_; rintro e w1 ⟨rfl, rfl⟩) | (go_at_call 16; refine (unhide hor _ _ (by simp [n0]) (by simp [n1])).mono ?_; rintro e w1 ⟨rfl, rfl⟩))
  all_goals
    go_wp2_with fail
    go_ret
    exact ⟨rfl, unhide hbW⟩

theorem zzcompare_any (w : World) (f f' : Nat) (e e' : Int) (hf : Okw f) (hf' : Okw f') :
    Calls Try.prog 8 #[fl f, ii e, fl f', ii e'] w fun r w' => r = .returned (ii (cmpR f e f' e')) ∧ Below w.heap.size w w' := by
  have hc := hide (fun w => compare_any w f f' e e' hf hf')
  generalize cmpR f e f' e' = r at *
  go_enter Try.func8, Try.ntmps8
  go_wp2_with fail
  go_at_call 13
  refine (unhide hc _).mono ?_
  rintro x w' ⟨rfl, hb⟩
  go_wp2_with fail
  go_ret
  exact ⟨rfl, hb⟩

end Go.Proofs.Qxb6604667a
