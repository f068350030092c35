import Derived.Test.Qxb6604710aT2
namespace Go.Proofs.Qxb6604710a
open Go.RowKit

def timeOf (ts voted commits : Int) : Int := if commits = 0 then voted else ts
def befB (ta sa na tb sb nb : Int) : Bool := if ta = tb then tidB sa na sb nb else decide (ta < tb)
theorem zzTime_of (w : World) (ts voted commits : Int) :
    Calls Try.prog 41 #[.int .u64 ts, .int .u64 voted, .int .i64 commits] w fun e w' => e = .returned (.int .u64 (timeOf ts voted commits)) ∧ w' = w := zzTime_any w ts voted commits
theorem zzBefore_of (w : World) (ta sa na tb sb nb : Int) :
    Calls Try.prog 40 #[.int .u64 ta, .int .i64 sa, .int .u64 na, .int .u64 tb, .int .i64 sb, .int .u64 nb] w fun e w' => e = .returned (.bool (befB ta sa na tb sb nb)) ∧ w' = w := zzBefore_any w ta sa na tb sb nb
theorem lessB_befB (x y : Tx) : lessB x y = befB (timeOf x.ts x.voted x.commits) x.site x.n (timeOf y.ts y.voted y.commits) y.site y.n := rfl

set_option maxRecDepth 100000 in
set_option maxHeartbeats 2000000 in
theorem heapOK_any (w : World) (base M k : Nat) (mc : Array Value) (v : Value) (ids : List Nat) (T : Nat → Tx) (hq : Que w base M k mc v ids T) (hbig : ids.length ≤ 1000000) (hh : HeapOK (LT T) ids.length (gd ids)) :
    Calls Try.prog 20 #[v] w fun e w' => e = .returned (.bool true) ∧ ∃ n, w' = w.drewN n := by
  obtain ⟨ao, cap, rfl⟩ := hq.shape
  have Hq := hide hq
  have Hh := hide hh
  clear hq hh
  go_enter Try.func20, Try.ntmps20
  go_wp2_with fail
  go_loopw [3] (fun it wr => ∃ i : Nat, i ≤ ids.length ∧ it = .int .i64 i ∧ ∃ n, wr = w.drewN n) (fun it _ => ids.length - (intOf it).toNat)
  case atStart => exact ⟨0, Nat.zero_le _, rfl, 0, rfl⟩
  case round =>
    obtain ⟨i, hle, rfl, n, rfl⟩ := hrel
    by_cases hlt : i < ids.length
    · have hlt' : (i : Int) < (ids.length : Int) := by omega
      obtain ⟨a, ha⟩ : ∃ a, ids[i]? = some a := ⟨_, List.getElem?_eq_getElem hlt⟩
      obtain ⟨g, cap2, cur, hv, _, hhh, _, _⟩ := (unhide Hq).arr (by omega)
      have hsa := (unhide Hq).slot hv ha
      have hta := (unhide Hq).tx i a ha
      have hfa := hide (fun m => fields_any (w.drewN m) a _ (hta.drewN m))
      simp only [Tx.at] at hfa
      cases hv
      have hii : ((i : Int) != (i : Int)) = false := by simp
      by_cases hz : i = 0
      · subst hz
        clear ha hta hhh
        go_wp2_with fail
        refine (unhide hfa _).mono ?_
        rintro e w1 ⟨rfl, m, rfl⟩
        go_wp2_with fail
        go_roundw
        case rel => exact ⟨0 + 1, by omega, by go_num, _, rfl⟩
        case measure => simp [intOf]; omega
      · have hpos : (0 : Int) < (i : Int) := by omega
        have hp := par_lt (show 0 < i by omega)
        have hpar : ((i : Int) - 1) / 2 = ((par i : Nat) : Int) := by unfold par; omega
        have Hp := hide hpar
        have hparlt : ((i : Int) - 1) / 2 < (ids.length : Int) := by omega
        obtain ⟨b, hb⟩ : ∃ b, ids[par i]? = some b := ⟨_, List.getElem?_eq_getElem (by omega)⟩
        have hsb := (unhide Hq).slot rfl hb
        have htb := (unhide Hq).tx (par i) b hb
        have hfb := hide (fun m => fields_any (w.drewN m) b _ (htb.drewN m))
        simp only [Tx.at] at hfb
        have hsb' : w.cell? ⟨g, (i - 1) / 2, none⟩ = some (.pointer (some ⟨b, 0, none⟩)) := hsb
        have ga : gd ids i = a := by simp [gd, List.getD_eq_getElem?_getD, ha]
        have gb : gd ids (par i) = b := by simp [gd, List.getD_eq_getElem?_getD, hb]
        have hless : lessB (T a) (T b) = false := by
          have := unhide Hh i (by omega) hlt
          rw [ga, gb] at this
          exact this
        rw [lessB_befB] at hless
        have Hless := hide hless
        clear ha hta hhh hpar hb htb hsb ga gb hless
        go_wp2_with fail
        refine (unhide hfa _).mono ?_
        rintro e w1 ⟨rfl, m, rfl⟩
        go_wp2_with fail
        refine (unhide hfb _).mono ?_
        rintro e w1 ⟨rfl, m2, rfl⟩
        go_wp2_with fail
        refine (zzTime_of _ _ _ _).mono ?_
        rintro e w1 ⟨rfl, rfl⟩
        go_wp2_with fail
        refine (zzTime_of _ _ _ _).mono ?_
        rintro e w1 ⟨rfl, rfl⟩
        go_wp2_with fail
        refine (zzBefore_of _ _ _ _ _ _ _).mono ?_
        rintro e w1 ⟨rfl, rfl⟩
        rw [unhide Hless]
        go_wp2_with fail
        go_roundw
        case rel => exact ⟨i + 1, by omega, by go_num, _, rfl⟩
        case measure => simp [intOf]; omega
    · have hlt' : ¬ (i : Int) < (ids.length : Int) := by omega
      go_wp2_with fail
      go_ret
      exact ⟨rfl, n, rfl⟩

end Go.Proofs.Qxb6604710a
