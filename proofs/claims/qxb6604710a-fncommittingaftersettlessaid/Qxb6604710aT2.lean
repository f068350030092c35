import Derived.Test.Qxb6604710aT1
namespace Go.Proofs.Qxb6604710a
open Go.RowKit
theorem run_neq33_none (w : World) : (binOp .neq 33 (.slice none 0 0) (.slice none 0 0)).run Try.prog w = .ok (.bool false) w := by kernel_rfl
theorem run_neq33_some (w : World) (a : Addr) (l c : Nat) : (binOp .neq 33 (.slice (some a) l c) (.slice none 0 0)).run Try.prog w = .ok (.bool true) w := by kernel_rfl
attribute [local go_sem] run_neq30_same run_eql30_same run_neq33_none run_neq33_some

/-- 'participants' as the law sets it: nil where parts < 0, else a slice of that length. -/
def IsParts (parts : Int) (v : Value) : Prop := (parts < 0 ∧ v = .slice none 0 0) ∨ ∃ (a : Addr) (l c : Nat), parts = l ∧ v = .slice (some a) l c

def doneB (commits votes parts : Int) : Bool := decide (0 ≤ parts) && (commits + votes == parts)

set_option maxRecDepth 100000 in
set_option maxHeartbeats 1000000 in
theorem complete46 (w : World) (t : Nat) (x : Tx) (parts : Int) (h : IsTx w t x) (hp : IsParts parts x.parts) (h1 : 0 ≤ x.commits) (h2 : x.commits ≤ 536870912) (h3 : 0 ≤ x.votes) (h4 : x.votes ≤ 536870912) :
    Calls Try.prog 46 #[.pointer (some ⟨t, 0, none⟩)] w fun e w' => e = .returned (.bool (doneB x.commits x.votes parts)) ∧ ∃ n, w' = w.drewN n := by
  have c3 := h.c3
  have c6 := h.c6
  have c7 := h.c7
  clear h
  generalize x.commits = cm at *
  generalize x.votes = vt at *
  rcases hp with ⟨hneg, hv⟩ | ⟨a, l, c, rfl, hv⟩
  · rw [hv] at c3
    have hd : doneB cm vt parts = false := by unfold doneB; simp; omega
    rw [hd]
    clear hd hv hneg
    go_enter Try.func46, Try.ntmps46
    go_wp2_with fail
    go_quiet (fail)
    go_wp2_with fail
    go_ret
    exact ⟨rfl, _, rfl⟩
  · rw [hv] at c3
    have hd : doneB cm vt l = (cm + vt == (l : Int)) := by unfold doneB; simp
    rw [hd]
    clear hd hv
    go_enter Try.func46, Try.ntmps46
    go_wp2_with fail
    go_quiet (fail)
    go_wp2_with fail
    go_ret
    exact ⟨rfl, _, rfl⟩

set_option maxHeartbeats 1000000 in
theorem zzDone_any (w : World) (cm vt parts : Int) (h1 : 0 ≤ cm) (h2 : cm ≤ 536870912) (h3 : 0 ≤ vt) (h4 : vt ≤ 536870912) :
    Calls Try.prog 15 #[.int .i64 cm, .int .i64 vt, .int .i64 parts] w fun e w' => e = .returned (.bool (doneB cm vt parts)) ∧ w' = w := by
  by_cases hp : 0 ≤ parts
  · have hd : doneB cm vt parts = (cm + vt == parts) := by unfold doneB; simp [hp]
    rw [hd]
    clear hd
    go_enter Try.func15, Try.ntmps15
    go_wp2_with fail
    go_ret
    exact ⟨rfl, rfl⟩
  · have hd : doneB cm vt parts = false := by unfold doneB; simp [hp]
    rw [hd]
    clear hd
    have hp' : decide (0 ≤ parts) = false := by simpa using hp
    go_enter Try.func15, Try.ntmps15
    go_wp2_with fail
    go_ret
    exact ⟨rfl, rfl⟩

def Tx.set (x : Tx) (ts voted commits votes : Int) (parts : Value) : Tx := { x with ts := ts, voted := voted, commits := commits, votes := votes, parts := parts }

theorem IsTx.setAll {w : World} {t : Nat} {x : Tx} (h : IsTx w t x) (ts voted commits votes : Int) (parts : Value) :
    IsTx (((((w.setCell ⟨t, 2, none⟩ (.int .u64 ts)).setCell ⟨t, 8, none⟩ (.int .u64 voted)).setCell ⟨t, 6, none⟩ (.int .i64 commits)).setCell ⟨t, 7, none⟩ (.int .i64 votes)).setCell ⟨t, 3, none⟩ parts) t (x.set ts voted commits votes parts) := by
  unfold IsTx at *
  simp only [World.setCell, Array.getElem?_modify, if_true, h]
  simp [Tx.cells, Tx.set]

set_option maxHeartbeats 1000000 in
theorem setTxn_any (w : World) (t : Nat) (x : Tx) (ts voted commits votes : Int) (ao : Option Addr) (l c : Nat) (h : IsTx w t x) :
    Calls Try.prog 13 #[.pointer (some ⟨t, 0, none⟩), .int .u64 ts, .int .u64 voted, .int .i64 commits, .int .i64 votes, .slice ao l c] w fun e w' => e = .returned (.tuple #[]) ∧
      IsTx w' t (x.set ts voted commits votes (.slice ao l c)) ∧ Kept (fun b => b = t) w w' ∧ w'.heap.size = w.heap.size := by
  have hs := h.setAll ts voted commits votes (.slice ao l c)
  have hk : Kept (fun b => b = t) w (((((w.setCell ⟨t, 2, none⟩ (.int .u64 ts)).setCell ⟨t, 8, none⟩ (.int .u64 voted)).setCell ⟨t, 6, none⟩ (.int .i64 commits)).setCell ⟨t, 7, none⟩ (.int .i64 votes)).setCell ⟨t, 3, none⟩ (.slice ao l c)) :=
    Kept.setCell (X := fun b => b = t) (Kept.setCell (X := fun b => b = t) (Kept.setCell (X := fun b => b = t) (Kept.setCell (X := fun b => b = t) (Kept.setCell (X := fun b => b = t) (Kept.refl _ w) (p := ⟨t, 2, none⟩) rfl _) (p := ⟨t, 8, none⟩) rfl _) (p := ⟨t, 6, none⟩) rfl _) (p := ⟨t, 7, none⟩) rfl _) (p := ⟨t, 3, none⟩) rfl _
  have hz : (((((w.setCell ⟨t, 2, none⟩ (.int .u64 ts)).setCell ⟨t, 8, none⟩ (.int .u64 voted)).setCell ⟨t, 6, none⟩ (.int .i64 commits)).setCell ⟨t, 7, none⟩ (.int .i64 votes)).setCell ⟨t, 3, none⟩ (.slice ao l c)).heap.size = w.heap.size := by
    simp [World.setCell]
  have Hs := hide hs
  have Hk := hide hk
  have Hz := hide hz
  have c2 := h.c2
  have c3 := h.c3
  have c6 := h.c6
  have c7 := h.c7
  have c8 := h.c8
  have f2 := h.frozen 2
  have f3 := h.frozen 3
  have f6 := h.frozen 6
  have f7 := h.frozen 7
  have f8 := h.frozen 8
  clear h hs hk hz
  go_enter Try.func13, Try.ntmps13
  go_wp2_with fail
  go_end0
  exact ⟨rfl, unhide Hs, unhide Hk, unhide Hz⟩

set_option maxHeartbeats 1000000 in
theorem zzTime_any (w : World) (ts voted commits : Int) :
    Calls Try.prog 41 #[.int .u64 ts, .int .u64 voted, .int .i64 commits] w fun e w' => e = .returned (.int .u64 (if commits = 0 then voted else ts)) ∧ w' = w := by
  by_cases hc : commits = 0
  · have hb : (commits == 0) = true := by simpa using hc
    rw [if_pos hc]
    clear hc
    go_enter Try.func41, Try.ntmps41
    go_wp2_with fail
    go_ret
    exact ⟨rfl, rfl⟩
  · have hb : (commits == 0) = false := by simpa using hc
    rw [if_neg hc]
    clear hc
    go_enter Try.func41, Try.ntmps41
    go_wp2_with fail
    go_ret
    exact ⟨rfl, rfl⟩

set_option maxHeartbeats 1000000 in
theorem zzBefore_any (w : World) (ta sa na tb sb nb : Int) :
    Calls Try.prog 40 #[.int .u64 ta, .int .i64 sa, .int .u64 na, .int .u64 tb, .int .i64 sb, .int .u64 nb] w fun e w' => e = .returned (.bool (if ta = tb then tidB sa na sb nb else decide (ta < tb))) ∧ w' = w := by
  unfold tidB
  by_cases h1 : ta = tb
  · have hb : (ta != tb) = false := by simpa using h1
    rw [if_pos h1]
    by_cases h2 : sa = sb
    · have hb2 : (sa != sb) = false := by simpa using h2
      rw [if_pos h2]
      clear h1 h2
      go_enter Try.func40, Try.ntmps40
      go_wp2_with fail
      go_ret
      exact ⟨rfl, rfl⟩
    · have hb2 : (sa != sb) = true := by simpa using h2
      rw [if_neg h2]
      clear h1 h2
      go_enter Try.func40, Try.ntmps40
      go_wp2_with fail
      go_ret
      exact ⟨rfl, rfl⟩
  · have hb : (ta != tb) = true := by simpa using h1
    rw [if_neg h1]
    clear h1
    go_enter Try.func40, Try.ntmps40
    go_wp2_with fail
    go_ret
    exact ⟨rfl, rfl⟩

/-- zzIn: where the transaction lies in the queue at its place. -/
theorem zzIn_any (w : World) (base M k : Nat) (mc : Array Value) (v : Value) (ids : List Nat) (T : Nat → Tx) (hq : Que w base M k mc v ids T) (t : Nat) (ht : t ∈ ids) (hbig : ids.length ≤ 1000000) (qd : Bool) (hqd : (T t).queued = qd) :
    Calls Try.prog 18 #[v, .pointer (some ⟨t, 0, none⟩), .bool qd] w fun e w' => e = .returned (.bool true) ∧ ∃ n, w' = w.drewN n := by
  obtain ⟨i, hi, htx⟩ := hq.memTx ht
  have hil := lt_of_some hi
  obtain ⟨g, cap, cur, rfl, _, hh, _, _⟩ := hq.arr (by omega)
  have hslot := hq.slot rfl hi
  have hfl := hide (fun m => fields_any (w.drewN m) t _ (htx.drewN m))
  simp only [Tx.at, hqd] at hfl
  have hil' : (i : Int) < (ids.length : Int) := by omega
  clear hq hi htx hh
  cases qd with
  | true =>
    go_enter Try.func18, Try.ntmps18
    go_wp2_with fail
    refine (unhide hfl 0).mono ?_
    rintro e w1 ⟨rfl, m, rfl⟩
    go_wp2_with fail
    go_ret
    exact ⟨rfl, _, rfl⟩
  | false =>
    go_enter Try.func18, Try.ntmps18
    go_wp2_with fail
    refine (unhide hfl 0).mono ?_
    rintro e w1 ⟨rfl, m, rfl⟩
    go_wp2_with fail
    go_ret
    exact ⟨rfl, _, rfl⟩

end Go.Proofs.Qxb6604710a
