import Derived.Test.Qxb6604710aProg
import Derived.WalkKit
import Derived.KernelRfl
import Derived.Deep.QuietTactic
import Derived.BigQuiet
import Derived.BigRegion
namespace Go.Proofs.Qxb6604710a
open Go.RowKit

theorem hide {p : Prop} (h : p) : Hid p := h
theorem unhide {p : Prop} (h : Hid p) : p := h

/-- A transaction's fields, as the walks see them. -/
structure Tx where
  site : Int
  n : Int
  ts : Int
  parts : Value
  voters : Value
  sites : Value
  commits : Int
  votes : Int
  voted : Int
  queued : Bool
  index : Int

def Tx.cells (x : Tx) : Array Value :=
  #[.int .i64 x.site, .int .u64 x.n, .int .u64 x.ts, x.parts, x.voters, x.sites, .int .i64 x.commits, .int .i64 x.votes, .int .u64 x.voted, .bool x.queued, .int .i64 x.index]

def IsTx (w : World) (t : Nat) (x : Tx) : Prop := w.heap[t]? = some (.cells x.cells 76 (0, 0))

section
variable {w : World} {t : Nat} {x : Tx}
theorem IsTx.cell (h : IsTx w t x) (o : Nat) : w.cell? ⟨t, o, none⟩ = x.cells[o]? := by
  unfold World.cell?
  simp [show w.heap[t]? = _ from h]
theorem IsTx.frozen (h : IsTx w t x) (o : Nat) : w.frozen? ⟨t, o, none⟩ = false := by
  unfold World.frozen?
  simp [show w.heap[t]? = _ from h]
theorem IsTx.c0 (h : IsTx w t x) : w.cell? ⟨t, 0, none⟩ = some (.int .i64 x.site) := h.cell 0
theorem IsTx.c1 (h : IsTx w t x) : w.cell? ⟨t, 1, none⟩ = some (.int .u64 x.n) := h.cell 1
theorem IsTx.c2 (h : IsTx w t x) : w.cell? ⟨t, 2, none⟩ = some (.int .u64 x.ts) := h.cell 2
theorem IsTx.c3 (h : IsTx w t x) : w.cell? ⟨t, 3, none⟩ = some x.parts := h.cell 3
theorem IsTx.c6 (h : IsTx w t x) : w.cell? ⟨t, 6, none⟩ = some (.int .i64 x.commits) := h.cell 6
theorem IsTx.c7 (h : IsTx w t x) : w.cell? ⟨t, 7, none⟩ = some (.int .i64 x.votes) := h.cell 7
theorem IsTx.c8 (h : IsTx w t x) : w.cell? ⟨t, 8, none⟩ = some (.int .u64 x.voted) := h.cell 8
theorem IsTx.c9 (h : IsTx w t x) : w.cell? ⟨t, 9, none⟩ = some (.bool x.queued) := h.cell 9
theorem IsTx.c10 (h : IsTx w t x) : w.cell? ⟨t, 10, none⟩ = some (.int .i64 x.index) := h.cell 10
end

def Tx.time (x : Tx) : Int := if x.commits = 0 then x.voted else x.ts

set_option maxHeartbeats 400000 in
theorem time_any (w : World) (t : Nat) (x : Tx) (h : IsTx w t x) :
    Calls Try.prog 103 #[.pointer (some ⟨t, 0, none⟩)] w fun e w' => e = .returned (.int .u64 x.time) ∧ w' = w := by
  have h2 := h.c2
  have h6 := h.c6
  have h8 := h.c8
  clear h
  obtain ⟨site, n, ts, parts, voters, sites, commits, votes, voted, queued, index⟩ := x
  simp only [Tx.time] at *
  by_cases hc : commits = 0
  · have hb : (commits == 0) = true := by simpa using hc
    rw [if_pos hc]
    clear hc
    go_enter Try.func103, Try.ntmps103
    go_wp2
    go_ret
    exact ⟨rfl, rfl⟩
  · have hb : (commits == 0) = false := by simpa using hc
    rw [if_neg hc]
    clear hc
    go_enter Try.func103, Try.ntmps103
    go_wp2
    go_ret
    exact ⟨rfl, rfl⟩

end Go.Proofs.Qxb6604710a
