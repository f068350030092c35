import Derived.Test.Qxb6604710aR2
namespace Go.Proofs.Qxb6604710a
open Go.RowKit

theorem run_makeMapN (t : TypeId) (w : World) : (Instr.makeMap t none).run Try.prog w = .ok (.map (some w.heap.size)) (w.alloc (.map #[] 0)) := rfl
attribute [local go_sem] run_makeMapN

def mergerCells (mp : Value) (vp vc : Value) (ps : Value) : Array Value := #[mp, .map none, .bool false, vp, vc, .map none, ps]

set_option maxHeartbeats 400000 in
theorem newMerger_any (w : World) :
    Calls Try.prog 10 #[.bool false] w fun e w' => e = .returned (.pointer (some ⟨w.heap.size + 1, 0, none⟩)) ∧
      w' = (w.alloc (.map #[] 0)).alloc (.cells (mergerCells (.map (some w.heap.size)) (.slice none 0 0) (.slice none 0 0) (.map none)) 71) := by
  go_enter Try.func10, Try.ntmps10
  go_wp2_with fail
  go_ret
  exact ⟨rfl, rfl⟩

def newTx (site n ts voted commits votes : Int) (parts : Value) : Tx := ⟨site, n, ts, parts, .slice none 0 0, .slice none 0 0, commits, votes, voted, false, 0⟩

set_option maxHeartbeats 400000 in
theorem newTxn_any (w : World) (site n ts voted commits votes : Int) (ao : Option Addr) (l c : Nat) :
    Calls Try.prog 11 #[.int .i64 site, .int .u64 n, .int .u64 ts, .int .u64 voted, .int .i64 commits, .int .i64 votes, .slice ao l c] w fun e w' => e = .returned (.pointer (some ⟨w.heap.size, 0, none⟩)) ∧
      w' = w.alloc (.cells (newTx site n ts voted commits votes (.slice ao l c)).cells 76) := by
  go_enter Try.func11, Try.ntmps11
  go_wp2_with fail
  go_ret
  exact ⟨rfl, rfl⟩

set_option maxHeartbeats 400000 in
theorem placed_any (w : World) (M : Nat) (v : Value) (h : w.cell? ⟨M, 3, none⟩ = some v) :
    Calls Try.prog 16 #[.pointer (some ⟨M, 0, none⟩)] w fun e w' => e = .returned v ∧ w' = w := by
  go_enter Try.func16, Try.ntmps16
  go_wp2_with fail
  go_ret
  exact ⟨rfl, rfl⟩

set_option maxHeartbeats 400000 in
theorem complete_any (w : World) (M : Nat) (v : Value) (h : w.cell? ⟨M, 4, none⟩ = some v) :
    Calls Try.prog 17 #[.pointer (some ⟨M, 0, none⟩)] w fun e w' => e = .returned v ∧ w' = w := by
  go_enter Try.func17, Try.ntmps17
  go_wp2_with fail
  go_ret
  exact ⟨rfl, rfl⟩

set_option maxHeartbeats 1000000 in
theorem fields_any (w : World) (t : Nat) (x : Tx) (h : IsTx w t x) :
    Calls Try.prog 19 #[.pointer (some ⟨t, 0, none⟩)] w fun e w' => e = .returned (.tuple #[.int .i64 x.site, .int .u64 x.n, .int .u64 x.ts, .int .u64 x.voted, .int .i64 x.commits, .int .i64 x.votes, .bool x.queued, .int .i64 x.index]) ∧ ∃ n, w' = w.drewN n := by
  have h0 := h.c0
  have h1 := h.c1
  have h2 := h.c2
  have h6 := h.c6
  have h7 := h.c7
  have h8 := h.c8
  have h9 := h.c9
  have h10 := h.c10
  clear h
  go_enter Try.func19, Try.ntmps19
  go_wp2_with fail
  go_quiet (fail)
  go_wp2_with fail
  refine bodyPost_ret (v := .tuple #[.int .i64 x.site, .int .u64 x.n, .int .u64 x.ts, .int .u64 x.voted, .int .i64 x.commits, .int .i64 x.votes, .bool x.queued, .int .i64 x.index]) (by simp [results, Try.results19, go_sem]) rfl ⟨rfl, _, rfl⟩

set_option maxHeartbeats 400000 in
theorem zzplace_new (w : World) (base M : Nat) (mc : Array Value) (vp vc : Value) (P C : List Nat) (T : Nat → Tx) (t j : Nat) (h : Mg w base M mc vp vc P C T)
    (ht : IsTx w t ((T t).at j)) (hq : (T t).queued = false) (htP : t ∉ P) (htC : t ∉ C) (htb : base ≤ t) (hbig : P.length < 1000000) :
    Calls Try.prog 12 #[.pointer (some ⟨M, 0, none⟩), .pointer (some ⟨t, 0, none⟩)] w fun e w' => e = .returned (.tuple #[]) ∧ PlacePost w base M vp vc P C (updT T t { T t with queued := true }) t w' := by
  have hp := hide (place_new w base M mc vp vc P C T t j h ht hq htP htC htb hbig)
  clear h ht hq
  go_enter Try.func12, Try.ntmps12
  go_wp2_with fail
  refine (unhide hp).mono ?_
  rintro e w' ⟨rfl, hpost⟩
  have H := hide hpost
  clear hpost hp
  go_wp2_with fail
  go_end0
  exact ⟨rfl, unhide H⟩

end Go.Proofs.Qxb6604710a
