import Derived.Test.Qxb6604710aP2
import Derived.Test.Qxb6604710aSh
import Derived.Test.Qxb6604710aQ5
import Derived.Lib.RowBridge
import Derived.Lib.SortBridge
import Derived.Sort.LotA
import Derived.Deep.QuietTactic
import Derived.BigQuiet
namespace Go.Proofs.Qxb6604710a
open Go.Shelf Go.RowKit Go.Lib Go.Sort

theorem siT : ∃ i, Try.prog.info? 53 = some i ∧ i.desc = .slice 23 :=
  ⟨(Try.prog.info? 53).get (by kernel_rfl), by kernel_rfl, by kernel_rfl⟩

theorem siE : ∃ i, Try.prog.info? 23 = some i ∧ i.hasPointers = false ∧ i.bytes = 8 ∧ i.size = 1 :=
  ⟨(Try.prog.info? 23).get (by kernel_rfl), by kernel_rfl, by kernel_rfl, by kernel_rfl, by kernel_rfl⟩

theorem siK {i : TypeInfo} (a : i.hasPointers = false) (b : i.bytes = 8) (n : Nat) (h2 : 2 ≤ n) : Lib.swapperK n i 11 = 5 := by
  have c : (n == 0) = false := by simp; omega
  have d : (n == 1) = false := by simp; omega
  simp [Lib.swapperK, a, b, c, d]

set_option maxRecDepth 100000 in
set_option maxHeartbeats 2000000 in
theorem lessLast_any (blk off c Bs size : Nat) (W : World) (G : Nat → Int) (hs : W.cell? ⟨Bs, 0, none⟩ = some (.slice (some ⟨blk, off, none⟩) size c))
    (hc : ∀ t, t < size → W.cell? ⟨blk, off + t, none⟩ = some (.int .u64 (G t))) (i j : Nat) (hi : i < size) (hj : j < size) :
    Calls Try.prog 53 #[.int .i64 i, .int .i64 j, .pointer (some ⟨Bs, 0, none⟩)] W fun e w' => e = .returned (.bool (decide (G i < G j))) ∧ ∃ q, w' = W.drewN q := by
  have ci := hc i hi
  have cj := hc j hj
  go_enter Try.func53, Try.ntmps53
  go_wp2_with fail
  go_quiet (fail)
  go_wp2_with fail
  go_ret
  exact ⟨rfl, nq, rfl⟩

/-- The sort of the row that the boxed slice names: a permutation of it, rising; nothing else that lay turns. -/
theorem sort_any (blk c Bs : Nat) (d : Array Int) (h2 : 2 ≤ d.size) (hsz : d.size < 4611686018427387904) (w : World)
    (hH : Holds (Value.int .u64) w blk 0 d) (hblk : blk < w.heap.size) (hBs : Bs < w.heap.size) (hne : Bs ≠ blk) (hs : w.cell? ⟨Bs, 0, none⟩ = some (.slice (some ⟨blk, 0, none⟩) d.size c)) :
    Calls Try.prog 52 #[.iface 53 (.slice (some ⟨blk, 0, none⟩) d.size c), .func (.func 53) #[] #[.pointer (some ⟨Bs, 0, none⟩)]] w fun e w' =>
      e = .returned (.tuple #[]) ∧ ∃ d' : Array Int, d'.size = d.size ∧ d'.toList.Perm d.toList ∧ (∀ i j, i < j → j < d.size → d'[i]! ≤ d'[j]!) ∧ Holds (Value.int .u64) w' blk 0 d' ∧ Kept (· = blk) w w' := by
  have hless : LessReads Try.prog 53 #[.pointer (some ⟨Bs, 0, none⟩)] (Value.int .u64) ltInt blk 0 d.size w := by
    intro m os dk hs' i j hi hj
    have e : sortWorld (Value.int .u64) w blk 0 m dk os = putRow (Value.int .u64) (grow (Sort.ahead w m) os) blk 0 dk := by
      unfold sortWorld; rw [putRow_grow _ (Sort.ahead w m) _ blk 0 _ hblk]
    have hHg : Holds (Value.int .u64) (grow (Sort.ahead w m) os) blk 0 d := holds_grow _ _ _ blk 0 d hblk (holds_ahead _ _ _ _ _ _ hH)
    refine lessLast_any blk 0 c Bs d.size _ (fun t => dk[t]!) ?_ (fun t ht => ?_) i j hi hj
    · rw [e, cell?_putRow_other _ _ blk 0 dk _ (Or.inl hne), cell?_grow _ _ _ hBs]
      exact hs
    · rw [e]; exact cell?_putRow _ _ blk 0 d dk hHg hs' t (by omega)
  obtain ⟨iT, t1, t2⟩ := siT
  obtain ⟨iE, e1, e2, e3, e4⟩ := siE
  have hS := Any.sort_Slice_sorted Try.sl6 53 23 iT iE t1 t2 (by kernel_rfl) e1 11 (fun _ => by kernel_rfl) e4 (fun _ => by kernel_rfl) (Value.int .u64) (fun _ => rfl) ltInt swo_ltInt 53 _
    (enters_of Try.func53 (by kernel_rfl) rfl) blk 0 c d h2 hsz 63 (by rw [siK e2 e3 _ h2]; kernel_rfl) true
    (fun args W => run_callFunc_extern Try.func63 (by kernel_rfl) (by kernel_rfl) (by kernel_rfl) (e := Extern.ReflectliteSwapper.swap true) (by kernel_rfl) args W) w hless hH hblk
  change Calls Try.prog 52 _ _ _ at hS
  refine hS.mono ?_
  rintro e w' ⟨rfl, d', n, os, hp, hso, rfl⟩
  refine ⟨rfl, d', hp.1, ?_, ?_, ?_, ?_⟩
  · have := hp.2.2
    have e1 : d'.extract 0 d.size = d' := by rw [← hp.1]; simp
    have e2 : d.extract 0 d.size = d := by simp
    rw [e1, e2] at this
    exact this
  · intro i j hij hj
    have := hso i j (Nat.zero_le _) hij hj
    simp only [ltInt, decide_eq_false_iff_not] at this
    omega
  · exact holds_grow _ _ _ blk 0 d' (by simp; exact hblk) (holds_putRow _ _ blk 0 d d' (holds_ahead _ _ _ _ _ _ hH) hp.1)
  · refine ⟨rfl, rfl, rfl, by simp [Sort.ahead], fun k hk hx => ?_⟩
    rw [heap_grow_old _ _ (by simp; exact hk)]
    show ((Sort.ahead w n).heap.modify blk _)[k]? = _
    rw [Array.getElem?_modify, if_neg (fun e => hx e.symm)]
    rfl

end Go.Proofs.Qxb6604710a
