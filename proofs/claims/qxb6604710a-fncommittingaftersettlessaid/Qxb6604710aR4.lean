import Derived.Test.Qxb6604710aR3
namespace Go.Proofs.Qxb6604710a
open Go.RowKit

/-- The ids of the queue whose transactions have a commit record, in the queue's order. -/
def comm (T : Nat → Tx) (ids : List Nat) : List Nat := ids.filter fun t => decide (0 < (T t).commits)

theorem comm_snoc (T : Nat → Tx) (ids : List Nat) (i t : Nat) (h : ids[i]? = some t) : comm T (ids.take (i + 1)) = comm T (ids.take i) ++ (if 0 < (T t).commits then [t] else []) := by
  unfold comm
  rw [List.take_add_one, h]
  simp [List.filter_append, List.filter_cons]

theorem comm_le (T : Nat → Tx) (ids : List Nat) : (comm T ids).length ≤ ids.length := List.length_filter_le _ _

set_option maxRecDepth 100000 in
set_option maxHeartbeats 1000000 in
theorem committing_any (w : World) (base M : Nat) (mc : Array Value) (v : Value) (ids : List Nat) (T : Nat → Tx) (hq : Que w base M 3 mc v ids T) (hbig : ids.length ≤ 1000000) (B : Nat) (hB : B ≤ w.heap.size) :
    Calls Try.prog 42 #[.pointer (some ⟨M, 0, none⟩)] w fun e w' => ∃ g, e = .returned g ∧ w'.ownsRow B 30 1 g (comm T ids).length ((comm T ids).map ptr) ∧ Below w.heap.size w w' := by
  obtain ⟨ao, cap, rfl⟩ := hq.shape
  have hcell := hq.cell
  obtain ⟨ti, hi, hz0, hz1, hz2⟩ := info_parts Try.info30
  have Hi := hide hi
  have Hz0 := hide hz0
  have Hz1 := hide hz1
  have Hz2 := hide hz2
  have Hq := hide hq
  clear hi hz0 hz1 hz2 hq
  go_enter Try.func42, Try.ntmps42
  go_wp2_with fail
  go_loopw [3, 11] (fun g it wr => ∃ i : Nat, i ≤ ids.length ∧ it = .int .i64 i ∧ wr.ownsRow w.heap.size 30 1 g (comm T (ids.take i)).length ((comm T (ids.take i)).map ptr) ∧ Below w.heap.size w wr) (fun _ it _ => ids.length - (intOf it).toNat)
  case atStart => exact ⟨0, Nat.zero_le _, rfl, World.ownsRow_nil _ _ _ _, Below.refl _ _⟩
  case round =>
    obtain ⟨i, hle, rfl, hown, hbel⟩ := hrel
    have Hown := hide hown
    clear hown
    by_cases hlt : i < ids.length
    · obtain ⟨t, ht⟩ : ∃ t, ids[i]? = some t := ⟨_, List.getElem?_eq_getElem hlt⟩
      obtain ⟨g, cap', cur, hv, hg, hh, _, _⟩ := (unhide Hq).arr (by omega)
      have hslot := (unhide Hq).slot hv ht
      have htx := (unhide Hq).tx i t ht
      have hc6 := htx.c6
      have hgl : g < w.heap.size := ((unhide Hq).own_lt (b := g) (by rw [hv]; rfl)).2
      have htl := htx.lt
      rw [← hbel.cell (p := ⟨g, i, none⟩) hgl] at hslot
      rw [← hbel.cell (p := ⟨t, 6, none⟩) htl] at hc6
      cases hv
      have hlt' : (i : Int) < (ids.length : Int) := by omega
      have Hsn := hide (comm_snoc T ids i t ht)
      have hcl := comm_le T (ids.take i)
      have hbs := hbel.size
      have hc6' : wr.cell? ⟨t, 6, none⟩ = some (.int .i64 (T t).commits) := hc6
      have Hb := hide hbel
      clear hc6 htx hh hg hgl htl hbel hcell ht
      generalize hcc : (T t).commits = cc at *
      have Hcc := hide hcc
      clear hcc
      by_cases hpos : 0 < cc
      · rw [if_pos hpos] at Hsn
        go_wp2_with (at_builtin; refine wpList_append_own2 _ rfl _ _ 27 rfl w.heap.size 30 ti (.pointer none) 1 8 Try.underlying27 (unhide Hi) (unhide Hz0) (unhide Hz1) (unhide Hz2) rfl (by omega) _ (comm T (ids.take i)).length ((comm T (ids.take i)).map ptr) rfl ?own _ 1 1 [ptr t] rfl rfl ?news ?one ?b1 ?b2 ?b3 ?_)
        case own => exact (unhide Hown).alloc _
        case news =>
          intro j u hu
          match j, hu with
          | 0, hu =>
            simp at hu
            subst hu
            have e := heap_alloc_new wr (Obj.cells #[Value.pointer (some ⟨t, 0, none⟩)] 30)
            show World.cell? _ ⟨wr.heap.size, 0, none⟩ = _
            unfold World.cell?
            rw [e]
            rfl
        case one => simp [ptr, Value.oneCell']
        case b1 => simp only [maxLen]; simp at hcl; omega
        case b2 => simp at hcl; omega
        case b3 => simp; omega
        intro v' w1 hown1 hg1 _
        have Hown1 := hide hown1
        have Hg1 := hide hg1
        clear hown1 hg1 hslot hc6'
        go_wp2_with fail
        go_roundw
        case rel =>
          refine ⟨i + 1, by omega, by go_num, ?_, ?_⟩
          · rw [unhide Hsn]
            simpa using unhide Hown1
          · refine ((unhide Hb).alloc (by omega) _).grown (unhide Hg1) (by simp; omega) ?_
            intro b hb
            exact ((unhide Hown).lt b hb).1
        case measure => simp [intOf]; omega
      · rw [if_neg hpos] at Hsn
        go_wp2_with fail
        go_roundw
        case rel =>
          refine ⟨i + 1, by omega, by go_num, ?_, unhide Hb⟩
          rw [unhide Hsn]
          simpa using unhide Hown
        case measure => simp [intOf]; omega
    · have hlt' : ¬ (i : Int) < (ids.length : Int) := by omega
      have hii : i = ids.length := by omega
      have Hii := hide hii
      have Hb := hide hbel
      clear hii hbel hcell
      go_wp2_with fail
      go_ret
      refine ⟨_, rfl, ?_, unhide Hb⟩
      have h := unhide Hown
      rw [unhide Hii, List.take_length] at h
      obtain ⟨h1, h2⟩ := h
      refine ⟨h1, ?_⟩
      rcases h2 with h2 | ⟨g, cap, cur, hv, hg, r⟩
      · exact Or.inl h2
      · exact Or.inr ⟨g, cap, cur, hv, by omega, r⟩

end Go.Proofs.Qxb6604710a
