import Derived.Test.Qxb6604710aR5
import Derived.Test.Qxb6604710aOpen
namespace Go.Proofs.Qxb6604710a
open Go.RowKit

theorem updT_updT (T : Nat → Tx) (t : Nat) (x y : Tx) : updT (updT T t x) t y = updT T t y := by
  funext b; unfold updT; split <;> rfl

theorem MgQ.below {w w' : World} {base M : Nat} {mc : Array Value} {vp vc : Value} {P C : List Nat} {T : Nat → Tx} (h : MgQ w base M mc vp vc P C T) (hb : Below w.heap.size w w') : MgQ w' base M mc vp vc P C T :=
  ⟨h.p.below hb, h.c.below hb, h.dj, h.ar, h.fp, h.fc, h.bp, h.bc, Nat.le_trans h.hb hb.size, h.hM⟩
theorem Mg.below {w w' : World} {base M : Nat} {mc : Array Value} {vp vc : Value} {P C : List Nat} {T : Nat → Tx} (h : Mg w base M mc vp vc P C T) (hb : Below w.heap.size w w') : Mg w' base M mc vp vc P C T :=
  ⟨h.toMgQ.below hb, h.hp, h.hc⟩

theorem MgQ.congr {w : World} {base M : Nat} {mc : Array Value} {vp vc : Value} {P C : List Nat} {T T' : Nat → Tx} (h : MgQ w base M mc vp vc P C T) (hP : ∀ t ∈ P, T' t = T t) (hC : ∀ t ∈ C, T' t = T t) : MgQ w base M mc vp vc P C T' :=
  ⟨h.p.congr hP, h.c.congr hC, h.dj, h.ar, fun t ht => by rw [hP t ht]; exact h.fp t ht, fun t ht => by rw [hC t ht]; exact h.fc t ht, h.bp, h.bc, h.hb, h.hM⟩

theorem heapOK_congr {T T' : Nat → Tx} {l : List Nat} (h : HeapOK (LT T) l.length (gd l)) (hT : ∀ t ∈ l, T' t = T t) : HeapOK (LT T') l.length (gd l) := by
  intro i h0 hn
  have hp := par_lt h0
  have m1 : gd l i ∈ l := by
    simp only [gd, List.getD_eq_getElem?_getD, List.getElem?_eq_getElem hn, Option.getD_some]
    exact List.getElem_mem hn
  have m2 : gd l (par i) ∈ l := by
    have hpn : par i < l.length := by omega
    simp only [gd, List.getD_eq_getElem?_getD, List.getElem?_eq_getElem hpn, Option.getD_some]
    exact List.getElem_mem hpn
  have := h i h0 hn
  unfold LT at *
  rw [hT _ m1, hT _ m2]
  exact this

theorem Mg.congr {w : World} {base M : Nat} {mc : Array Value} {vp vc : Value} {P C : List Nat} {T T' : Nat → Tx} (h : Mg w base M mc vp vc P C T) (hP : ∀ t ∈ P, T' t = T t) (hC : ∀ t ∈ C, T' t = T t) : Mg w base M mc vp vc P C T' :=
  ⟨h.toMgQ.congr hP hC, heapOK_congr h.hp hP, heapOK_congr h.hc hC⟩

theorem MgQ.memP_lt {w : World} {base M : Nat} {mc : Array Value} {vp vc : Value} {P C : List Nat} {T : Nat → Tx} (h : MgQ w base M mc vp vc P C T) {t : Nat} (ht : t ∈ P) : t < w.heap.size := h.mx_lt (Or.inr (Or.inl ht))
theorem MgQ.memC_lt {w : World} {base M : Nat} {mc : Array Value} {vp vc : Value} {P C : List Nat} {T : Nat → Tx} (h : MgQ w base M mc vp vc P C T) {t : Nat} (ht : t ∈ C) : t < w.heap.size := h.mx_lt (Or.inr (Or.inr (Or.inl ht)))

/-- A transaction just made, and placed. -/
theorem placeFresh (w : World) (base M : Nat) (mc : Array Value) (vp vc : Value) (P C : List Nat) (T : Nat → Tx) (x : Tx) (h : Mg w base M mc vp vc P C T)
    (hx : x.queued = false) (hx0 : x.index = 0) (hbig : P.length < 1000000) :
    Calls Try.prog 12 #[.pointer (some ⟨M, 0, none⟩), .pointer (some ⟨w.heap.size, 0, none⟩)] (w.alloc (.cells x.cells 76)) fun e w' => e = .returned (.tuple #[]) ∧
      PlacePost (w.alloc (.cells x.cells 76)) base M vp vc P C (updT T w.heap.size { x with queued := true }) w.heap.size w' := by
  have hb : Below w.heap.size w (w.alloc (.cells x.cells 76)) := (Below.refl _ _).alloc (Nat.le_refl _) _
  have nP : w.heap.size ∉ P := fun e => by have := h.memP_lt e; omega
  have nC : w.heap.size ∉ C := fun e => by have := h.memC_lt e; omega
  have h1 : Mg (w.alloc (.cells x.cells 76)) base M mc vp vc P C (updT T w.heap.size x) :=
    (h.below hb).congr (fun t ht => updT_other _ _ (fun e => nP (e ▸ ht))) (fun t ht => updT_other _ _ (fun e => nC (e ▸ ht)))
  have ht : IsTx (w.alloc (.cells x.cells 76)) w.heap.size ((updT T w.heap.size x w.heap.size).at 0) := by
    rw [updT_same]
    have e : x.at 0 = x := by unfold Tx.at; cases x; simp at hx0 ⊢; exact hx0.symm
    rw [e]
    exact heap_alloc_new w _
  have := zzplace_new (w.alloc (.cells x.cells 76)) base M mc vp vc P C (updT T w.heap.size x) w.heap.size 0 h1 ht (by rw [updT_same]; exact hx) nP nC h.hb hbig
  rw [updT_updT, updT_same] at this
  exact this

theorem comm_congr {T T' : Nat → Tx} {l : List Nat} (h : ∀ t ∈ l, T' t = T t) : comm T' l = comm T l := by
  unfold comm
  apply List.filter_congr
  intro t ht
  rw [h t ht]

theorem comm_perm {T : Nat → Tx} {l l' : List Nat} (h : l'.Perm l) : (comm T l').length = (comm T l).length := (h.filter _).length_eq

set_option maxHeartbeats 400000 in
theorem bytes24 (w : World) (ao : Option Addr) (n cap : Nat) (hn : n ≤ 1048576) :
    Calls Try.prog 24 #[.slice ao n cap] w fun e w' => e = .returned (.bool true) ∧ w' = w := by
  have h1 : ¬ (1048576 : Int) < (n : Int) := by omega
  go_enter Try.func24, Try.ntmps24
  go_wp2_with fail
  go_ret
  exact ⟨rfl, rfl⟩

set_option maxHeartbeats 400000 in
theorem bytes24_no (w : World) (ao : Option Addr) (n cap : Nat) (hn : 1048576 < n) :
    Calls Try.prog 24 #[.slice ao n cap] w fun e w' => e = .returned (.bool false) ∧ w' = w := by
  have h1 : (1048576 : Int) < (n : Int) := by omega
  go_enter Try.func24, Try.ntmps24
  go_wp2_with fail
  go_ret
  exact ⟨rfl, rfl⟩

def qks : List IntKind := [.i64, .u64, .u64, .u64, .i64]

theorem IsRows.q5 {w wr : World} {ao : Option Addr} {n cap : Nat} {Z : Nat → Nat → Int} (h : IsRows qks w ao n cap Z) (hb : Below w.heap.size w wr) {i : Nat} (hi : i < n) :
    ∃ b off, ao = some ⟨b, off, none⟩ ∧ wr.cell? ⟨b, off + i * 5, none⟩ = some (.int .i64 (Z i 0)) ∧ wr.cell? ⟨b, off + i * 5 + 1, none⟩ = some (.int .u64 (Z i 1)) ∧ wr.cell? ⟨b, off + i * 5 + 2, none⟩ = some (.int .u64 (Z i 2)) ∧
      wr.cell? ⟨b, off + i * 5 + 3, none⟩ = some (.int .u64 (Z i 3)) ∧ wr.cell? ⟨b, off + i * 5 + 4, none⟩ = some (.int .i64 (Z i 4)) := by
  obtain ⟨b, off, rfl, hbl, hc⟩ := h.at hi (by decide)
  refine ⟨b, off, rfl, ?_, ?_, ?_, ?_, ?_⟩
  · rw [hb.cell (p := ⟨b, _, none⟩) hbl]; exact (hc i hi 0 .i64 rfl).1
  · rw [hb.cell (p := ⟨b, _, none⟩) hbl]; exact (hc i hi 1 .u64 rfl).1
  · rw [hb.cell (p := ⟨b, _, none⟩) hbl]; exact (hc i hi 2 .u64 rfl).1
  · rw [hb.cell (p := ⟨b, _, none⟩) hbl]; exact (hc i hi 3 .u64 rfl).1
  · rw [hb.cell (p := ⟨b, _, none⟩) hbl]; exact (hc i hi 4 .i64 rfl).1

/-- What the loop that places keeps from round to round. -/
structure PlRel (w : World) (base M : Nat) (i : Nat) (want : Nat) (wr : World) (mc : Array Value) (vp : Value) (P : List Nat) (T : Nat → Tx) : Prop where
  mg : Mg wr base M mc vp (.slice none 0 0) P [] T
  len : P.length = i
  cnt : (comm T P).length = want
  bel : Below w.heap.size w wr

set_option maxHeartbeats 400000 in
theorem zzcommitting_any (w : World) (base M : Nat) (mc : Array Value) (v : Value) (ids : List Nat) (T : Nat → Tx) (hq : Que w base M 3 mc v ids T) (hbig : ids.length ≤ 1000000) (B : Nat) (hB : B ≤ w.heap.size) :
    Calls Try.prog 25 #[.pointer (some ⟨M, 0, none⟩)] w fun e w' => ∃ ag capg, e = .returned (.slice ag (comm T ids).length capg) ∧ w'.ownsRow B 30 1 (.slice ag (comm T ids).length capg) (comm T ids).length ((comm T ids).map ptr) ∧ Below w.heap.size w w' := by
  have hc := hide (committing_any w base M mc v ids T hq hbig B hB)
  clear hq
  go_enter Try.func25, Try.ntmps25
  go_wp2_with fail
  refine (unhide hc).mono ?_
  rintro e w' ⟨g, rfl, hown, hb⟩
  obtain ⟨ag, capg, rfl, _⟩ := ownsRow_shape hown
  have H1 := hide hown
  have H2 := hide hb
  clear hown hb hc
  go_wp2_with fail
  go_ret
  exact ⟨_, _, rfl, unhide H1, unhide H2⟩

theorem mg_init (w : World) (T : Nat → Tx) (base : Nat) (hb : w.heap.size + 2 ≤ base) {w1 : World} (hw1 : Below (w.heap.size + 2) ((w.alloc (.map #[] 0)).alloc (.cells (mergerCells (.map (some w.heap.size)) (.slice none 0 0) (.slice none 0 0) (.map none)) 71)) w1) (hb1 : base ≤ w1.heap.size) :
    Mg w1 base (w.heap.size + 1) (mergerCells (.map (some w.heap.size)) (.slice none 0 0) (.slice none 0 0) (.map none)) (.slice none 0 0) (.slice none 0 0) [] [] T := by
  have hm : w1.heap[w.heap.size + 1]? = some (.cells (mergerCells (.map (some w.heap.size)) (.slice none 0 0) (.slice none 0 0) (.map none)) 71 (0, 0)) := by
    rw [hw1.block _ (by omega)]
    have e := heap_alloc_new (w.alloc (.map #[] 0)) (.cells (mergerCells (.map (some w.heap.size)) (.slice none 0 0) (.slice none 0 0) (.map none)) 71)
    simpa using e
  refine ⟨⟨⟨hm, rfl, World.ownsRow_nil _ _ _ _, ?_⟩, ⟨hm, rfl, World.ownsRow_nil _ _ _ _, ?_⟩, ?_, ?_, ?_, ?_, ?_, ?_, hb1, by omega⟩, ?_, ?_⟩
  · intro i t hi; simp at hi
  · intro i t hi; simp at hi
  · intro t ht; simp at ht
  · intro b hb; simp [Value.ownBlock] at hb
  · intro t ht; simp at ht
  · intro t ht; simp at ht
  · intro t ht; simp at ht
  · intro t ht; simp at ht
  · intro i _ hn; simp at hn
  · intro i _ hn; simp at hn

/-- One round: the relation behind the placing. -/
theorem PlRel.step {w : World} {base M i want : Nat} {wr : World} {mc : Array Value} {vp : Value} {P : List Nat} {T : Nat → Tx} (h : PlRel w base M i want wr mc vp P T) (hMw : w.heap.size ≤ M) {W w3 : World} (hWb : Below wr.heap.size wr W)
    {x : Tx} {mc' : Array Value} {vp' : Value} {P' : List Nat} (hmg3 : Mg w3 base M mc' vp' (.slice none 0 0) P' [] (updT T W.heap.size x)) (hperm : P'.Perm (P ++ [W.heap.size])) {o : Obj} (hk3 : Kept (fun b => MX M vp (.slice none 0 0) P [] b ∨ b = W.heap.size) (W.alloc o) w3) :
    PlRel w base M (i + 1) (want + if 0 < x.commits then 1 else 0) w3 mc' vp' P' (updT T W.heap.size x) := by
  obtain ⟨hmg, hlen, hcnt, hbel⟩ := h
  have hs := hWb.size
  have hs2 := hbel.size
  have hMb := hmg.hM
  have nP : W.heap.size ∉ P := fun e => by have := hmg.memP_lt e; omega
  refine ⟨hmg3, ?_, ?_, ?_⟩
  · rw [hperm.length_eq]; simp [hlen]
  · rw [comm_perm hperm]
    unfold comm
    rw [List.filter_append, List.length_append]
    have e1 : (P.filter fun t => decide (0 < (updT T W.heap.size x t).commits)) = P.filter fun t => decide (0 < (T t).commits) := by
      apply List.filter_congr
      intro t ht
      rw [updT_other T x (b := t) (t := W.heap.size) (fun e => nP (e ▸ ht))]
    rw [e1]
    have e2 : (P.filter fun t => decide (0 < (T t).commits)).length = want := hcnt
    rw [e2]
    congr 1
    simp only [List.filter_cons, List.filter_nil, updT_same]
    by_cases hp : 0 < x.commits <;> simp [hp]
  · have b1 : Below w.heap.size w W := hbel.trans (hWb.mono hs2)
    have b2 : Below w.heap.size w (W.alloc o) := b1.alloc (by omega) _
    refine b2.trans (hk3.below b2.size ?_)
    rintro b (e | e)
    · rcases hmg.mx_ge e with e | e <;> omega
    · omega

set_option maxRecDepth 100000 in
set_option maxHeartbeats 2000000 in
theorem committingExact_walk (w : World) (ao : Option Addr) (n cap : Nat) (Z : Nat → Nat → Int) (hr : IsRows qks w ao n cap Z) (hn : n ≤ 4096) :
    Calls Try.prog 5 #[.slice ao n cap] w fun e w' => e = .returned (.bool true) ∧ Below w.heap.size w w' := by
  have hby := hide (bytes24 w ao n cap (by omega))
  have hnm := hide (newMerger_any w)
  have Hr := hide hr
  clear hr
  have h4 : ¬ (4096 : Int) < (n : Int) := by omega
  go_enter Try.func5, Try.ntmps5
  go_wp2_with fail
  refine (unhide hby).mono ?_
  rintro e w ⟨rfl, rfl⟩
  go_wp2_with fail
  refine (unhide hnm).mono ?_
  rintro e w1 ⟨rfl, hw1⟩
  have hsz : w1.heap.size = w.heap.size + 2 := by rw [hw1]; simp
  have hmg : Mg w1 (w.heap.size + 2) (w.heap.size + 1) (mergerCells (.map (some w.heap.size)) (.slice none 0 0) (.slice none 0 0) (.map none)) (.slice none 0 0) (.slice none 0 0) [] [] (fun _ => newTx 0 0 0 0 0 0 (.slice none 0 0)) :=
    mg_init w _ _ (Nat.le_refl _) (by rw [hw1]; exact Below.refl _ _) (by omega)
  have hbel : Below w.heap.size w w1 := by rw [hw1]; exact ((Below.refl _ _).alloc (Nat.le_refl _) _).alloc (by simp) _
  have H0 : Hid (PlRel w (w.heap.size + 2) (w.heap.size + 1) 0 0 w1 _ _ [] _) := hide ⟨hmg, rfl, rfl, hbel⟩
  clear hmg hbel hnm hby hw1
  go_wp2_with fail
  go_loopw [4, 5] (fun wv it wr => ∃ (i want : Nat) (mc : Array Value) (vp : Value) (P : List Nat) (T : Nat → Tx), it = .int .i64 i ∧ wv = .int .i64 want ∧ i ≤ n ∧ want ≤ i ∧ PlRel w (w.heap.size + 2) (w.heap.size + 1) i want wr mc vp P T) (fun _ it _ => n - (intOf it).toNat)
  case atStart => exact ⟨0, 0, _, _, _, _, rfl, rfl, Nat.zero_le _, Nat.le_refl _, unhide H0⟩
  case round =>
    obtain ⟨i, want, mc, vp, P, T, rfl, rfl, hle, hwi, hrel⟩ := hrel
    have Hrel := hide hrel
    clear hrel H0
    by_cases hlt : i < n
    · have hlt' : (i : Int) < (n : Int) := by omega
      obtain ⟨b, off, rfl, c0, c1, c2, c3, c4⟩ := (unhide Hr).q5 (unhide Hrel).bel hlt
      go_wp2_with fail
      generalize hW : wr.alloc _ = W
      have hWb : Below wr.heap.size wr W := by rw [← hW]; exact (Below.refl _ _).alloc (Nat.le_refl _) _
      have hWs : W.heap.size = wr.heap.size + 1 := by rw [← hW]; simp
      have hWc : W.cell? ⟨wr.heap.size, 4, none⟩ = some (.int .i64 (Z i 4)) := by
        rw [← hW]; unfold World.cell?; rw [heap_alloc_new]; rfl
      obtain ⟨hmg, hlen, hcnt, hbel⟩ := unhide Hrel
      have hmgW := hmg.below hWb
      have hpl := hide (placeFresh W _ _ _ _ _ _ _ _ (newTx (Z i 0) (Z i 1) (Z i 2) (Z i 3) (Z i 4) 0 (.slice none 0 0)) hmgW rfl rfl (by omega))
      have nP : W.heap.size ∉ P := fun e => by have := hmgW.memP_lt e; omega
      have nMX : ¬ (MX (w.heap.size + 1) vp (.slice none 0 0) P [] wr.heap.size ∨ wr.heap.size = W.heap.size) := by
        rintro (e | e)
        · have := hmg.mx_lt e; omega
        · omega
      have HnP := hide nP
      have HnMX := hide nMX
      have HWb := hide hWb
      have HWs := hide hWs
      have HWc := hide hWc
      have Hlen := hide hlen
      have Hcnt := hide hcnt
      have Hbel := hide hbel
      have Hmg := hide hmgW
      clear hW hWb hWs hWc hmg hlen hcnt hbel hmgW nP nMX c0 c1 c2 c3 c4
      refine (newTxn_any W (Z i 0) (Z i 1) (Z i 2) (Z i 3) (Z i 4) 0 none 0 0).mono ?_
      rintro e w2 ⟨rfl, rfl⟩
      go_wp2_with fail
      refine (unhide hpl).mono ?_
      rintro e w3 ⟨rfl, mc', vp', P', hmg3, hperm, hk3, hv3⟩
      have hc3 : w3.cell? ⟨wr.heap.size, 4, none⟩ = some (.int .i64 (Z i 4)) := by
        have hs := unhide HWs
        rw [World.cell?_of_block (hk3.block wr.heap.size (by simp; omega) (unhide HnMX)), World.cell?_of_block (Below.heap_alloc W _ wr.heap.size (by omega))]
        exact unhide HWc
      have Hst := hide ((unhide Hrel).step (by omega) (unhide HWb) hmg3 hperm hk3)
      clear hmg3 hperm hk3 hv3 hpl
      have hZ : (({ newTx (Z i 0) (Z i 1) (Z i 2) (Z i 3) (Z i 4) 0 (.slice none 0 0) with queued := true } : Tx)).commits = Z i 4 := rfl
      rw [hZ] at Hst
      clear hZ
      by_cases hpos : 0 < Z i 4
      · rw [if_pos hpos] at Hst
        go_wp2_with fail
        go_roundw
        case rel => exact ⟨i + 1, want + 1, _, _, _, _, by go_num, by go_num, by omega, by omega, unhide Hst⟩
        case measure => simp [intOf]; omega
      · rw [if_neg hpos] at Hst
        go_wp2_with fail
        go_roundw
        case rel => exact ⟨i + 1, want, _, _, _, _, by go_num, rfl, by omega, by omega, unhide Hst⟩
        case measure => simp [intOf]; omega
    · have hlt' : ¬ (i : Int) < (n : Int) := by omega
      have hin : i = n := by omega
      obtain ⟨hmg, hlen, hcnt, hbel⟩ := unhide Hrel
      have hcell := hmg.p.cell
      have hpl := hide (placed_any wr _ _ hcell)
      obtain ⟨avp, capv, hvp⟩ := hmg.p.shape
      have Hmg := hide hmg
      have Hcnt := hide hcnt
      have Hbel := hide hbel
      subst hvp
      have hlen' : P.length = n := by omega
      have Hlen := hide hlen'
      clear hmg hcnt hbel hcell hlen hin
      go_wp2_with fail
      refine (unhide hpl).mono ?_
      rintro e wr ⟨rfl, rfl⟩
      rw [unhide Hlen]
      have hcm := hide (zzcommitting_any wr _ _ _ _ _ _ (unhide Hmg).p (by have := unhide Hlen; omega) w.heap.size (unhide Hbel).size)
      rw [unhide Hcnt] at hcm
      go_wp2_with fail
      refine (unhide hcm).mono ?_
      rintro e w5 ⟨ag, capg, rfl, hown5, hb5⟩
      rw [← unhide Hcnt] at hown5
      have hlo := hide (listOK_any w5 _ _ _ _ _ _ ((unhide Hmg).p.below hb5) (unhide Hmg).fp (by have := unhide Hlen; omega) _ _ hown5)
      rw [unhide Hcnt, unhide Hlen] at hlo
      have Hb5 := hide hb5
      clear hown5 hb5 hcm hpl
      go_wp2_with fail
      refine (unhide hlo).mono ?_
      rintro e w6 ⟨rfl, m, rfl⟩
      go_wp2_with fail
      go_ret
      refine ⟨rfl, ?_⟩
      have hb := unhide Hbel
      exact (hb.trans ((unhide Hb5).mono hb.size)).trans (below_drewN _ _ _)

end Go.Proofs.Qxb6604710a
