import Derived.Test.Qxb6604710aP8
import Derived.Deep.DeepCutAuto
namespace Go.Proofs.Qxb6604710a
open Go.RowKit Go.Maps

/-- The value that 'keep' entries of M have at or above it, in rising order. -/
def CutAt (keep : Nat) (M : List Ent) (s : Int) : Prop :=
  ∃ d : Array Int, d.toList.Perm (M.map Prod.snd) ∧ (∀ i j, i < j → j < d.size → d[i]! ≤ d[j]!) ∧ s = d[d.size - keep]!

/-- What one record does to a site's records. -/
def StepL (keep : Nat) (k : Int × Int) (v : Int) (L : List Ent) (s : Int) (L' : List Ent) (s' : Int) : Prop :=
  ((putL k v L).length ≤ 2 * keep ∧ L' = putL k v L ∧ s' = s) ∨
  (2 * keep < (putL k v L).length ∧ CutAt keep (putL k v L) s' ∧ L' = (putL k v L).filter fun p => decide (s' ≤ p.2))

/-- The contract of 'trim'. -/
def TrimSaid : Prop := ∀ (w : World) (pb mb n : Nat) (s0 : Int) (D : DataW Unit) (L : List Ent) (keep : Nat), PR w pb mb s0 n D L → 0 < keep → keep ≤ L.length → 2 ≤ L.length → L.length ≤ 100000 →
    Calls Try.prog 48 #[.pointer (some ⟨pb, 0, none⟩), .int .i64 keep] w fun e w' => e = .returned (.tuple #[]) ∧
      ∃ (s : Int) (D' : DataW Unit), CutAt keep L s ∧ PR w' pb mb s n D' (L.filter fun p => decide (s ≤ p.2)) ∧ Kept (fun b => b = pb ∨ b = mb) w w'

def oldL (S : List Int) (st : Int → Sit) (z : Int) : List Ent := if z ∈ S then (st z).L else []
def oldS (S : List Int) (st : Int → Sit) (z : Int) : Int := if z ∈ S then (st z).since else 0

structure PassPost (w : World) (base mp tb qb inf t : Nat) (S : List Int) (st : Int → Sit) (z : Int) (k : Int × Int) (v : Int) (w' : World) (S' : List Int) (x : Sit) : Prop where
  pm : PM w' base mp tb qb inf (t + 2) S' (updS st z x)
  set : (z ∈ S ∧ S' = S) ∨ (z ∉ S ∧ S' = z :: S)
  step : StepL (inf + 64) k v (oldL S st z) (oldS S st z) x.L x.since
  kept : Kept (turns qb S st) w w'
  new : (z ∈ S ∧ x.pb = (st z).pb ∧ x.mb = (st z).mb) ∨ (w.heap.size ≤ x.pb ∧ w.heap.size ≤ x.mb)

theorem updS_updS (st : Int → Sit) (z : Int) (x y : Sit) : updS (updS st z x) z y = updS st z y := by
  funext a
  by_cases e : a = z
  · simp [updS, e]
  · simp [updS, e]

theorem Kept.trans' {X Y : Nat → Prop} {a b c : World} (h : Kept X a b) (k : Kept Y b c) (hxy : ∀ i, i < a.heap.size → Y i → X i) : Kept X a c :=
  ⟨k.os.trans h.os, k.tape.trans h.tape, k.output.trans h.output, Nat.le_trans h.size k.size, fun i hi hx => (k.block i (Nat.lt_of_lt_of_le hi h.size) (fun e => hx (hxy i hi e))).trans (h.block i hi hx)⟩

/-- The site's records are there, the record not yet noted. -/
structure Mid (w : World) (base mp tb qb inf t : Nat) (S : List Int) (st : Int → Sit) (z : Int) (w1 : World) (S' : List Int) (x : Sit) : Prop where
  pm : PM w1 base mp tb qb inf (t + 1) S' (updS st z x)
  mem : z ∈ S'
  set : (z ∈ S ∧ S' = S) ∨ (z ∉ S ∧ S' = z :: S)
  L : x.L = oldL S st z
  since : x.since = oldS S st z
  kept : Kept (turns qb S st) w w1
  new : (z ∈ S ∧ x.pb = (st z).pb ∧ x.mb = (st z).mb) ∨ (w.heap.size ≤ x.pb ∧ w.heap.size ≤ x.mb)

theorem eql69_some (b : Nat) (w : World) : (binOp .eql 69 (.map (some b)) (.map none)).run Try.prog w = .ok (.bool false) w := by kernel_rfl
theorem eql84_some (a : Addr) (w : World) : (binOp .eql 84 (.pointer (some a)) (.pointer none)).run Try.prog w = .ok (.bool false) w := by kernel_rfl
theorem eql84_none (w : World) : (binOp .eql 84 (.pointer none) (.pointer none)).run Try.prog w = .ok (.bool true) w := by kernel_rfl
theorem run_makeMapP (t : TypeId) (w : World) : (Instr.makeMap t none).run Try.prog w = .ok (.map (some w.heap.size)) (w.alloc (.map #[] 0)) := rfl
theorem guard84_some (a : Addr) (w : World) : (eqGuard .eql 84 (.tmp 21) (.const (.pointer none)) (.pointer (some a)) (.pointer none)).run Try.prog w = .ok () w := by kernel_rfl
theorem guard84_none (w : World) : (eqGuard .eql 84 (.tmp 21) (.const (.pointer none)) (.pointer none) (.pointer none)).run Try.prog w = .ok () w := by kernel_rfl
attribute [local go_sem] eql69_some eql84_some eql84_none run_makeMapP

set_option maxRecDepth 100000 in
set_option maxHeartbeats 2000000 in
theorem pass_any (trim : TrimSaid) (w : World) (base mp tb qb inf t : Nat) (S : List Int) (st : Int → Sit) (z ts tn v : Int) (h : PM w base mp tb qb inf t S st) (hz : (Lit.int .i64 z).wf = true) (h1 : (Lit.int .i64 ts).wf = true)
    (h2 : (Lit.int .u64 tn).wf = true) (h3 : (Lit.int .u64 v).wf = true) (ht : t ≤ 90000) (hi : inf ≤ 1024) (hb : base ≤ w.heap.size) :
    Calls Try.prog 43 #[.pointer (some ⟨mp, 0, none⟩), .int .i64 z, .agg #[.int .i64 ts, .int .u64 tn], .int .u64 v] w fun e w' => e = .returned (.tuple #[]) ∧
      ∃ S' x, PassPost w base mp tb qb inf t S st z (ts, tn) v w' S' x := by
  have H := hide h
  clear h
  go_enter Try.func43, Try.ntmps43
  go_upto_region 1 with fail
  generalize hW : w.alloc _ = W
  have hpW : PM W base mp tb qb inf t S st := by rw [← hW]; exact (unhide H).alloc _
  have hkW : Kept (turns qb S st) w W := by rw [← hW]; exact (Kept.refl _ w).alloc _
  have hcW : W.heap[w.heap.size]? = some (.cells #[.int .i64 ts, .int .u64 tn] 73 (0, 0)) := by rw [← hW]; exact heap_alloc_new w _
  have hsW : W.heap.size = w.heap.size + 1 := by rw [← hW]; simp
  clear hW
  have c6 := hpW.c6
  have HpW := hide hpW
  have HkW := hide hkW
  have HcW := hide hcW
  have HsW := hide hsW
  clear hpW hkW hcW hsW
  obtain ⟨p, hlk, hp⟩ : ∃ p, (Instr.lookup 69 (.map (some qb)) (.int .i64 z) false).run Try.prog W = .ok p W ∧ ((z ∈ S ∧ p = .pointer (some ⟨(st z).pb, 0, none⟩)) ∨ (z ∉ S ∧ p = .pointer none)) := by
    by_cases hzS : z ∈ S
    · exact ⟨_, (unhide HpW).look hzS, Or.inl ⟨hzS, rfl⟩⟩
    · exact ⟨_, (unhide HpW).look_none hzS hz, Or.inr ⟨hzS, rfl⟩⟩
  obtain ⟨bz, hbz, hgz, hb2⟩ : ∃ bz, (binOp .eql 84 p (.pointer none)).run Try.prog W = .ok (.bool bz) W ∧ (eqGuard .eql 84 (.tmp 21) (.const (.pointer none)) p (.pointer none)).run Try.prog W = .ok () W ∧ ((z ∈ S ∧ bz = false) ∨ (z ∉ S ∧ bz = true)) := by
    rcases hp with ⟨hzS, rfl⟩ | ⟨hzS, rfl⟩
    · exact ⟨false, eql84_some _ W, guard84_some _ W, Or.inl ⟨hzS, rfl⟩⟩
    · exact ⟨true, eql84_none W, guard84_none W, Or.inr ⟨hzS, rfl⟩⟩
  go_upto_if 22 with fail
  go_cut [8] from 22 to 31 (fun s8 w1 => ∃ S' x, s8 = .pointer (some ⟨x.pb, 0, none⟩) ∧ Mid w base mp tb qb inf t S st z w1 S' x ∧ w1.heap[w.heap.size]? = some (.cells #[.int .i64 ts, .int .u64 tn] 73 (0, 0)))
  case first =>
    rcases hb2 with ⟨hzS, rfl⟩ | ⟨hzS, rfl⟩
    · have hp' : p = .pointer (some ⟨(st z).pb, 0, none⟩) := by
        rcases hp with ⟨_, e⟩ | ⟨e, _⟩
        · exact e
        · exact absurd hzS e
      go_wp2_with fail
      go_meet
      case rel =>
        have hu : updS st z (st z) = st := by
          funext y
          by_cases e : y = z
          · rw [e, updS_same]
          · rw [updS_other e]
        exact ⟨S, st z, hp', ⟨by rw [hu]; exact (unhide HpW).up (Nat.le_succ t), hzS, Or.inl ⟨hzS, rfl⟩, by simp [oldL, hzS], by simp [oldS, hzS], unhide HkW, Or.inl ⟨hzS, rfl, rfl⟩⟩, unhide HcW⟩
    · obtain ⟨w2, hrun, hp2, hk2, hs2⟩ := (unhide HpW).fresh hzS hz (by omega) (by have := unhide HsW; omega)
      have Hp2 := hide hp2
      have Hk2 := hide hk2
      have hc6 := (((unhide HpW).alloc (.map #[] 0)).alloc (.cells #[.map (some W.heap.size), .int .u64 0] 87)).c6
      clear hp2 hk2
      go_wp2_with fail
      go_meet
      case rel =>
        refine ⟨z :: S, _, ?_, ⟨unhide Hp2, List.mem_cons_self .., Or.inr ⟨hzS, rfl⟩, by simp [oldL, hzS], by simp [oldS, hzS], (unhide HkW).trans ((unhide Hk2).mono fun k _ e => Or.inl e), Or.inr ?_⟩, ?_⟩
        · simp
        · have := unhide HsW
          constructor
          · show _ ≤ W.heap.size + 1
            omega
          · show _ ≤ W.heap.size
            omega
        · have hq := (unhide HpW).lts.2.2.1
          have hq0 := (unhide H).lts.2.2.1
          rw [(unhide Hk2).block w.heap.size (by have := unhide HsW; omega) (by omega)]
          exact unhide HcW
  case rest =>
    obtain ⟨S', x, rfl, hm, hcb⟩ := hcut
    clear hp hbz hgz hb2 hlk c6 HpW HkW HcW HsW
    have hL := hm.L
    have hsn := hm.since
    have Hm := hide hm
    have cB0 : wc.cell? ⟨w.heap.size, 0, none⟩ = some (.int .i64 ts) := by unfold World.cell?; rw [hcb]; rfl
    have cB1 : wc.cell? ⟨w.heap.size, 1, none⟩ = some (.int .u64 tn) := by unfold World.cell?; rw [hcb]; rfl
    have hr := (hm.pm.each z hm.mem).1
    rw [updS_same] at hr
    have cP : wc.cell? ⟨x.pb, 0, none⟩ = some (.map (some x.mb)) := by unfold World.cell?; rw [hr.blk]; rfl
    obtain ⟨f, hf, hf2⟩ := hm.pm.put (ts := ts) (tn := tn) (v := v) hm.mem h1 h2 h3 (by omega)
    rw [updS_same] at hf
    simp only [updS_same] at hf2
    have hf1 : (Instr.mapUpdate 85 (.map (some x.mb)) (.agg #[.int .i64 ts, .int .u64 tn]) (.int .u64 v)).run Try.prog wc.drew = .ok () (f 1) := hf 1
    have hp2 := (hf2 1).1
    have hk2 := (hf2 1).2
    generalize f 1 = w3 at *
    have Hp2 := hide hp2
    have Hk2 := hide hk2
    clear hp2 hk2 hf hf2 hr hm hcb
    go_upto_region 6 with fail
    go_region
    have hpm := unhide Hp2
    rw [updS_updS] at hpm
    have hr3 := (hpm.each z (unhide Hm).mem).1
    have hn3 := (hpm.each z (unhide Hm).mem).2
    rw [updS_same] at hr3 hn3
    have c03 := hpm.c0
    obtain ⟨nt, DT, ht1, ht2⟩ := hpm.txns
    have hlt := fun ty => ht1.len Try.underlying65 ty
    rw [ht2] at hlt
    have cP3 : w3.cell? ⟨x.pb, 0, none⟩ = some (.map (some x.mb)) := by unfold World.cell?; rw [hr3.blk]; rfl
    have hll := fun ty => hr3.own.len Try.underlying85 ty
    rw [hr3.rep.size] at hll
    have hsz := hr3.own.size_le
    rw [hr3.rep.size] at hsz
    have hk3 : Kept (turns qb S st) w w3 := by
      refine (unhide Hm).kept.trans' (unhide Hk2) fun k hk e => ?_
      subst e
      rcases (unhide Hm).new with ⟨hzS, _, e2⟩ | ⟨_, e2⟩
      · rw [e2]; exact Or.inr ⟨z, hzS, Or.inr rfl⟩
      · omega
    rw [hL] at hr3 hll hsz
    have Hpm := hide hpm
    have Hr3 := hide hr3
    have Hk3 := hide hk3
    have hn : x.n + 1 ≤ 90002 := by
      have : x.n + 1 ≤ t + 1 + 1 := hn3
      omega
    have hm4 : (putL (ts, tn) v (oldL S st z)).length ≤ 90002 := Nat.le_trans hsz hn
    generalize hM : putL (ts, tn) v (oldL S st z) = M at *
    have HM := hide hM
    clear hpm hr3 hn3 ht1 ht2 hk3 hsz hf1 Hp2 Hk2 cB0 cB1 cP hM
    have hll2 : ∀ ty, (Builtin.len_ #[85] ty #[.map (some x.mb)]).run Try.prog w3 = .ok (.int .i64 (M.length : Int)) w3 := hll
    clear hll
    have hk2 : wrap64 (2 * ((inf : Int) + 64)) = 2 * ((inf : Int) + 64) := by unfold wrap64; omega
    go_upto_region 8 with fail
    by_cases hbig : 2 * (inf + 64) < M.length
    · have hbg : 2 * ((inf : Int) + 64) < (M.length : Int) := by omega
      have htr := trim w3 x.pb x.mb (x.n + 1) x.since _ M (inf + 64) (unhide Hr3) (by omega) (by omega) (by omega) (by omega)
      have hcast : ((inf + 64 : Nat) : Int) = (inf : Int) + 64 := by omega
      rw [hcast] at htr
      have Htr := hide htr
      clear htr
      go_wp2_with fail
      go_at_call 48
      refine (unhide Htr).mono ?_
      rintro e w4 ⟨rfl, s, D', hcut, hr4, hk4⟩
      have Hcut := hide hcut
      have Hr4 := hide hr4
      have Hk4 := hide hk4
      clear hcut hr4 hk4 Htr hlt hll2
      go_wp2_with fail
      go_end0
      refine ⟨rfl, S', ⟨x.pb, x.mb, x.n + 1, D', s, M.filter fun p => decide (s ≤ p.2)⟩, ?_, (unhide Hm).set, ?_, ?_, (unhide Hm).new⟩
      · have := (unhide Hpm).renew (unhide Hm).mem (x := ⟨x.pb, x.mb, x.n + 1, D', s, M.filter fun p => decide (s ≤ p.2)⟩) (Nat.le_refl _) (by rw [updS_same]) (by rw [updS_same]) (unhide Hr4) ?_ ?_
        · rw [updS_updS] at this
          exact this
        · have := ((unhide Hpm).each z (unhide Hm).mem).2
          rw [updS_same] at this
          exact this
        · rw [updS_same]
          exact unhide Hk4
      · exact Or.inr ⟨by rw [unhide HM]; exact hbig, by rw [unhide HM]; exact unhide Hcut, by rw [unhide HM]⟩
      · refine (unhide Hk3).trans' (unhide Hk4) fun k hk e => ?_
        rcases (unhide Hm).new with ⟨hzS, e1, e2⟩ | ⟨e1, e2⟩
        · rcases e with rfl | rfl
          · exact Or.inr ⟨z, hzS, Or.inl e1⟩
          · exact Or.inr ⟨z, hzS, Or.inr e2⟩
        · rcases e with rfl | rfl <;> omega
    · have hbg : ¬ 2 * ((inf : Int) + 64) < (M.length : Int) := by omega
      go_wp2_with fail
      go_end0
      refine ⟨rfl, S', ⟨x.pb, x.mb, x.n + 1, _, x.since, putL (ts, tn) v x.L⟩, unhide Hpm, (unhide Hm).set, ?_, unhide Hk3, (unhide Hm).new⟩
      exact Or.inl ⟨by rw [unhide HM]; omega, by show putL (ts, tn) v x.L = _; rw [hL], hsn⟩

end Go.Proofs.Qxb6604710a
