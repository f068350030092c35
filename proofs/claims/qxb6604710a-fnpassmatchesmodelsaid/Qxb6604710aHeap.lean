namespace Go.Proofs.Qxb6604710a

/-- The parent's place. -/
def par (i : Nat) : Nat := (i - 1) / 2

/-- A strict order of ids, as 'less' gives it: asymmetric, and its complement transitive. -/
structure Ord (L : Nat → Nat → Bool) : Prop where
  asym : ∀ a b, L a b = true → L b a = false
  trans : ∀ a b c, L b a = false → L c b = false → L c a = false

def HeapOK (L : Nat → Nat → Bool) (n : Nat) (f : Nat → Nat) : Prop := ∀ i, 0 < i → i < n → L (f i) (f (par i)) = false
def UpInv (L : Nat → Nat → Bool) (n : Nat) (f : Nat → Nat) (j : Nat) : Prop :=
  (∀ i, 0 < i → i < n → i ≠ j → L (f i) (f (par i)) = false) ∧ (∀ i, 0 < i → i < n → par i = j → 0 < j → L (f i) (f (par j)) = false)
def Hole (L : Nat → Nat → Bool) (n : Nat) (f : Nat → Nat) (i : Nat) : Prop :=
  (∀ k, 0 < k → k < n → k ≠ i → par k ≠ i → L (f k) (f (par k)) = false) ∧ (∀ k, 0 < k → k < n → par k = i → 0 < i → L (f k) (f (par i)) = false)
def DownInv (L : Nat → Nat → Bool) (n : Nat) (f : Nat → Nat) (i : Nat) : Prop :=
  (∀ k, 0 < k → k < n → par k ≠ i → L (f k) (f (par k)) = false) ∧ (∀ k, 0 < k → k < n → par k = i → 0 < i → L (f k) (f (par i)) = false)

def swapF (f : Nat → Nat) (i j k : Nat) : Nat := if k = i then f j else if k = j then f i else f k

theorem par_lt {i : Nat} (h : 0 < i) : par i < i := by unfold par; omega
theorem par_of_left (i : Nat) : par (2 * i + 1) = i := by unfold par; omega
theorem par_of_right (i : Nat) : par (2 * i + 2) = i := by unfold par; omega
theorem of_par {k i : Nat} (hk : 0 < k) (h : par k = i) : k = 2 * i + 1 ∨ k = 2 * i + 2 := by unfold par at h; omega

theorem DownInv.hole {L : Nat → Nat → Bool} {n : Nat} {f : Nat → Nat} {i : Nat} (h : DownInv L n f i) : Hole L n f i :=
  ⟨fun k h0 hn _ hp => h.1 k h0 hn hp, h.2⟩

theorem swapF_left (f : Nat → Nat) (i j : Nat) : swapF f i j i = f j := by simp [swapF]
theorem swapF_right (f : Nat → Nat) (i j : Nat) : swapF f i j j = f i := by unfold swapF; split <;> simp_all
theorem swapF_other (f : Nat → Nat) {i j k : Nat} (h1 : k ≠ i) (h2 : k ≠ j) : swapF f i j k = f k := by simp [swapF, h1, h2]

theorem down_step {L : Nat → Nat → Bool} (O : Ord L) {n : Nat} {f : Nat → Nat} {i j : Nat} (h : Hole L n f i) (hj : 0 < j) (hjn : j < n) (hp : par j = i)
    (hl : L (f j) (f i) = true) (hs : ∀ k, 0 < k → k < n → par k = i → L (f k) (f j) = false) : DownInv L n (swapF f i j) j := by
  have hij : i < j := by have := par_lt hj; omega
  refine ⟨fun k h0 hn hpj => ?_, fun k h0 hn hpj _ => ?_⟩
  · by_cases e1 : k = j
    · subst e1
      rw [hp, swapF_right, swapF_left]
      exact O.asym _ _ hl
    · by_cases e2 : k = i
      · subst e2
        have hpk := par_lt h0
        rw [swapF_left, swapF_other f (by omega) (by omega)]
        exact h.2 j hj hjn hp h0
      · rw [swapF_other f e2 e1]
        by_cases e3 : par k = i
        · rw [e3, swapF_left]
          exact hs k h0 hn e3
        · rw [swapF_other f e3 hpj]
          exact h.1 k h0 hn e2 e3
  · have hkj := par_lt h0
    rw [swapF_other f (by omega) (by omega), hp, swapF_left]
    have := h.1 k h0 hn (by omega) (by omega)
    rw [hpj] at this
    exact this

theorem down_stop {L : Nat → Nat → Bool} {n : Nat} {f : Nat → Nat} {i : Nat} (h : DownInv L n f i)
    (hs : ∀ k, 0 < k → k < n → par k = i → L (f k) (f i) = false) : HeapOK L n f := by
  intro k h0 hn
  by_cases e : par k = i
  · rw [e]; exact hs k h0 hn e
  · exact h.1 k h0 hn e

theorem hole_stop {L : Nat → Nat → Bool} {n : Nat} {f : Nat → Nat} {i : Nat} (h : Hole L n f i)
    (hs : ∀ k, 0 < k → k < n → par k = i → L (f k) (f i) = false) : UpInv L n f i := by
  refine ⟨fun k h0 hn hk => ?_, fun k h0 hn hp hi => h.2 k h0 hn hp hi⟩
  by_cases e : par k = i
  · rw [e]; exact hs k h0 hn e
  · exact h.1 k h0 hn hk e

theorem up_step {L : Nat → Nat → Bool} (O : Ord L) {n : Nat} {f : Nat → Nat} {j : Nat} (h : UpInv L n f j) (hj : 0 < j)
    (hl : L (f j) (f (par j)) = true) (hjn : j < n) : UpInv L n (swapF f (par j) j) (par j) := by
  have hpj := par_lt hj
  generalize hp : par j = p at *
  have hpl := O.asym _ _ hl
  refine ⟨fun k h0 hn hkp => ?_, fun k h0 hn hpk hp0 => ?_⟩
  · by_cases e1 : k = j
    · subst e1
      rw [hp, swapF_right, swapF_left]
      exact hpl
    · rw [swapF_other f hkp e1]
      by_cases e2 : par k = p
      · rw [e2, swapF_left]
        have := h.1 k h0 hn e1
        rw [e2] at this
        exact O.trans _ _ _ hpl this
      · by_cases e3 : par k = j
        · rw [e3, swapF_right]
          have := h.2 k h0 hn e3 hj
          rw [hp] at this
          exact this
        · rw [swapF_other f e2 e3]
          exact h.1 k h0 hn e1
  · have hpp := par_lt hp0
    have h1 := h.1 p hp0 (by omega) (by omega)
    rw [swapF_other f (i := p) (j := j) (k := par p) (by omega) (by omega)]
    by_cases e1 : k = j
    · subst e1
      rw [swapF_right]
      exact h1
    · have hk := par_lt h0
      rw [swapF_other f (by omega) e1]
      have := h.1 k h0 hn e1
      rw [hpk] at this
      exact O.trans _ _ _ h1 this

theorem up_stop0 {L : Nat → Nat → Bool} {n : Nat} {f : Nat → Nat} (h : UpInv L n f 0) : HeapOK L n f :=
  fun i h0 hn => h.1 i h0 hn (by omega)
theorem up_stop {L : Nat → Nat → Bool} {n : Nat} {f : Nat → Nat} {j : Nat} (h : UpInv L n f j) (hl : L (f j) (f (par j)) = false) : HeapOK L n f := by
  intro i h0 hn
  by_cases e : i = j
  · subst e; exact hl
  · exact h.1 i h0 hn e

/-- Behind an append at place n. -/
theorem up_push {L : Nat → Nat → Bool} {n : Nat} {f g : Nat → Nat} (h : HeapOK L n f) (hg : ∀ i, i < n → g i = f i) : UpInv L (n + 1) g n := by
  refine ⟨fun i h0 hn hi => ?_, fun i h0 hn hp _ => ?_⟩
  · have := par_lt h0
    rw [hg i (by omega), hg (par i) (by omega)]
    exact h i h0 (by omega)
  · have := par_lt h0
    omega

/-- The key of what stands at place i has turned. -/
theorem hole_turned {L L' : Nat → Nat → Bool} (O : Ord L) {n : Nat} {f : Nat → Nat} {i : Nat} (h : HeapOK L n f)
    (ha : ∀ a b, a ≠ i → b ≠ i → L' (f a) (f b) = L (f a) (f b)) (hin : i < n) : Hole L' n f i := by
  refine ⟨fun k h0 hn hk hp => ?_, fun k h0 hn hp hi => ?_⟩
  · rw [ha _ _ hk hp]; exact h k h0 hn
  · have h1 := par_lt h0
    have h2 := par_lt hi
    rw [ha _ _ (by omega) (by omega)]
    have h3 := h k h0 hn
    rw [hp] at h3
    exact O.trans _ _ _ (h i hi hin) h3

/-- The last has come into the place i, and the place n is out. -/
theorem hole_removed {L L' : Nat → Nat → Bool} (O : Ord L) {n : Nat} {f g : Nat → Nat} {i : Nat} (h : HeapOK L (n + 1) f)
    (ha : ∀ a b, a ≠ i → b ≠ i → L' (f a) (f b) = L (f a) (f b)) (hg : ∀ k, k ≠ i → k < n → g k = f k) (hin : i < n) : Hole L' n g i := by
  refine ⟨fun k h0 hn hk hp => ?_, fun k h0 hn hp hi => ?_⟩
  · have h1 := par_lt h0
    rw [hg k hk hn, hg (par k) hp (by omega), ha _ _ hk hp]
    exact h k h0 (by omega)
  · have h1 := par_lt h0
    have h2 := par_lt hi
    rw [hg k (by omega) hn, hg (par i) (by omega) (by omega), ha _ _ (by omega) (by omega)]
    have h3 := h k h0 (by omega)
    rw [hp] at h3
    exact O.trans _ _ _ (h i hi (by omega)) h3

/-- Two places of a list exchanged. -/
def sw (l : List Nat) (i j : Nat) : List Nat := (l.set i (l.getD j 0)).set j (l.getD i 0)

theorem sw_length (l : List Nat) (i j : Nat) : (sw l i j).length = l.length := by simp [sw]

theorem sw_getD (l : List Nat) {i j : Nat} (hi : i < l.length) (hj : j < l.length) (k : Nat) : (sw l i j).getD k 0 = swapF (fun k => l.getD k 0) i j k := by
  unfold sw swapF
  simp only [List.getD_eq_getElem?_getD, List.getElem?_set]
  by_cases e1 : k = i
  · subst e1
    by_cases e2 : j = k
    · subst e2; simp [hi]
    · simp [e2, hi]
  · by_cases e2 : k = j
    · subst e2; simp [e1, hj]
    · simp [e1, e2, Ne.symm e1, Ne.symm e2]

theorem sw_getElem? (l : List Nat) {i j : Nat} (hi : i < l.length) (hj : j < l.length) (k : Nat) : (sw l i j)[k]? = if k = i then l[j]? else if k = j then l[i]? else l[k]? := by
  unfold sw
  simp only [List.getD_eq_getElem?_getD, List.getElem?_set]
  by_cases e1 : k = i
  · subst e1
    by_cases e2 : j = k
    · subst e2; simp [hi]
    · simp [e2, hi, hj]
  · by_cases e2 : k = j
    · subst e2; simp [e1, hj, hi]
    · simp [e1, e2, Ne.symm e1, Ne.symm e2]

theorem sw_perm (l : List Nat) {i j : Nat} (hi : i < l.length) (hj : j < l.length) : (sw l i j).Perm l := by
  have h := Array.swap_perm (xs := l.toArray) (i := i) (j := j) (by simpa using hi) (by simpa using hj)
  have h' := h.toList
  have e : (l.toArray.swap i j (by simpa using hi) (by simpa using hj)).toList = sw l i j := by
    simp [sw, Array.swap, List.getD_eq_getElem?_getD, hi, hj]
  rw [e] at h'
  simpa using h'

end Go.Proofs.Qxb6604710a
