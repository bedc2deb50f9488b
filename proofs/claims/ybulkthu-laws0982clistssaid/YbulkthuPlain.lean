/-
  THE PLAIN PART: counting keys; where a stable counting sort places each entry. No Go in sight.
-/
namespace Go.Proofs.Ybulkthu

/-- How many of the first k keys are q. -/
def eqc (f : Nat → Nat) (q : Nat) : Nat → Nat
  | 0 => 0
  | k + 1 => eqc f q k + if f k = q then 1 else 0
/-- How many of the first k keys are below q. -/
def ltc (f : Nat → Nat) (q : Nat) : Nat → Nat
  | 0 => 0
  | k + 1 => ltc f q k + if f k < q then 1 else 0

theorem eqc_hit (f : Nat → Nat) (k : Nat) : eqc f (f k) (k + 1) = eqc f (f k) k + 1 := by rw [eqc, if_pos rfl]
theorem eqc_miss (f : Nat → Nat) (q k : Nat) (h : f k ≠ q) : eqc f q (k + 1) = eqc f q k := by rw [eqc, if_neg h]; rfl
theorem eqc_at (f : Nat → Nat) (q k : Nat) (h : f k = q) : eqc f q (k + 1) = eqc f q k + 1 := by rw [eqc, if_pos h]
theorem eqc_le (f : Nat → Nat) (q : Nat) : ∀ k, eqc f q k ≤ k
  | 0 => Nat.le_refl _
  | k + 1 => by have := eqc_le f q k; rw [eqc]; split <;> omega
theorem ltc_le (f : Nat → Nat) (q : Nat) : ∀ k, ltc f q k ≤ k
  | 0 => Nat.le_refl _
  | k + 1 => by have := ltc_le f q k; rw [ltc]; split <;> omega
theorem ltc_zero (f : Nat → Nat) : ∀ k, ltc f 0 k = 0
  | 0 => rfl
  | k + 1 => by rw [ltc, ltc_zero f k, if_neg (by omega)]
theorem ltc_succ (f : Nat → Nat) (q : Nat) : ∀ k, ltc f (q + 1) k = ltc f q k + eqc f q k
  | 0 => rfl
  | k + 1 => by
    have := ltc_succ f q k
    rw [ltc, ltc, eqc, this]
    by_cases h1 : f k < q
    · rw [if_pos (by omega), if_pos h1, if_neg (by omega)]; omega
    · by_cases h2 : f k = q
      · rw [if_pos (by omega), if_neg h1, if_pos h2]; omega
      · rw [if_neg (by omega), if_neg h1, if_neg h2]; omega
theorem ltc_all (f : Nat → Nat) (n : Nat) : ∀ k, (∀ i, i < k → f i < n) → ltc f n k = k
  | 0, _ => rfl
  | k + 1, h => by rw [ltc, ltc_all f n k (fun i hi => h i (by omega)), if_pos (h k (by omega))]
theorem ltc_mono (f : Nat → Nat) (k : Nat) (p : Nat) : ∀ q, p ≤ q → ltc f p k ≤ ltc f q k
  | 0, h => by rw [show p = 0 by omega]; exact Nat.le_refl _
  | q + 1, h => by
    by_cases e : p = q + 1
    · rw [e]; exact Nat.le_refl _
    · have := ltc_mono f k p q (by omega)
      rw [ltc_succ]
      omega
theorem eqc_mono (f : Nat → Nat) (q i : Nat) : ∀ k, i ≤ k → eqc f q i ≤ eqc f q k
  | 0, h => by rw [show i = 0 by omega]; exact Nat.le_refl _
  | k + 1, h => by
    by_cases e : i = k + 1
    · rw [e]; exact Nat.le_refl _
    · have := eqc_mono f q i k (by omega)
      rw [eqc]
      omega
/-- An entry before k counts. -/
theorem eqc_lt (f : Nat → Nat) (i k : Nat) (h : i < k) : eqc f (f i) i < eqc f (f i) k := by
  have h1 := eqc_mono f (f i) (i + 1) k h
  rw [eqc_hit] at h1
  omega

/-- Where entry i goes, of m. -/
def pos (f : Nat → Nat) (m i : Nat) : Nat := ltc f (f i) m + eqc f (f i) i
theorem pos_next (f : Nat → Nat) (m i : Nat) (h : i < m) : pos f m i < ltc f (f i + 1) m := by
  rw [ltc_succ, pos]
  have := eqc_lt f i m h
  omega
theorem pos_lt (f : Nat → Nat) (m i : Nat) (h : i < m) : pos f m i < m := by
  have := pos_next f m i h
  have := ltc_le f (f i + 1) m
  omega
theorem pos_ne (f : Nat → Nat) (m i j : Nat) (hi : i < j) (hj : j < m) : pos f m i ≠ pos f m j := by
  rcases Nat.lt_trichotomy (f i) (f j) with h | h | h
  · have h1 := pos_next f m i (by omega)
    have h2 := ltc_mono f m (f i + 1) (f j) h
    have h3 : ltc f (f j) m ≤ pos f m j := Nat.le_add_right _ _
    omega
  · have h1 := eqc_lt f i j hi
    unfold pos
    rw [← h]
    omega
  · have h1 := pos_next f m j hj
    have h2 := ltc_mono f m (f j + 1) (f i) h
    have h3 : ltc f (f i) m ≤ pos f m i := Nat.le_add_right _ _
    omega

/-- A row with one place turned. -/
def upd (s : Nat → Int) (j : Nat) (v : Int) : Nat → Int := fun i => if i = j then v else s i
theorem upd_same (s : Nat → Int) (j : Nat) (v : Int) : upd s j v j = v := by simp [upd]
theorem upd_other (s : Nat → Int) {i j : Nat} (v : Int) (h : i ≠ j) : upd s j v i = s i := by simp [upd, h]

/-- 'start' after k entries have been counted. -/
def cntS (f : Nat → Nat) (k : Nat) : Nat → Int := fun j => if 2 ≤ j then (eqc f (j - 2) k : Int) else 0
theorem cntS_zero (f : Nat → Nat) (j : Nat) : cntS f 0 j = 0 := by unfold cntS; split <;> rfl
theorem cntS_step (f : Nat → Nat) (k : Nat) (j : Nat) : upd (cntS f k) (f k + 2) (cntS f k (f k + 2) + 1) j = cntS f (k + 1) j := by
  unfold upd
  split
  · rename_i h
    subst h
    simp [cntS, eqc_hit]
  · rename_i h
    unfold cntS
    split
    · rw [eqc_miss f (j - 2) k (by omega)]
    · rfl
theorem cntS_bd (f : Nat → Nat) (k j : Nat) : 0 ≤ cntS f k j ∧ cntS f k j ≤ k := by
  unfold cntS
  split
  · have := eqc_le f (j - 2) k; omega
  · omega

/-- 'start' while allot adds up: the first i places are sums already. -/
def sumS (f : Nat → Nat) (m i : Nat) : Nat → Int := fun j => if j < i then (ltc f (j - 1) m : Int) else cntS f m j
theorem sumS_start (f : Nat → Nat) (m j : Nat) : sumS f m 2 j = cntS f m j := by
  unfold sumS
  split
  · rename_i h
    unfold cntS
    rw [if_neg (by omega), show j - 1 = 0 by omega, ltc_zero]; rfl
  · rfl
theorem sumS_step (f : Nat → Nat) (m i : Nat) (h : 2 ≤ i) (j : Nat) : upd (sumS f m i) i (sumS f m i i + sumS f m i (i - 1)) j = sumS f m (i + 1) j := by
  unfold upd
  split
  · rename_i e
    subst e
    have e1 : sumS f m j j = (eqc f (j - 2) m : Int) := by unfold sumS cntS; rw [if_neg (by omega), if_pos h]
    have e2 : sumS f m j (j - 1) = (ltc f (j - 2) m : Int) := by unfold sumS; rw [if_pos (by omega), show j - 1 - 1 = j - 2 by omega]
    have e3 : sumS f m (j + 1) j = (ltc f (j - 2 + 1) m : Int) := by unfold sumS; rw [if_pos (by omega), show j - 1 = j - 2 + 1 by omega]
    rw [e1, e2, e3, ltc_succ]
    omega
  · rename_i e
    unfold sumS
    by_cases h1 : j < i
    · rw [if_pos h1, if_pos (by omega)]
    · rw [if_neg h1, if_neg (by omega)]
theorem sumS_bd (f : Nat → Nat) (m i j : Nat) : 0 ≤ sumS f m i j ∧ sumS f m i j ≤ m := by
  unfold sumS
  split
  · have := ltc_le f (j - 1) m; omega
  · exact cntS_bd f m j

/-- 'start' after k entries have been placed. -/
def plS (f : Nat → Nat) (m k : Nat) : Nat → Int := fun j => (ltc f (j - 1) m : Int) + if 1 ≤ j then (eqc f (j - 1) k : Int) else 0
theorem plS_start (f : Nat → Nat) (m N j : Nat) (h : j < N) : sumS f m N j = plS f m 0 j := by
  unfold sumS plS
  rw [if_pos h]
  split <;> simp [eqc]
theorem plS_at (f : Nat → Nat) (m k : Nat) : plS f m k (f k + 1) = (pos f m k : Int) := by
  unfold plS pos
  rw [if_pos (by omega), show f k + 1 - 1 = f k by omega]
  omega
theorem plS_step (f : Nat → Nat) (m k j : Nat) : upd (plS f m k) (f k + 1) (plS f m k (f k + 1) + 1) j = plS f m (k + 1) j := by
  unfold upd
  split
  · rename_i h
    subst h
    rw [plS_at]
    unfold plS pos
    rw [if_pos (by omega), show f k + 1 - 1 = f k by omega, eqc_hit]
    omega
  · rename_i h
    unfold plS
    split
    · rw [eqc_miss f (j - 1) k (by omega)]
    · rfl
theorem plS_end (f : Nat → Nat) (m j : Nat) : plS f m m j = (ltc f j m : Int) := by
  unfold plS
  by_cases h : 1 ≤ j
  · obtain ⟨q, rfl⟩ : ∃ q, j = q + 1 := ⟨j - 1, by omega⟩
    rw [if_pos h, show q + 1 - 1 = q by omega, ltc_succ]
    omega
  · rw [if_neg h, show j = 0 by omega, show 0 - 1 = 0 by omega, ltc_zero]; rfl

/-- 'at' after k entries have been placed. -/
def atS (f : Nat → Nat) (v : Nat → Int) (m : Nat) : Nat → Nat → Int
  | 0 => fun _ => 0
  | k + 1 => upd (atS f v m k) (pos f m k) (v k)
theorem atS_at (f : Nat → Nat) (v : Nat → Int) (m i : Nat) : ∀ k, i < k → k ≤ m → atS f v m k (pos f m i) = v i
  | 0, h, _ => by omega
  | k + 1, h, hk => by
    rw [atS]
    by_cases e : i = k
    · subst e; exact upd_same _ _ _
    · rw [upd_other _ _ (pos_ne f m i k (by omega) (by omega))]
      exact atS_at f v m i k (by omega) (by omega)
end Go.Proofs.Ybulkthu
