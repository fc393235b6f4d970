namespace Go.Proofs.Qxb6619872a.Siz

/-- The least k with k * lim ≥ p (p ≥ 0, lim ≥ 1). -/
def parts (p lim : Int) : Int := (p + lim - 1) / lim
/-- The shortest that a part may be. -/
def flo (lim : Int) : Int := if lim < 8 then lim else 8
/-- The i-th of k near-equal parts of p. -/
def bal (p k i : Int) : Int := p / k + (if i < p % k then 1 else 0)
/-- The i-th of k sizes, none under f. -/
def szAt (p k f i : Int) : Int := max (bal p k i) f
/-- The sum of the first i sizes. -/
def pre (p k f i : Int) : Int :=
  if p / k < f then i * f else i * (p / k) + (if i < p % k then i else p % k)

theorem parts_lo (p lim : Int) (h : 1 ≤ lim) : p ≤ parts p lim * lim := by
  unfold parts
  have := Int.mul_ediv_add_emod (p + lim - 1) lim
  have h2 := Int.emod_lt_of_pos (p + lim - 1) (show 0 < lim by omega)
  rw [Int.mul_comm] at this
  omega
theorem parts_hi (p lim : Int) (h : 1 ≤ lim) : (parts p lim - 1) * lim < p := by
  unfold parts
  have := Int.mul_ediv_add_emod (p + lim - 1) lim
  have h2 := Int.emod_nonneg (p + lim - 1) (show lim ≠ 0 by omega)
  rw [Int.mul_comm] at this
  rw [Int.sub_mul]
  omega
theorem parts_nonneg (p lim : Int) (h : 1 ≤ lim) (hp : 0 ≤ p) : 0 ≤ parts p lim := by
  unfold parts
  exact Int.ediv_nonneg (by omega) (by omega)
/-- 'k' is fixed by the two bounds. -/
theorem parts_unique (p lim k : Int) (h : 1 ≤ lim) (h1 : p ≤ k * lim) (h2 : (k - 1) * lim < p) : parts p lim = k := by
  have a := parts_lo p lim h
  have b := parts_hi p lim h
  have c : (k - 1) * lim < parts p lim * lim := by omega
  have d : (parts p lim - 1) * lim < k * lim := by omega
  have c' := Int.lt_of_mul_lt_mul_right c (by omega)
  have d' := Int.lt_of_mul_lt_mul_right d (by omega)
  omega
theorem parts_le (p lim : Int) (h : 1 ≤ lim) (hq : p / lim < 65536) : parts p lim ≤ 65536 := by
  unfold parts
  have : (p + lim - 1) / lim ≤ (p + lim) / lim := Int.ediv_le_ediv (by omega) (by omega)
  have e : (p + lim) / lim = p / lim + 1 := by
    have := Int.add_mul_ediv_right p 1 (show lim ≠ 0 by omega)
    simpa using this
  omega
/-- 'leastParts' gives the same number. -/
theorem least_yes (p lim : Int) (h : 1 ≤ lim) (hc : p / lim * lim < p) : p / lim + 1 = parts p lim := by
  have e := Int.mul_ediv_add_emod p lim
  have h2 := Int.emod_lt_of_pos p (show 0 < lim by omega)
  rw [Int.mul_comm] at e
  refine (parts_unique p lim _ h ?_ ?_).symm
  · rw [Int.add_mul]; omega
  · rw [show p / lim + 1 - 1 = p / lim from by omega]; exact hc
theorem least_no (p lim : Int) (h : 1 ≤ lim) (hc : ¬ p / lim * lim < p) : p / lim = parts p lim := by
  have e := Int.mul_ediv_add_emod p lim
  have h2 := Int.emod_nonneg p (show lim ≠ 0 by omega)
  rw [Int.mul_comm] at e
  refine (parts_unique p lim _ h ?_ ?_).symm
  · omega
  · rw [Int.sub_mul]; omega
theorem div_mul_le (p lim : Int) (h : 1 ≤ lim) (hp : 0 ≤ p) : 0 ≤ p / lim ∧ p / lim ≤ p ∧ 0 ≤ p / lim * lim ∧ p / lim * lim ≤ p := by
  have e := Int.mul_ediv_add_emod p lim
  have h2 := Int.emod_nonneg p (show lim ≠ 0 by omega)
  rw [Int.mul_comm] at e
  have h3 : 0 ≤ p / lim := Int.ediv_nonneg hp (by omega)
  have h4 : 0 ≤ p / lim * lim := Int.mul_nonneg h3 (by omega)
  have h5 : p / lim ≤ p / lim * lim := by
    have := Int.mul_le_mul_of_nonneg_left h h3
    omega
  omega

theorem szAt_ge (p k f i : Int) : f ≤ szAt p k f i := by unfold szAt; omega
theorem bal_le (p k lim i : Int) (hi : 0 ≤ i) (hk : 1 ≤ k) (hlo : p ≤ k * lim) : bal p k i ≤ lim := by
  have e := Int.mul_ediv_add_emod p k
  have h2 := Int.emod_nonneg p (show k ≠ 0 by omega)
  have h3 : p / k ≤ lim := by
    have : p / k ≤ (k * lim) / k := Int.ediv_le_ediv (by omega) hlo
    rw [Int.mul_ediv_cancel_left _ (by omega)] at this
    exact this
  unfold bal
  by_cases h4 : i < p % k
  · rw [if_pos h4]
    by_cases h6 : p / k < lim
    · omega
    · have h7 : p / k = lim := by omega
      rw [h7] at e
      omega
  · rw [if_neg h4]; omega
theorem szAt_le (p k f lim i : Int) (hi : 0 ≤ i) (hk : 1 ≤ k) (hlo : p ≤ k * lim) (hf : f ≤ lim) : szAt p k f i ≤ lim := by
  have := bal_le p k lim i hi hk hlo
  unfold szAt; omega
theorem bal_step (p k i j : Int) (h : i ≤ j) : bal p k j ≤ bal p k i ∧ bal p k i ≤ bal p k j + 1 := by
  unfold bal
  by_cases h1 : i < p % k
  · by_cases h2 : j < p % k
    · rw [if_pos h1, if_pos h2]; omega
    · rw [if_pos h1, if_neg h2]; omega
  · rw [if_neg h1, if_neg (by omega)]; omega
theorem szAt_mono (p k f i j : Int) (h : i ≤ j) : szAt p k f j ≤ szAt p k f i ∧ szAt p k f i - szAt p k f j ≤ 1 := by
  have := bal_step p k i j h
  unfold szAt; omega
theorem bal_nonneg (p k i : Int) (hp : 0 ≤ p) (hk : 1 ≤ k) : 0 ≤ bal p k i := by
  have := Int.ediv_nonneg hp (show 0 ≤ k by omega)
  unfold bal; split <;> omega
theorem pre_zero (p k f : Int) (hk : 1 ≤ k) : pre p k f 0 = 0 := by
  have h2 := Int.emod_nonneg p (show k ≠ 0 by omega)
  unfold pre
  split
  · omega
  · split <;> omega
theorem pre_succ (p k f i : Int) : pre p k f (i + 1) = pre p k f i + szAt p k f i := by
  unfold pre szAt bal
  by_cases h : p / k < f
  · rw [if_pos h, if_pos h, Int.add_mul]
    by_cases h1 : i < p % k
    · rw [if_pos h1]; omega
    · rw [if_neg h1]; omega
  · rw [if_neg h, if_neg h, Int.add_mul]
    by_cases h1 : i < p % k
    · rw [if_pos h1]
      by_cases h2 : i + 1 < p % k
      · rw [if_pos h2]; omega
      · rw [if_neg h2]; omega
    · rw [if_neg h1, if_neg (by omega), if_neg h1]; omega
theorem pre_all (p k f : Int) (hk : 1 ≤ k) : pre p k f k = if p < f * k then f * k else p := by
  have e := Int.mul_ediv_add_emod p k
  have h2 := Int.emod_nonneg p (show k ≠ 0 by omega)
  have h3 := Int.emod_lt_of_pos p (show 0 < k by omega)
  unfold pre
  by_cases h : p / k < f
  · have h4 : k * (p / k + 1) ≤ k * f := Int.mul_le_mul_of_nonneg_left (by omega) (by omega)
    rw [Int.mul_add] at h4
    rw [Int.mul_comm f k]
    rw [if_pos h, if_pos (by omega)]
  · have h4 : k * f ≤ k * (p / k) := Int.mul_le_mul_of_nonneg_left (by omega) (by omega)
    rw [Int.mul_comm f k]
    rw [if_neg h, if_neg (by omega), if_neg (by omega)]
    omega
/-- A sum of i sizes, each between 0 and 2^30, is small. -/
theorem pre_bd (p k f lim : Int) (hk : 1 ≤ k) (hf : 0 ≤ f) (hlo : p ≤ k * lim) (hfl : f ≤ lim) (hl : lim ≤ 1073741824) (n : Nat) : 0 ≤ pre p k f n ∧ pre p k f n ≤ n * 1073741824 := by
  induction n with
  | zero => have := pre_zero p k f hk; simp at this ⊢; omega
  | succ n ih =>
    have h1 := pre_succ p k f n
    have h2 := szAt_ge p k f n
    have h3 := szAt_le p k f lim n (by omega) hk hlo hfl
    have : ((n + 1 : Nat) : Int) = (n : Int) + 1 := by omega
    rw [this, h1]
    omega

/-- The first size, given back as the limit, forces the same number of parts. -/
theorem parts_first (p lim : Int) (hl : 1 ≤ lim) (hk : 1 ≤ parts p lim) :
    parts p (szAt p (parts p lim) (flo lim) 0) = parts p lim ∧ flo (szAt p (parts p lim) (flo lim) 0) = flo lim ∧ 1 ≤ szAt p (parts p lim) (flo lim) 0 ∧ szAt p (parts p lim) (flo lim) 0 ≤ lim := by
  have hlo := parts_lo p lim hl
  have hhi := parts_hi p lim hl
  have hge := szAt_ge p (parts p lim) (flo lim) 0
  have hfl : flo lim ≤ lim ∧ 1 ≤ flo lim := by unfold flo; split <;> omega
  have hle := szAt_le p (parts p lim) (flo lim) lim 0 (by omega) hk hlo hfl.1
  have hb : bal p (parts p lim) 0 ≤ szAt p (parts p lim) (flo lim) 0 := by unfold szAt; omega
  generalize hk' : parts p lim = k at *
  generalize szAt p k (flo lim) 0 = s at *
  have hs1 : 1 ≤ s := by omega
  refine ⟨parts_unique p s k hs1 ?_ ?_, ?_, hs1, hle⟩
  · have e := Int.mul_ediv_add_emod p k
    have h3 := Int.emod_lt_of_pos p (show 0 < k by omega)
    have h2 := Int.emod_nonneg p (show k ≠ 0 by omega)
    have h4 : k * bal p k 0 ≤ k * s := Int.mul_le_mul_of_nonneg_left hb (by omega)
    have h5 : p ≤ k * bal p k 0 := by
      unfold bal
      rw [Int.mul_add]
      by_cases h6 : 0 < p % k
      · rw [if_pos h6]; omega
      · rw [if_neg h6]; omega
    omega
  · have h4 : (k - 1) * s ≤ (k - 1) * lim := Int.mul_le_mul_of_nonneg_left hle (by omega)
    omega
  · unfold flo at hge ⊢
    by_cases h : lim < 8
    · rw [if_pos h] at hge ⊢
      rw [if_pos (by omega)]; omega
    · rw [if_neg h] at hge ⊢
      rw [if_neg (by omega)]
end Go.Proofs.Qxb6619872a.Siz
