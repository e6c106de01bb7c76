namespace Go.Proofs.Qxb6603091a
set_option linter.unusedVariables false

/-- One row of the table, out of the row before it. -/
def stepRow (g : Nat → Int) (x : Int) (P : Nat → Nat) (i1 : Nat) : Nat → Nat
  | 0 => i1
  | j + 1 => min (min (P j + (if x = g j then 0 else 1)) (P (j + 1) + 1)) (stepRow g x P i1 j + 1)
/-- The edits that turn the first i of f into the first j of g. -/
def D (f g : Nat → Int) : Nat → Nat → Nat
  | 0 => fun j => j
  | i + 1 => stepRow g (f i) (D f g i) (i + 1)

section
variable (f g : Nat → Int)

theorem D_zero (j : Nat) : D f g 0 j = j := rfl
theorem D_left (i : Nat) : D f g i 0 = i := by cases i <;> rfl
theorem D_step (i j : Nat) : D f g (i + 1) (j + 1) = min (min (D f g i j + (if f i = g j then 0 else 1)) (D f g i (j + 1) + 1)) (D f g (i + 1) j + 1) := rfl

theorem U1 (i j : Nat) : D f g (i + 1) j ≤ D f g i j + 1 := by
  cases j with
  | zero => rw [D_left, D_left]; omega
  | succ j => rw [D_step]; omega
theorem U2 (i j : Nat) : D f g i (j + 1) ≤ D f g i j + 1 := by
  cases i with
  | zero => rw [D_zero, D_zero]; omega
  | succ i => rw [D_step]; omega
theorem L1 (i j : Nat) : D f g i j ≤ D f g i (j + 1) + 1 := by
  induction i generalizing j with
  | zero => rw [D_zero, D_zero]; omega
  | succ i ih =>
    rw [D_step]
    have h1 := U1 f g i j
    have h2 := ih j
    omega
theorem L2 (i j : Nat) : D f g i j ≤ D f g (i + 1) j + 1 := by
  induction j with
  | zero => rw [D_left, D_left]; omega
  | succ j ih =>
    rw [D_step]
    have h1 := U2 f g i j
    omega

theorem D_same {i j : Nat} (h : f i = g j) : D f g (i + 1) (j + 1) = D f g i j := by
  rw [D_step, if_pos h]
  have h1 := L1 f g i j
  have h2 := L2 f g i j
  omega
theorem D_diff {i j : Nat} (h : f i ≠ g j) : D f g (i + 1) (j + 1) = min (min (D f g i j) (D f g i (j + 1))) (D f g (i + 1) j) + 1 := by
  rw [D_step, if_neg h]
  omega

theorem low1 (i j : Nat) : i ≤ D f g i j + j := by
  induction j with
  | zero => rw [D_left]; omega
  | succ j ih => have := L1 f g i j; omega
theorem low2 (i j : Nat) : j ≤ D f g i j + i := by
  induction i with
  | zero => rw [D_zero]; omega
  | succ i ih => have := L2 f g i j; omega

theorem U1n (i j k : Nat) : D f g (i + k) j ≤ D f g i j + k := by
  induction k with
  | zero => exact Nat.le_refl _
  | succ k ih => have := U1 f g (i + k) j; rw [← Nat.add_assoc]; omega
theorem U2n (i j k : Nat) : D f g i (j + k) ≤ D f g i j + k := by
  induction k with
  | zero => exact Nat.le_refl _
  | succ k ih => have := U2 f g i (j + k); rw [← Nat.add_assoc]; omega

/-- A way to (i + 1, j) crosses row i. -/
theorem cross1 (i j : Nat) : ∃ j', j' ≤ j ∧ D f g i j' ≤ D f g (i + 1) j := by
  induction j with
  | zero => exact ⟨0, Nat.le_refl _, by rw [D_left, D_left]; omega⟩
  | succ j ih =>
    obtain ⟨j', h1, h2⟩ := ih
    rw [D_step]
    by_cases ha : D f g i j ≤ min (min (D f g i j + (if f i = g j then 0 else 1)) (D f g i (j + 1) + 1)) (D f g (i + 1) j + 1)
    · exact ⟨j, by omega, ha⟩
    · by_cases hb : D f g i (j + 1) ≤ min (min (D f g i j + (if f i = g j then 0 else 1)) (D f g i (j + 1) + 1)) (D f g (i + 1) j + 1)
      · exact ⟨j + 1, by omega, hb⟩
      · exact ⟨j', by omega, by omega⟩
theorem crossN (i j d : Nat) : ∃ j', j' ≤ j ∧ D f g i j' ≤ D f g (i + d) j := by
  induction d generalizing j with
  | zero => exact ⟨j, Nat.le_refl _, Nat.le_refl _⟩
  | succ d ih =>
    obtain ⟨j1, h1, h2⟩ := cross1 f g (i + d) j
    obtain ⟨j2, h3, h4⟩ := ih j1
    exact ⟨j2, by omega, Nat.le_trans h4 h2⟩
end

theorem D_congr {f g f' g' : Nat → Int} (i j : Nat) (hf : ∀ k, k < i → f k = f' k) (hg : ∀ k, k < j → g k = g' k) : D f g i j = D f' g' i j := by
  induction i generalizing j with
  | zero => rfl
  | succ i ih =>
    induction j with
    | zero => rw [D_left, D_left]
    | succ j jh =>
      rw [D_step, D_step, ih j (fun k hk => hf k (by omega)) (fun k hk => hg k (by omega)), ih (j + 1) (fun k hk => hf k (by omega)) hg, jh (fun k hk => hg k (by omega)), hf i (by omega), hg j (by omega)]

def rev (f : Nat → Int) (m : Nat) (i : Nat) : Int := f (m - 1 - i)

theorem rev_half (f g : Nat → Int) (m n : Nat) : ∀ i j, i ≤ m → j ≤ n → D (rev f m) (rev g n) m n ≤ D f g i j + D (rev f m) (rev g n) (m - i) (n - j) := by
  intro i
  induction i with
  | zero =>
    intro j _ hj
    rw [D_zero]
    have := U2n (rev f m) (rev g n) m (n - j) j
    have e : n - j + j = n := by omega
    rw [e] at this
    simp only [Nat.sub_zero]
    omega
  | succ i ih =>
    intro j
    induction j with
    | zero =>
      intro hi _
      rw [D_left]
      have := U1n (rev f m) (rev g n) (m - (i + 1)) n (i + 1)
      have e : m - (i + 1) + (i + 1) = m := by omega
      rw [e] at this
      simp only [Nat.sub_zero]
      omega
    | succ j jh =>
      intro hi hj
      obtain ⟨x, hx⟩ : ∃ x, m - i = x + 1 := ⟨m - i - 1, by omega⟩
      obtain ⟨y, hy⟩ : ∃ y, n - j = y + 1 := ⟨n - j - 1, by omega⟩
      have ex : m - (i + 1) = x := by omega
      have ey : n - (j + 1) = y := by omega
      have h1 := ih j (by omega) (by omega)
      have h2 := ih (j + 1) (by omega) hj
      have h3 := jh hi (by omega)
      rw [hx, hy] at h1
      rw [hx, ey] at h2
      rw [ex, hy] at h3
      rw [ex, ey, D_step f g]
      have k1 := D_step (rev f m) (rev g n) x y
      have k2 := U1 (rev f m) (rev g n) x y
      have k3 := U2 (rev f m) (rev g n) x y
      have e1 : rev f m x = f i := by unfold rev; congr 1; omega
      have e2 : rev g n y = g j := by unfold rev; congr 1; omega
      rw [e1, e2] at k1
      omega

/-- Read backwards, the edits are as many. -/
theorem D_rev (f g : Nat → Int) (m n : Nat) : D (rev f m) (rev g n) m n = D f g m n := by
  apply Nat.le_antisymm
  · have := rev_half f g m n m n (Nat.le_refl _) (Nat.le_refl _)
    simpa [D_zero] using this
  · have h := rev_half (rev f m) (rev g n) m n m n (Nat.le_refl _) (Nat.le_refl _)
    rw [Nat.sub_self, Nat.sub_self, D_zero, Nat.add_zero] at h
    rw [D_congr (f := f) (g := g) (f' := rev (rev f m) m) (g' := rev (rev g n) n) m n (fun k hk => by unfold rev; congr 1; omega) (fun k hk => by unfold rev; congr 1; omega)]
    exact h

/-! ### The band -/
/-- Place d of row i: cell (i, i + d - L), or L + 1 where it lies past an end of g or holds more than L. -/
def band (f g : Nat → Int) (n L i d : Nat) : Nat := if i + d < L ∨ n < i + d - L then L + 1 else min (D f g i (i + d - L)) (L + 1)

theorem band_le (f g : Nat → Int) (n L i d : Nat) : band f g n L i d ≤ L + 1 := by unfold band; split <;> omega

theorem band_out {f g : Nat → Int} {n L i d : Nat} (h : i + d < L ∨ n < i + d - L) : band f g n L i d = L + 1 := if_pos h
theorem band_zero {f g : Nat → Int} {n L i d : Nat} (h : i + d = L) : band f g n L i d = min i (L + 1) := by
  unfold band
  rw [if_neg (by omega), h, Nat.sub_self, D_left]
/-- A cell inside, out of the three before it. -/
theorem band_in {f g : Nat → Int} {n L i d j : Nat} (hd : d ≤ 2 * L) (hj : i + 1 + d = j + 1 + L) (hjn : j + 1 ≤ n) :
    band f g n L (i + 1) d = min (min (min (band f g n L i d + (if f i = g j then 0 else 1)) (if d + 1 < 2 * L + 1 then band f g n L i (d + 1) + 1 else L + 2)) (if 0 < d then band f g n L (i + 1) (d - 1) + 1 else L + 2)) (L + 1) := by
  have e1 : i + 1 + d - L = j + 1 := by omega
  have e2 : i + d - L = j := by omega
  have hb : band f g n L (i + 1) d = min (D f g (i + 1) (j + 1)) (L + 1) := by
    unfold band; rw [if_neg (by omega), e1]
  have ha : band f g n L i d = min (D f g i j) (L + 1) := by
    unfold band; rw [if_neg (by omega), e2]
  have hc : (if d + 1 < 2 * L + 1 then band f g n L i (d + 1) + 1 else L + 2) = min (D f g i (j + 1)) (L + 1) + 1 := by
    split
    · unfold band
      have e3 : i + (d + 1) - L = j + 1 := by omega
      rw [if_neg (by omega), e3]
    · have := low2 f g i (j + 1)
      omega
  have hd' : (if 0 < d then band f g n L (i + 1) (d - 1) + 1 else L + 2) = min (D f g (i + 1) j) (L + 1) + 1 := by
    split
    · unfold band
      have e3 : i + 1 + (d - 1) - L = j := by omega
      rw [if_neg (by omega), e3]
    · have := low1 f g (i + 1) j
      omega
  rw [hb, ha, hc, hd', D_step]
  split <;> omega

/-- Where a whole row of the band holds more than L, so does the last cell. -/
theorem band_over {f g : Nat → Int} {m n L i : Nat} (him : i ≤ m) (h : ∀ d, d < 2 * L + 1 → band f g n L i d = L + 1) : L + 1 ≤ D f g m n := by
  obtain ⟨e, rfl⟩ := Nat.exists_eq_add_of_le him
  obtain ⟨j, hj, hle⟩ := crossN f g i n e
  by_cases h1 : j + L < i
  · have := low1 f g i j; omega
  · by_cases h2 : i + L < j
    · have := low2 f g i j; omega
    · have h3 := h (j + L - i) (by omega)
      unfold band at h3
      have e3 : i + (j + L - i) - L = j := by omega
      rw [if_neg (by omega), e3] at h3
      omega

/-- The least of the first k places of a row (and L + 1). -/
def least (f g : Nat → Int) (n L i : Nat) : Nat → Nat
  | 0 => L + 1
  | k + 1 => min (least f g n L i k) (band f g n L i k)
theorem least_le (f g : Nat → Int) (n L i k : Nat) : least f g n L i k ≤ L + 1 := by
  induction k with
  | zero => exact Nat.le_refl _
  | succ k ih => unfold least; omega
theorem least_full {f g : Nat → Int} {n L i k : Nat} (h : least f g n L i k = L + 1) : ∀ d, d < k → band f g n L i d = L + 1 := by
  induction k with
  | zero => intro d hd; omega
  | succ k ih =>
    intro d hd
    unfold least at h
    have h1 := least_le f g n L i k
    have h2 := band_le f g n L i k
    by_cases hk : d < k
    · exact ih (by omega) d hk
    · obtain rfl : d = k := by omega
      omega
end Go.Proofs.Qxb6603091a
