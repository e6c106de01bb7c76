namespace Go.Proofs.Qxb6600769a
set_option linter.unusedVariables false

/-- How many of the first n numbers say yes. -/
def cnt (f : Nat → Bool) : Nat → Nat
  | 0 => 0
  | n + 1 => cnt f n + (if f n then 1 else 0)

theorem cnt_succ (f : Nat → Bool) (n : Nat) : cnt f (n + 1) = cnt f n + (if f n then 1 else 0) := rfl

theorem cnt_le (f : Nat → Bool) (n : Nat) : cnt f n ≤ n := by
  induction n with
  | zero => exact Nat.le_refl _
  | succ n ih => unfold cnt; split <;> omega

theorem cnt_congr {f g : Nat → Bool} {n : Nat} (h : ∀ i, i < n → f i = g i) : cnt f n = cnt g n := by
  induction n with
  | zero => rfl
  | succ n ih =>
    unfold cnt
    rw [ih (fun i hi => h i (by omega)), h n (by omega)]

theorem cnt_none {f : Nat → Bool} {n : Nat} (h : ∀ i, i < n → f i = false) : cnt f n = 0 := by
  induction n with
  | zero => rfl
  | succ n ih =>
    unfold cnt
    rw [ih (fun i hi => h i (by omega)), h n (by omega)]; rfl

theorem cnt_lt (k n : Nat) : cnt (fun p => decide (p < k)) n = min k n := by
  induction n with
  | zero => simp [cnt]
  | succ n ih =>
    unfold cnt
    rw [ih]
    by_cases h : n < k
    · simp [h]; omega
    · simp [h]; omega

theorem cnt_ge (k n : Nat) : cnt (fun p => decide (k ≤ p)) n = n - k := by
  induction n with
  | zero => simp [cnt]
  | succ n ih =>
    unfold cnt
    rw [ih]
    by_cases h : k ≤ n
    · simp [h]; omega
    · simp [h]; omega

theorem cnt_not (f : Nat → Bool) (n : Nat) : cnt f n + cnt (fun i => !f i) n = n := by
  induction n with
  | zero => rfl
  | succ n ih =>
    unfold cnt
    cases f n <;> simp <;> omega

theorem cnt_single (s n : Nat) : cnt (fun t => decide (t = s)) n = if s < n then 1 else 0 := by
  induction n with
  | zero => rfl
  | succ n ih =>
    unfold cnt
    rw [ih]
    by_cases h : n = s
    · simp [h]
    · by_cases h2 : s < n
      · simp [h, h2]; omega
      · simp [h, h2]; omega

theorem cnt_add (f : Nat → Bool) (a b : Nat) : cnt f (a + b) = cnt f a + cnt (fun i => f (a + i)) b := by
  induction b with
  | zero => rfl
  | succ b ih =>
    rw [← Nat.add_assoc, cnt_succ, cnt_succ, ih]; omega

theorem cnt_mono (f : Nat → Bool) {a b : Nat} (h : a ≤ b) : cnt f a ≤ cnt f b := by
  obtain ⟨d, rfl⟩ := Nat.exists_eq_add_of_le h
  rw [cnt_add]; omega

theorem cnt_imp {f g : Nat → Bool} {n : Nat} (h : ∀ i, i < n → f i = true → g i = true) : cnt f n ≤ cnt g n := by
  induction n with
  | zero => exact Nat.le_refl _
  | succ n ih =>
    unfold cnt
    have := ih (fun i hi => h i (by omega))
    have h2 := h n (by omega)
    cases hf : f n
    · simp; omega
    · simp [h2 hf]; omega

theorem cnt_le_one {f : Nat → Bool} {n : Nat} (h : ∀ i j, i < j → j < n → f i = true → f j = true → False) : cnt f n ≤ 1 := by
  induction n with
  | zero => exact Nat.zero_le _
  | succ n ih =>
    unfold cnt
    have h1 := ih (fun i j hij hj => h i j hij (by omega))
    cases hf : f n
    · simp; exact h1
    · have : cnt f n = 0 := cnt_none (fun i hi => by
        cases hfi : f i
        · rfl
        · exact (h i n hi (by omega) hfi hf).elim)
      simp; omega

theorem cnt_pos_iff (f : Nat → Bool) (n : Nat) : 0 < cnt f n ↔ ∃ i, i < n ∧ f i = true := by
  induction n with
  | zero => simp [cnt]
  | succ n ih =>
    unfold cnt
    constructor
    · intro h
      by_cases h0 : 0 < cnt f n
      · obtain ⟨i, hi, hf⟩ := ih.1 h0; exact ⟨i, by omega, hf⟩
      · cases hf : f n
        · rw [hf] at h; simp at h; omega
        · exact ⟨n, by omega, hf⟩
    · rintro ⟨i, hi, hf⟩
      by_cases hin : i < n
      · have := ih.2 ⟨i, hin, hf⟩; omega
      · have : i = n := by omega
        subst this; simp [hf]

/-- One number more that says yes. -/
theorem cnt_insert {f g : Nat → Bool} {n s : Nat} (hs : s < n) (h0 : f s = false) (h : ∀ i, i < n → g i = (f i || decide (i = s))) : cnt g n = cnt f n + 1 := by
  induction n with
  | zero => omega
  | succ n ih =>
    unfold cnt
    by_cases hsn : s < n
    · rw [ih hsn (fun i hi => h i (by omega)), h n (by omega)]
      have : ¬ n = s := by omega
      simp [this]; omega
    · have hsn : s = n := by omega
      subst hsn
      have hc : cnt g s = cnt f s := cnt_congr (fun i hi => by
        have h1 : ¬ i = s := by omega
        rw [h i (by omega)]; simp [h1])
      rw [hc, h s (by omega), h0]
      simp

theorem cnt_ge_of {f : Nat → Bool} {k n : Nat} (hk : k ≤ n) (h : ∀ l, l < k → f l = true) : k ≤ cnt f n := by
  have h1 : cnt (fun p => decide (p < k)) n ≤ cnt f n := cnt_imp (fun i _ hi => h i (by simpa using hi))
  rw [cnt_lt] at h1; omega

/-- Of the numbers from lo on, all say yes just where so many say yes as there are. -/
theorem cnt_full {f : Nat → Bool} {lo n : Nat} (hlo : lo ≤ n) : (n - lo ≤ cnt (fun l => decide (lo ≤ l) && f l) n) ↔ ∀ l, lo ≤ l → l < n → f l = true := by
  constructor
  · intro h l h1 h2
    cases hf : f l
    · exfalso
      have h3 : cnt (fun p => decide (lo ≤ p)) n = cnt (fun l => decide (lo ≤ l) && f l) n + cnt (fun l => decide (lo ≤ l) && !f l) n := by
        clear h h1 h2 hf hlo
        induction n with
        | zero => rfl
        | succ n ih =>
          simp only [cnt_succ]
          rw [ih]
          by_cases hl : lo ≤ n
          · cases f n <;> simp [hl] <;> omega
          · simp [hl]
      have h4 : 0 < cnt (fun l => decide (lo ≤ l) && !f l) n := (cnt_pos_iff _ _).2 ⟨l, h2, by simp [h1, hf]⟩
      rw [cnt_ge] at h3
      omega
    · rfl
  · intro h
    have h1 : cnt (fun p => decide (lo ≤ p)) n ≤ cnt (fun l => decide (lo ≤ l) && f l) n := cnt_imp (fun i hi hd => by
      have : lo ≤ i := by simpa using hd
      simp [this, h i this hi])
    rw [cnt_ge] at h1
    exact h1

/-- How many of m .. n-1 say yes. -/
def cntFrom (f : Nat → Bool) (m n : Nat) : Nat := cnt (fun p => f p && decide (m ≤ p)) n
theorem cntFrom_top (f : Nat → Bool) (n : Nat) : cntFrom f n n = 0 :=
  cnt_none (fun i hi => by
    have : ¬ n ≤ i := by omega
    simp [this])
theorem cntFrom_zero (f : Nat → Bool) (n : Nat) : cntFrom f 0 n = cnt f n := cnt_congr (fun i _ => by simp)
theorem cntFrom_step (f : Nat → Bool) {m n : Nat} (h : m < n) : cntFrom f m n = cntFrom f (m + 1) n + (if f m then 1 else 0) := by
  unfold cntFrom
  cases hf : f m
  · simp only [Bool.false_eq_true, if_false, Nat.add_zero]
    exact cnt_congr (fun i _ => by
      by_cases him : i = m
      · subst him; simp [hf]
      · have : (m ≤ i) = (m + 1 ≤ i) := by apply propext; omega
        simp only [this])
  · simp only [if_true]
    refine cnt_insert (s := m) h (by simp) (fun i _ => ?_)
    by_cases him : i = m
    · subst him; simp [hf]
    · have : (m ≤ i) = (m + 1 ≤ i) := by apply propext; omega
      simp only [this, him, decide_false, Bool.or_false]

/-- Of the numbers that say yes, those above which fewer than b say yes: b of them, or all. -/
theorem cnt_rank (f : Nat → Bool) (b n m : Nat) (hm : m ≤ n) : cntFrom (fun p => f p && decide (cntFrom f (p + 1) n < b)) m n = min (cntFrom f m n) b := by
  obtain ⟨d, hd⟩ := Nat.exists_eq_add_of_le hm
  induction d generalizing m with
  | zero =>
    have : m = n := by omega
    subst this
    rw [cntFrom_top, cntFrom_top]; omega
  | succ d ih =>
    have hlt : m < n := by omega
    rw [cntFrom_step _ hlt, cntFrom_step f hlt, ih (m + 1) (by omega) (by omega)]
    cases hf : f m
    · simp
    · by_cases hb : cntFrom f (m + 1) n < b
      · simp [hb]; omega
      · simp [hb]; omega

/-! ### Numbers by their rest modulo L -/
def cyc (L s T : Nat) : Nat := cnt (fun t => decide (t % L = s)) T
def hits (L a s n : Nat) : Nat := cnt (fun q => decide ((a + q) % L = s)) n

theorem cyc_add (L s a n : Nat) : cyc L s (a + n) = cyc L s a + hits L a s n := cnt_add _ _ _

theorem cyc_block (L s q : Nat) (hs : s < L) : cyc L s (L * q) = q := by
  induction q with
  | zero => rfl
  | succ q ih =>
    rw [Nat.mul_succ, cyc_add, ih]
    have : hits L (L * q) s L = 1 := by
      unfold hits
      rw [cnt_congr (g := fun t => decide (t = s)) (fun i hi => by rw [Nat.mul_add_mod, Nat.mod_eq_of_lt hi]), cnt_single, if_pos hs]
    omega

theorem cyc_le {L s T q : Nat} (hs : s < L) (h : T ≤ L * q) : cyc L s T ≤ q := by
  have := cnt_mono (fun t => decide (t % L = s)) h
  have h2 := cyc_block L s q hs
  unfold cyc at *; omega

theorem cyc_zero_le {L T q : Nat} (hL : 0 < L) (h : cyc L 0 T ≤ q) : T ≤ L * q := by
  by_cases h1 : T ≤ L * q
  · exact h1
  · exfalso
    have h2 := cnt_mono (fun t => decide (t % L = 0)) (show L * q + 1 ≤ T by omega)
    have h3 : cyc L 0 (L * q + 1) = q + 1 := by
      rw [cyc_add, cyc_block L 0 q hL]
      simp [hits, cnt]
    unfold cyc at *; omega

theorem hits_le_one {L a s n : Nat} (hn : n ≤ L) : hits L a s n ≤ 1 := by
  refine cnt_le_one (fun i j hij hj hi hjt => ?_)
  simp at hi hjt
  have h1 := Nat.div_add_mod (a + i) L
  have h2 := Nat.div_add_mod (a + j) L
  rw [hi] at h1
  rw [hjt] at h2
  have hlt : (a + i) / L < (a + j) / L := by
    have := Nat.div_le_div_right (c := L) (show a + i ≤ a + j by omega)
    rcases Nat.lt_or_ge ((a + i) / L) ((a + j) / L) with h | h
    · exact h
    · exfalso
      have : (a + i) / L = (a + j) / L := by omega
      rw [this] at h1; omega
  have h3 : L * ((a + i) / L + 1) ≤ L * ((a + j) / L) := Nat.mul_le_mul_left _ hlt
  rw [Nat.mul_succ] at h3
  omega

/-- The rows that a column takes: as many as there are numbers below k * need of its rest. -/
theorem rows_hit (L need s k : Nat) (hn : need ≤ L) : cnt (fun i => decide (0 < hits L (i * need) s need)) k = cyc L s (k * need) := by
  induction k with
  | zero => simp [cnt, cyc]
  | succ k ih =>
    rw [cnt_succ, ih, Nat.succ_mul, cyc_add]
    have := hits_le_one (L := L) (a := k * need) (s := s) hn
    by_cases h : 0 < hits L (k * need) s need
    · simp [h]; omega
    · simp [h]; omega

/-- The columns that a row takes: as many as it asks. -/
theorem cols_hit (L a n : Nat) (hn : n ≤ L) : cnt (fun s => decide (0 < hits L a s n)) L = n := by
  induction n with
  | zero => exact cnt_none (fun i _ => by simp [hits, cnt])
  | succ n ih =>
    have hL : 0 < L := by omega
    have hs : (a + n) % L < L := Nat.mod_lt _ hL
    rw [cnt_insert (f := fun s => decide (0 < hits L a s n)) (s := (a + n) % L) hs, ih (by omega)]
    · have h1 := hits_le_one (L := L) (a := a) (s := (a + n) % L) hn
      have h2 : hits L a ((a + n) % L) (n + 1) = hits L a ((a + n) % L) n + 1 := by
        unfold hits; rw [cnt_succ]; simp
      simp; omega
    · intro i _
      have h2 : hits L a i (n + 1) = hits L a i n + (if decide ((a + n) % L = i) = true then 1 else 0) := rfl
      rw [h2]
      by_cases he : (a + n) % L = i
      · simp [he]
      · have he' : ¬ i = (a + n) % L := fun h => he h.symm
        simp [he, he']
end Go.Proofs.Qxb6600769a
