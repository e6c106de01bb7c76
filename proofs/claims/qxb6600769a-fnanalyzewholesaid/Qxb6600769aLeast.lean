import Derived.Test.Qxb6600769aSame
namespace Go.Proofs.Qxb6600769a
open Go.RowKit
set_option linter.unusedVariables false

theorem hA_one (E k j l p : Nat) : (hA E k j l p == 1) = decide ((l < k ∧ p < E) ∨ (l = k ∧ p < j)) := by
  unfold hA
  by_cases h : (l < k ∧ p < E) ∨ (l = k ∧ p < j)
  · simp [h]
  · simp [h]
theorem hA_nil (E k j l p : Nat) : (hA E k j l p == 0) = !decide ((l < k ∧ p < E) ∨ (l = k ∧ p < j)) := by
  unfold hA
  by_cases h : (l < k ∧ p < E) ∨ (l = k ∧ p < j)
  · simp [h]
  · simp [h]

def inLine (E k j l : Nat) : Nat := if l < k then E else if l = k then j else 0

theorem hA_cnt1 {E k j SZ : Nat} (l : Nat) (hE : E ≤ SZ) (hj : j ≤ SZ) : lineCnt (hA E k j) 1 SZ l = inLine E k j l := by
  unfold lineCnt inLine
  rw [cnt_congr (g := fun p => decide ((l < k ∧ p < E) ∨ (l = k ∧ p < j))) (fun p _ => hA_one E k j l p)]
  by_cases h1 : l < k
  · rw [if_pos h1, cnt_congr (g := fun p => decide (p < E)) (fun p _ => decide_eq_decide.2 (by omega)), cnt_lt]; omega
  · rw [if_neg h1]
    by_cases h2 : l = k
    · rw [if_pos h2, cnt_congr (g := fun p => decide (p < j)) (fun p _ => decide_eq_decide.2 (by omega)), cnt_lt]; omega
    · rw [if_neg h2]; exact cnt_none (fun p _ => by simp; omega)

theorem hA_cnt0 {E k j SZ : Nat} (l : Nat) (hE : E ≤ SZ) (hj : j ≤ SZ) : lineCnt (hA E k j) 0 SZ l = SZ - inLine E k j l := by
  have h1 := hA_cnt1 (k := k) (E := E) (j := j) l hE hj
  unfold lineCnt at *
  rw [cnt_congr (g := fun p => !(hA E k j l p == 1)) (fun p _ => by rw [hA_nil, hA_one])]
  have h2 := cnt_not (fun p => hA E k j l p == 1) SZ
  rw [h1] at h2
  omega

/-- The least quorum is one. -/
theorem least_is {CN SZ E A : Nat} (h1 : A ≤ CN) (h2 : E ≤ SZ) : A ≤ fullOf (hA E A 0) 1 SZ E CN := by
  have := full_ge (hA E A 0) 1 SZ E A CN h1 (fun l hl => by rw [hA_cnt1 l h2 (by omega)]; simp [inLine, hl])
  exact Int.ofNat_le.1 this
/-- Without its last node it is none. -/
theorem least_not {CN SZ E A : Nat} (h1 : A ≤ CN) (h2 : E ≤ SZ) (hA1 : 1 ≤ A) (hE1 : 1 ≤ E) : ¬ A ≤ fullOf (hA E (A - 1) (E - 1)) 1 SZ E CN := by
  have : fullOf (hA E (A - 1) (E - 1)) 1 SZ E CN = cnt (fun l => decide (l < A - 1)) CN := by
    unfold fullOf
    refine cnt_congr (fun l _ => decide_eq_decide.2 ?_)
    rw [hA_cnt1 l h2 (by omega)]
    unfold inLine
    split
    · omega
    · split <;> omega
  rw [this, cnt_lt]; omega
/-- The adversary's failures leave no quorum. -/
theorem block_not {CN SZ per lines : Nat} (h1 : 1 ≤ lines) (h2 : lines ≤ CN) (h3 : 1 ≤ per) (h4 : per ≤ SZ) : ¬ lines ≤ fullOf (hA (SZ - per + 1) (CN - lines + 1) 0) 0 SZ per CN := by
  have : fullOf (hA (SZ - per + 1) (CN - lines + 1) 0) 0 SZ per CN = cnt (fun l => decide (CN - lines + 1 ≤ l)) CN := by
    unfold fullOf
    refine cnt_congr (fun l _ => decide_eq_decide.2 ?_)
    rw [hA_cnt0 l (by omega) (by omega)]
    unfold inLine
    split
    · omega
    · split <;> omega
  rw [this, cnt_ge]; omega
/-- With the last one restored they leave one. -/
theorem block_is {CN SZ per lines : Nat} (h1 : 1 ≤ lines) (h2 : lines ≤ CN) (h3 : 1 ≤ per) (h4 : per ≤ SZ) : lines ≤ fullOf (hA (SZ - per + 1) (CN - lines) (SZ - per)) 0 SZ per CN := by
  have : fullOf (hA (SZ - per + 1) (CN - lines) (SZ - per)) 0 SZ per CN = cnt (fun l => decide (CN - lines ≤ l)) CN := by
    unfold fullOf
    refine cnt_congr (fun l _ => decide_eq_decide.2 ?_)
    rw [hA_cnt0 l (by omega) (by omega)]
    unfold inLine
    split
    · omega
    · split <;> omega
  rw [this, cnt_ge]; omega

/-! ### The marks counted along the array -/
def gAt (C : Nat) (b : Bool) (H : Nat → Nat → Int) (i : Nat) : Int := if b then H (i % C) (i / C) else H (i / C) (i % C)

theorem Lined.at {c : Array Value} {R C : Nat} {b : Bool} {CN SZ : Nat} {H : Nat → Nat → Int} (h : Lined c C b CN SZ H) (hC : 0 < C) (hCN : CN = if b then C else R) (hSZ : SZ = if b then R else C) {i : Nat} (hi : i < R * C) :
    c[i]? = some (.int .u8 (gAt C b H i)) := by
  have h1 : i / C < R := Nat.div_lt_of_lt_mul (by rw [Nat.mul_comm]; exact hi)
  have h2 : i % C < C := Nat.mod_lt _ hC
  have h3 : i / C * C + i % C = i := by rw [Nat.mul_comm]; exact Nat.div_add_mod i C
  cases b
  · simp at hCN hSZ
    have := h (i / C) (i % C) (by omega) (by omega)
    simp only [cellOf, Bool.false_eq_true, if_false] at this
    rw [h3] at this
    simpa [gAt] using this
  · simp at hCN hSZ
    have := h (i % C) (i / C) (by omega) (by omega)
    simp only [cellOf, if_true] at this
    rw [h3] at this
    simpa [gAt] using this

theorem cnt_rows (f : Nat → Bool) (C a d R : Nat) (haR : a ≤ R) (hd : d ≤ C) (h : ∀ i j, i < R → j < C → f (i * C + j) = (decide (i < a) && decide (j < d))) : cnt f (R * C) = a * d := by
  have key : ∀ k, k ≤ R → cnt f (k * C) = min k a * d := by
    intro k hk
    induction k with
    | zero => simp [cnt]
    | succ k ih =>
      rw [Nat.succ_mul, cnt_add, ih (by omega), cnt_congr (g := fun j => decide (k < a) && decide (j < d)) (fun j hj => h k j (by omega) hj)]
      by_cases hka : k < a
      · simp only [hka, decide_true, Bool.true_and]
        rw [cnt_lt]
        have e1 : min k a = k := by omega
        have e2 : min (k + 1) a = k + 1 := by omega
        rw [e1, e2, Nat.succ_mul]
        omega
      · simp only [hka, decide_false, Bool.false_and]
        rw [cnt_none (fun _ _ => rfl)]
        have e1 : min k a = a := by omega
        have e2 : min (k + 1) a = a := by omega
        rw [e1, e2]; rfl
  rw [key R (Nat.le_refl _)]
  have : min R a = a := by omega
  rw [this]

theorem gAt_cnt {R C : Nat} {b : Bool} {CN SZ E A : Nat} (hC : 0 < C) (hCN : CN = if b then C else R) (hSZ : SZ = if b then R else C) (h1 : A ≤ CN) (h2 : E ≤ SZ) :
    cnt (fun i => gAt C b (hA E A 0) i == 1) (R * C) = A * E := by
  have hd : ∀ i j, j < C → (i * C + j) / C = i ∧ (i * C + j) % C = j := fun i j hj => by
    rw [Nat.mul_comm, Nat.mul_add_div hC, Nat.div_eq_of_lt hj, Nat.mul_add_mod, Nat.mod_eq_of_lt hj]; exact ⟨rfl, rfl⟩
  cases b
  · simp at hCN hSZ
    refine cnt_rows _ C A E R (by omega) (by omega) (fun i j hi hj => ?_)
    obtain ⟨e1, e2⟩ := hd i j hj
    simp only [gAt, Bool.false_eq_true, if_false, e1, e2]
    rw [hA_one, Bool.eq_iff_iff]; simp
  · simp at hCN hSZ
    rw [Nat.mul_comm A E]
    refine cnt_rows _ C E A R (by omega) (by omega) (fun i j hi hj => ?_)
    obtain ⟨e1, e2⟩ := hd i j hj
    simp only [gAt, if_true, e1, e2]
    rw [hA_one, Bool.eq_iff_iff]; simp; omega

/-- The last mark is wiped out. -/
theorem hA_wipe {E A CN SZ : Nat} (hA1 : 1 ≤ A) (hE1 : 1 ≤ E) : ∀ l p, l < CN → p < SZ → hA E (A - 1) (E - 1) l p = if l = A - 1 ∧ p = E - 1 then 0 else hA E A 0 l p := by
  intro l p _ _
  unfold hA
  by_cases h1 : l = A - 1 ∧ p = E - 1
  · rw [if_pos h1, if_neg (by omega)]
  · rw [if_neg h1]
    by_cases h2 : (l < A ∧ p < E) ∨ (l = A ∧ p < 0)
    · rw [if_pos h2, if_pos (by omega)]
    · rw [if_neg h2, if_neg (by omega)]

/-- Which place was marked last. -/
def lastAt (C : Nat) (b : Bool) (E k j : Nat) : Int := if j = 0 then (if k = 0 then -1 else (cellOf C b (k - 1) (E - 1) : Nat)) else (cellOf C b k (j - 1) : Nat)
theorem lastAt_succ (C : Nat) (b : Bool) (E k j : Nat) : lastAt C b E k (j + 1) = (cellOf C b k j : Nat) := by simp [lastAt]
theorem lastAt_line (C : Nat) (b : Bool) (E k : Nat) (hE : 1 ≤ E) : lastAt C b E k E = lastAt C b E (k + 1) 0 := by
  have : ¬ E = 0 := by omega
  simp [lastAt, this]
theorem lastAt_end (C : Nat) (b : Bool) (E A : Nat) (hA1 : 1 ≤ A) : lastAt C b E A 0 = (cellOf C b (A - 1) (E - 1) : Nat) := by
  have : ¬ A = 0 := by omega
  simp [lastAt, this]
end Go.Proofs.Qxb6600769a
