import Derived.Test.Qxb6600769aCount
namespace Go.Proofs.Qxb6600769a
set_option linter.unusedVariables false

def lineCnt (H : Nat → Nat → Int) (who : Int) (size l : Nat) : Nat := cnt (fun p => H l p == who) size
def fullOf (H : Nat → Nat → Int) (who : Int) (size : Nat) (per : Int) (count : Nat) : Nat := cnt (fun l => decide (per ≤ (lineCnt H who size l : Int))) count

/-- The grid behind the second rule's turn: what was taken stays; in the lines lo .. t-1 (and of line t the places from m on) a free place is taken where fewer than bP free places lie above it. -/
def bRes (occ : Nat → Nat → Bool) (w1 w2 : Int) (lo SZ bP t m : Nat) (l p : Nat) : Int :=
  if occ l p then w1 else if lo ≤ l ∧ (l < t ∨ (l = t ∧ m ≤ p)) ∧ cntFrom (fun q => !occ l q) (p + 1) SZ < bP then w2 else 0

theorem bRes_w1 (occ : Nat → Nat → Bool) {w1 w2 : Int} (lo SZ bP t m l p : Nat) (h12 : w1 ≠ w2) (h1 : w1 ≠ 0) : (bRes occ w1 w2 lo SZ bP t m l p == w1) = occ l p := by
  unfold bRes
  cases occ l p
  · simp only [Bool.false_eq_true, if_false, beq_eq_false_iff_ne]
    split
    · exact fun h => h12 h.symm
    · exact fun h => h1 h.symm
  · simp

theorem bRes_w2 (occ : Nat → Nat → Bool) {w1 w2 : Int} (lo SZ bP t m l p : Nat) (h12 : w1 ≠ w2) (h2 : w2 ≠ 0) (hl : l < t) :
    (bRes occ w1 w2 lo SZ bP t m l p == w2) = (decide (lo ≤ l) && (!occ l p && decide (cntFrom (fun q => !occ l q) (p + 1) SZ < bP))) := by
  unfold bRes
  cases occ l p
  · by_cases h1 : lo ≤ l
    · by_cases h3 : cntFrom (fun q => !occ l q) (p + 1) SZ < bP
      · simp [h1, h3, hl]
      · simp [h1, h3, hl]; exact fun h => h2 h.symm
    · simp [h1]; exact fun h => h2 h.symm
  · simp [h12]

theorem line_w1 (occ : Nat → Nat → Bool) {w1 w2 : Int} (lo SZ bP t m l : Nat) (h12 : w1 ≠ w2) (h1 : w1 ≠ 0) : lineCnt (bRes occ w1 w2 lo SZ bP t m) w1 SZ l = cnt (occ l) SZ :=
  cnt_congr (fun i _ => bRes_w1 occ lo SZ bP t m l i h12 h1)

theorem line_w2 (occ : Nat → Nat → Bool) {w1 w2 : Int} (lo SZ bP t m l : Nat) (h12 : w1 ≠ w2) (h2 : w2 ≠ 0) (hl : l < t) :
    lineCnt (bRes occ w1 w2 lo SZ bP t m) w2 SZ l = if lo ≤ l then min (SZ - cnt (occ l) SZ) bP else 0 := by
  unfold lineCnt
  rw [cnt_congr (g := fun p => decide (lo ≤ l) && (!occ l p && decide (cntFrom (fun q => !occ l q) (p + 1) SZ < bP))) (fun i _ => bRes_w2 occ lo SZ bP t m l i h12 h2 hl)]
  by_cases h : lo ≤ l
  · simp only [h, decide_true, Bool.true_and, if_true]
    have h3 := cnt_rank (fun q => !occ l q) bP SZ 0 (Nat.zero_le _)
    rw [cntFrom_zero, cntFrom_zero] at h3
    rw [h3]
    have h4 := cnt_not (occ l) SZ
    have h5 : cnt (fun q => !occ l q) SZ = SZ - cnt (occ l) SZ := by omega
    rw [h5]
  · simp only [h, decide_false, Bool.false_and, if_false]
    exact cnt_none (fun _ _ => rfl)

theorem full_w2_iff (occ : Nat → Nat → Bool) {w1 w2 : Int} (CN SZ bP bL m : Nat) (h12 : w1 ≠ w2) (h2 : w2 ≠ 0) (hbP : 1 ≤ bP) (hbL : bL ≤ CN) :
    ((bL : Int) ≤ (fullOf (bRes occ w1 w2 (CN - bL) SZ bP CN m) w2 SZ bP CN : Int)) ↔ ∀ l, CN - bL ≤ l → l < CN → cnt (occ l) SZ + bP ≤ SZ := by
  have h3 : fullOf (bRes occ w1 w2 (CN - bL) SZ bP CN m) w2 SZ bP CN = cnt (fun l => decide (CN - bL ≤ l) && decide (cnt (occ l) SZ + bP ≤ SZ)) CN := by
    unfold fullOf
    refine cnt_congr (fun l hl => ?_)
    rw [line_w2 occ (CN - bL) SZ bP CN m l h12 h2 hl, Bool.eq_iff_iff]
    by_cases h : CN - bL ≤ l
    · simp [h]; omega
    · simp [h]; omega
  rw [h3]
  have h4 := cnt_full (f := fun l => decide (cnt (occ l) SZ + bP ≤ SZ)) (lo := CN - bL) (n := CN) (by omega)
  have h5 : CN - (CN - bL) = bL := by omega
  rw [h5] at h4
  constructor
  · intro h l ha hb
    have := h4.1 (by omega) l ha hb
    simpa using this
  · intro h
    have := h4.2 (fun l ha hb => by simpa using h l ha hb)
    omega

theorem full_ge (H : Nat → Nat → Int) (who : Int) (SZ aP aL CN : Nat) (haL : aL ≤ CN) (h : ∀ l, l < aL → aP ≤ lineCnt H who SZ l) : (aL : Int) ≤ (fullOf H who SZ aP CN : Int) := by
  have := cnt_ge_of (f := fun l => decide ((aP : Int) ≤ (lineCnt H who SZ l : Int))) haL (fun l hl => by
    have := h l hl
    simp; omega)
  unfold fullOf; omega

/-! ### Two rules over the same lines -/
def occS (aP aL : Nat) (l p : Nat) : Bool := decide (l < aL ∧ p < aP)
theorem occS_cnt {aP aL SZ : Nat} (l : Nat) (h : aP ≤ SZ) : cnt (occS aP aL l) SZ = if l < aL then aP else 0 := by
  by_cases hl : l < aL
  · rw [if_pos hl, cnt_congr (g := fun p => decide (p < aP)) (fun i _ => by simp [occS, hl]), cnt_lt]; omega
  · rw [if_neg hl]; exact cnt_none (fun i _ => by simp [occS, hl])

theorem same_law {CN SZ aP aL bP bL : Nat} (m : Nat) (a1 : 1 ≤ aL) (a2 : aL ≤ CN) (a3 : 1 ≤ aP) (a4 : aP ≤ SZ) (e1 : 1 ≤ bL) (e2 : bL ≤ CN) (e3 : 1 ≤ bP) (e4 : bP ≤ SZ) :
    decide ((bL : Int) ≤ (fullOf (bRes (occS aP aL) 1 2 (CN - bL) SZ bP CN m) 2 SZ bP CN : Int)) = !(decide (CN < aL + bL) && decide (SZ < aP + bP)) := by
  have h := full_w2_iff (occS aP aL) (w1 := 1) (w2 := 2) CN SZ bP bL m (by decide) (by decide) e3 e2
  rw [Bool.eq_iff_iff]
  simp only [decide_eq_true_eq, Bool.not_eq_true', Bool.and_eq_false_iff, decide_eq_false_iff_not]
  rw [h]
  constructor
  · intro hh
    by_cases hc : CN < aL + bL
    · right
      have := hh (CN - bL) (by omega) (by omega)
      rw [occS_cnt _ a4, if_pos (by omega)] at this
      omega
    · left; exact hc
  · intro hh l h1 h2
    rw [occS_cnt _ a4]
    split <;> omega

theorem same_first {CN SZ aP aL bP : Nat} (lo m : Nat) (a2 : aL ≤ CN) (a4 : aP ≤ SZ) :
    (aL : Int) ≤ (fullOf (bRes (occS aP aL) 1 2 lo SZ bP CN m) 1 SZ aP CN : Int) :=
  full_ge _ _ _ _ _ _ a2 (fun l hl => by rw [line_w1 _ _ _ _ _ _ _ (by decide) (by decide), occS_cnt _ a4, if_pos hl]; exact Nat.le_refl _)

/-! ### Rows against columns: line j is a column, place i a row -/
def rowMark (F M L need rL : Nat) (i j : Nat) : Bool := decide (i < rL) && (decide (j < M) || (decide (F ≤ j) && decide (0 < hits L (i * need) (j - F) need)))

theorem rowMark_cols {F M L need rL R : Nat} (j : Nat) (hM : M ≤ F) (hF : F ≤ j) (hrL : rL ≤ R) (hn : need ≤ L) : cnt (fun i => rowMark F M L need rL i j) R = cyc L (j - F) (rL * need) := by
  rw [← rows_hit L need (j - F) rL hn]
  obtain ⟨d, rfl⟩ := Nat.exists_eq_add_of_le hrL
  rw [cnt_add, cnt_none (f := fun i => rowMark F M L need rL (rL + i) j) (fun i _ => by
    have : ¬ rL + i < rL := by omega
    simp [rowMark, this])]
  have hj : ¬ j < M := by omega
  exact cnt_congr (fun i hi => by simp [rowMark, hi, hF, hj])

theorem rowMark_rows {F M L need rL : Nat} (i : Nat) (hi : i < rL) (hM : M ≤ F) (hn : need ≤ L) : cnt (fun j => rowMark F M L need rL i j) (F + L) = M + need := by
  rw [cnt_add]
  have h1 : cnt (fun j => rowMark F M L need rL i j) F = M := by
    rw [cnt_congr (g := fun p => decide (p < M)) (fun j hj => by
      have : ¬ F ≤ j := by omega
      simp [rowMark, hi, this]), cnt_lt]
    omega
  have h2 : cnt (fun j => rowMark F M L need rL i (F + j)) L = need := by
    rw [cnt_congr (g := fun s => decide (0 < hits L (i * need) s need)) (fun j hj => by
      have h3 : ¬ F + j < M := by omega
      have h4 : F + j - F = j := by omega
      simp [rowMark, hi, h3, h4]), cols_hit _ _ _ hn]
  omega

theorem mul_cross (rL rP L cP F R : Nat) (h4 : cP ≤ R) (h5 : rL ≤ R) :
    (rL * (rP - min F rP) ≤ L * (R - cP)) ↔ ¬ ((rL : Int) * L < rL * (rP - ((F + L : Nat) - L)) + L * (cP - (R - rL))) := by
  obtain ⟨u, rfl⟩ := Nat.exists_eq_add_of_le h4
  have e1 : cP + u - cP = u := by omega
  rw [e1]
  have e2 : (((F + L : Nat) : Int) - L) = F := by omega
  rw [e2]
  have e3 : (L : Int) * (cP - ((cP + u : Nat) - rL)) = L * rL - L * u := by
    have : ((cP : Int) - ((cP + u : Nat) - rL)) = rL - u := by omega
    rw [this, Int.mul_sub]
  rw [e3]
  by_cases h : F ≤ rP
  · obtain ⟨x, rfl⟩ := Nat.exists_eq_add_of_le h
    have e4 : F + x - min F (F + x) = x := by omega
    have e5 : (((F + x : Nat) : Int) - F) = x := by omega
    rw [e4, e5]
    have e6 : (L : Int) * rL = ((L * rL : Nat) : Int) := by simp
    have e7 : (L : Int) * u = ((L * u : Nat) : Int) := by simp
    have e8 : (rL : Int) * x = ((rL * x : Nat) : Int) := by simp
    have e9 : (rL : Int) * L = ((L * rL : Nat) : Int) := by rw [Nat.mul_comm]; simp
    rw [e6, e7, e8, e9]
    omega
  · have e4 : rP - min F rP = 0 := by omega
    rw [e4]
    have e5 : (rL : Int) * ((rP : Int) - F) ≤ 0 := Int.mul_nonpos_of_nonneg_of_nonpos (by omega) (by omega)
    have e6 : (L : Int) * rL = ((L * rL : Nat) : Int) := by simp
    have e7 : (L : Int) * u = ((L * u : Nat) : Int) := by simp
    have e9 : (rL : Int) * L = ((L * rL : Nat) : Int) := by rw [Nat.mul_comm]; simp
    rw [e6, e7, e9]
    simp only [Nat.mul_zero, Nat.zero_le, true_iff]
    omega

theorem cross_law {R F L rP rL cP : Nat} {wr wc : Int} (m : Nat) (hw : wr ≠ wc) (hc : wc ≠ 0) (a1 : 1 ≤ rL) (a2 : rL ≤ R) (a4 : rP ≤ F + L) (e1 : 1 ≤ L) (e3 : 1 ≤ cP) (e4 : cP ≤ R) :
    decide ((L : Int) ≤ (fullOf (bRes (fun j i => rowMark F (min F rP) L (rP - min F rP) rL i j) wr wc F R cP (F + L) m) wc R cP (F + L) : Int)) =
      !(decide ((rL : Int) * L < rL * (rP - ((F + L : Nat) - L)) + L * (cP - (R - rL)))) := by
  have h := full_w2_iff (fun j i => rowMark F (min F rP) L (rP - min F rP) rL i j) (w1 := wr) (w2 := wc) (F + L) R cP L m hw hc e3 (by omega)
  have e : F + L - L = F := by omega
  rw [e] at h
  rw [Bool.eq_iff_iff]
  simp only [decide_eq_true_eq, Bool.not_eq_true', decide_eq_false_iff_not]
  rw [h, ← mul_cross rL rP L cP F R e4 a2]
  constructor
  · intro hh
    have := hh F (Nat.le_refl _) (by omega)
    rw [rowMark_cols F (by omega) (Nat.le_refl _) a2 (by omega), Nat.sub_self] at this
    exact cyc_zero_le (by omega) (by omega)
  · intro hh j h1 h2
    rw [rowMark_cols j (by omega) h1 a2 (by omega)]
    have := cyc_le (L := L) (s := j - F) (by omega) hh
    omega

theorem cross_rows {R F L rP rL cP : Nat} {wr wc : Int} (lo t m : Nat) (hw : wr ≠ wc) (hr : wr ≠ 0) (a2 : rL ≤ R) (a4 : rP ≤ F + L) :
    (rL : Int) ≤ (fullOf (fun i j => bRes (fun j i => rowMark F (min F rP) L (rP - min F rP) rL i j) wr wc lo R cP t m j i) wr (F + L) rP R : Int) :=
  full_ge _ _ _ _ _ _ a2 (fun i hi => by
    unfold lineCnt
    rw [cnt_congr (g := fun j => rowMark F (min F rP) L (rP - min F rP) rL i j) (fun j _ => bRes_w1 _ _ _ _ _ _ j i hw hr), rowMark_rows i hi (by omega) (by omega)]
    omega)
end Go.Proofs.Qxb6600769a
