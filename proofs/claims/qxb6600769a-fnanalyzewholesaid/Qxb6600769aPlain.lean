import Derived.Test.Qxb6600769aDesignD
namespace Go.Proofs.Qxb6600769a
open Go.RowKit

theorem crossHalf (a b R r C c : Int) (hR : 1 ≤ R) (hRa : R ≤ a) (hrb : r ≤ b) (hC : 1 ≤ C) (hca : c ≤ a)
   (h : R * C < R * (r - (b - C)) + C * (c - (a - R))) : (a - R + 1) * (b - r + 1) ≤ c * C := by
  have hx : 1 ≤ r - (b - C) := by
    by_cases hx : 1 ≤ r - (b - C)
    · exact hx
    · have h1 : 0 ≤ R * (0 - (r - (b - C))) := Int.mul_nonneg (by omega) (by omega)
      have h2 : 0 ≤ C * (a - c) := Int.mul_nonneg (by omega) (by omega)
      grind
  have h1 : 0 ≤ (r - (b - C) - 1) * (a - R) := Int.mul_nonneg (by omega) (by omega)
  have h2 : 0 ≤ (b - r) * (R - 1) := Int.mul_nonneg (by omega) (by omega)
  grind
theorem crossBoth (a b R r C c : Int) (hR : 1 ≤ R) (hRa : R ≤ a) (hrb : r ≤ b) (hC : 1 ≤ C) (hCb : C ≤ b) (hca : c ≤ a)
   (h : R * C < R * (r - (b - C)) + C * (c - (a - R))) : (a - R + 1) * (b - r + 1) ≤ c * C ∧ (b - C + 1) * (a - c + 1) ≤ r * R := by
  refine ⟨crossHalf a b R r C c hR hRa hrb hC hca h, crossHalf b a C c R r hC hCb hca hR hrb ?_⟩
  grind

theorem oneRule (cnt siz p l : Int) (hl : 1 ≤ l) (hlc : l ≤ cnt) (hp : 1 ≤ p) (hps : p ≤ siz) :
   1 ≤ p * l ∧ p * l ≤ cnt * siz ∧ 1 ≤ (cnt - l + 1) * (siz - p + 1) ∧ (cnt - l + 1) * (siz - p + 1) ≤ cnt * siz - p * l + 1 := by
  obtain ⟨x, hx, rfl⟩ : ∃ x, 0 ≤ x ∧ cnt = l + x := ⟨cnt - l, by omega, by omega⟩
  obtain ⟨y, hy, rfl⟩ : ∃ y, 0 ≤ y ∧ siz = p + y := ⟨siz - p, by omega, by omega⟩
  have h1 : 0 ≤ (p-1) * (l-1) := Int.mul_nonneg (by omega) (by omega)
  have h2 : 0 ≤ (l-1) * y := Int.mul_nonneg (by omega) (by omega)
  have h3 : 0 ≤ x * (p-1) := Int.mul_nonneg (by omega) (by omega)
  have h4 : 0 ≤ x * y := Int.mul_nonneg (by omega) (by omega)
  grind

theorem sameBoth (cnt siz l1 p1 l2 p2 : Int) (h2 : l1 ≤ cnt) (h4 : p1 ≤ siz) (h5 : cnt < l1 + l2) (h6 : siz < p1 + p2) :
   (cnt - l1 + 1) * (siz - p1 + 1) ≤ p2 * l2 := by
  have : (cnt - l1 + 1) * (siz - p1 + 1) ≤ l2 * p2 := Int.mul_le_mul (by omega) (by omega) (by omega) (by omega)
  rw [Int.mul_comm p2 l2]; exact this

theorem w64 {n : Int} (h1 : -1000000000000000000 ≤ n) (h2 : n ≤ 1000000000000000000) : wrap64 n = n := by unfold wrap64; omega

def cntOf (r c : Int) (b : Bool) : Int := if b then c else r
def sizOf (r c : Int) (b : Bool) : Int := if b then r else c
def bbP (r c : Int) (b : Bool) (p l : Int) : Int := (cntOf r c b - l + 1) * (sizOf r c b - p + 1)
def crossP (r c pp pl qp ql : Int) : Bool := decide (pl * ql < pl * (pp - (c - ql)) + ql * (qp - (r - pl)))
def isectP (r c : Int) (b1 : Bool) (p1 l1 : Int) (b2 : Bool) (p2 l2 : Int) : Bool :=
  if b1 = b2 then decide (cntOf r c b1 < l1 + l2) && decide (sizOf r c b1 < p1 + p2)
  else if b1 then crossP r c p2 l2 p1 l1 else crossP r c p1 l1 p2 l2

/-- What a well-formed design says. -/
structure Fits (lim r c : Int) (b1 : Bool) (p1 l1 : Int) (b2 : Bool) (p2 l2 : Int) : Prop where
  r1 : 1 ≤ r
  c1 : 1 ≤ c
  rl : r ≤ lim
  cl : c ≤ lim
  rc : r * c ≤ lim
  a1 : 1 ≤ l1
  a2 : l1 ≤ cntOf r c b1
  a3 : 1 ≤ p1
  a4 : p1 ≤ sizOf r c b1
  e1 : 1 ≤ l2
  e2 : l2 ≤ cntOf r c b2
  e3 : 1 ≤ p2
  e4 : p2 ≤ sizOf r c b2

theorem ruleOK_iff (r c : Int) (b : Bool) (p l : Int) : ruleOK r c b p l = true ↔ (1 ≤ l ∧ l ≤ cntOf r c b ∧ 1 ≤ p ∧ p ≤ sizOf r c b) := by
  unfold ruleOK cntOf sizOf; rw [decide_eq_true_eq]

theorem fits_of {lim r c : Int} {b1 : Bool} {p1 l1 : Int} {b2 : Bool} {p2 l2 : Int} (h : designOK lim r c b1 p1 l1 b2 p2 l2 = true) : Fits lim r c b1 p1 l1 b2 p2 l2 := by
  unfold designOK at h
  rw [Bool.and_eq_true, Bool.and_eq_true, decide_eq_true_eq, ruleOK_iff, ruleOK_iff] at h
  obtain ⟨⟨⟨g1, g2, g3, g4, g5⟩, k1, k2, k3, k4⟩, m1, m2, m3, m4⟩ := h
  exact ⟨g1, g2, g3, g4, (Int.le_ediv_iff_mul_le (by omega)).1 g5, k1, k2, k3, k4, m1, m2, m3, m4⟩

section
variable {lim r c : Int} {b1 : Bool} {p1 l1 : Int} {b2 : Bool} {p2 l2 : Int}

theorem cs_prod (b : Bool) : cntOf r c b * sizOf r c b = r * c := by
  cases b <;> simp [cntOf, sizOf]
  exact Int.mul_comm _ _
theorem Fits.cs (h : Fits lim r c b1 p1 l1 b2 p2 l2) (b : Bool) : 1 ≤ cntOf r c b ∧ cntOf r c b ≤ lim ∧ 1 ≤ sizOf r c b ∧ sizOf r c b ≤ lim := by
  have := h.r1; have := h.c1; have := h.rl; have := h.cl
  cases b <;> simp [cntOf, sizOf] <;> omega

theorem bbOf_eq (b : Bool) (p l : Int) (hl : lim ≤ 1000000000) (h : Fits lim r c b1 p1 l1 b2 p2 l2) (k1 : 1 ≤ l) (k2 : l ≤ cntOf r c b) (k3 : 1 ≤ p) (k4 : p ≤ sizOf r c b) :
    bbOf r c b p l = bbP r c b p l := by
  obtain ⟨c1, c2, c3, c4⟩ := h.cs b
  obtain ⟨o1, o2, o3, o4⟩ := oneRule (cntOf r c b) (sizOf r c b) p l k1 k2 k3 k4
  have hrc := h.rc
  rw [cs_prod] at o2 o4
  show wrap64 (wrap64 (wrap64 (cntOf r c b - l) + 1) * wrap64 (wrap64 (sizOf r c b - p) + 1)) = _
  unfold bbP
  rw [w64 (n := cntOf r c b - l) (by omega) (by omega), w64 (n := cntOf r c b - l + 1) (by omega) (by omega), w64 (n := sizOf r c b - p) (by omega) (by omega), w64 (n := sizOf r c b - p + 1) (by omega) (by omega), w64 (by omega) (by omega)]

theorem small_mul {a b m : Int} (hm : 0 ≤ m) (ha : 0 ≤ a) (ha' : a ≤ m) (hb : - m ≤ b) (hb' : b ≤ m) : - (m * m) ≤ a * b ∧ a * b ≤ m * m := by
  have h1 : 0 ≤ (m - a) * (m + b) := Int.mul_nonneg (by omega) (by omega)
  have h2 : 0 ≤ (m - a) * (m - b) := Int.mul_nonneg (by omega) (by omega)
  have h3 : 0 ≤ a * (m + b) := Int.mul_nonneg (by omega) (by omega)
  have h4 : 0 ≤ a * (m - b) := Int.mul_nonneg (by omega) (by omega)
  have h5 : 0 ≤ (m - a) * m := Int.mul_nonneg (by omega) (by omega)
  constructor <;> grind

theorem crossX_eq (pp pl qp ql : Int) (hlim : lim ≤ 536870912) (h1 : 1 ≤ r) (h2 : r ≤ lim) (h3 : 1 ≤ c) (h4 : c ≤ lim) (k1 : 1 ≤ pl) (k2 : pl ≤ r) (k3 : 1 ≤ pp) (k4 : pp ≤ c)
    (m1 : 1 ≤ ql) (m2 : ql ≤ c) (m3 : 1 ≤ qp) (m4 : qp ≤ r) : isectX r c pp pl qp ql = crossP r c pp pl qp ql := by
  unfold isectX crossP
  have g1 := small_mul (a := pl) (b := pp - (c - ql)) (m := 536870912) (by omega) (by omega) (by omega) (by omega) (by omega)
  have g2 := small_mul (a := ql) (b := qp - (r - pl)) (m := 536870912) (by omega) (by omega) (by omega) (by omega) (by omega)
  have g3 := small_mul (a := pl) (b := ql) (m := 536870912) (by omega) (by omega) (by omega) (by omega) (by omega)
  rw [w64 (n := c - ql) (by omega) (by omega), w64 (n := pp - (c - ql)) (by omega) (by omega), w64 (n := r - pl) (by omega) (by omega), w64 (n := qp - (r - pl)) (by omega) (by omega),
    w64 (n := pl * ql) (by omega) (by omega), w64 (n := pl * (pp - (c - ql))) (by omega) (by omega), w64 (n := ql * (qp - (r - pl))) (by omega) (by omega), w64 (by omega) (by omega)]

theorem isect_eq (hlim : lim ≤ 536870912) (h : Fits lim r c b1 p1 l1 b2 p2 l2) : isect r c b1 p1 l1 b2 p2 l2 = isectP r c b1 p1 l1 b2 p2 l2 := by
  have := h.r1; have := h.c1; have := h.rl; have := h.cl
  have h1 := h.a1; have h2 := h.a2; have h3 := h.a3; have h4 := h.a4; have h5 := h.e1; have h6 := h.e2; have h7 := h.e3; have h8 := h.e4
  have hc1 := h.cs b1; have hc2 := h.cs b2
  by_cases hb : b1 = b2
  · have e1 : wrap64 (l1 + l2) = l1 + l2 := w64 (by omega) (by omega)
    have e2 : wrap64 (p1 + p2) = p1 + p2 := w64 (by omega) (by omega)
    unfold isect isectP
    rw [if_pos hb, if_pos hb, e1, e2]; rfl
  · unfold isect isectP
    rw [if_neg hb, if_neg hb]
    cases b1
    · cases b2
      · exact absurd rfl hb
      · simp [cntOf, sizOf] at *
        exact crossX_eq _ _ _ _ hlim (by omega) (by omega) (by omega) (by omega) (by omega) (by omega) (by omega) (by omega) (by omega) (by omega) (by omega) (by omega)
    · cases b2
      · simp [cntOf, sizOf] at *
        exact crossX_eq _ _ _ _ hlim (by omega) (by omega) (by omega) (by omega) (by omega) (by omega) (by omega) (by omega) (by omega) (by omega) (by omega) (by omega)
      · exact absurd rfl hb

theorem isect_blocks (h : Fits lim r c b1 p1 l1 b2 p2 l2) (hi : isectP r c b1 p1 l1 b2 p2 l2 = true) : bbP r c b1 p1 l1 ≤ p2 * l2 ∧ bbP r c b2 p2 l2 ≤ p1 * l1 := by
  have h1 := h.a1; have h2 := h.a2; have h3 := h.a3; have h4 := h.a4; have h5 := h.e1; have h6 := h.e2; have h7 := h.e3; have h8 := h.e4
  unfold isectP at hi
  by_cases hb : b1 = b2
  · subst hb
    simp at hi
    exact ⟨sameBoth _ _ _ _ _ _ h2 h4 hi.1 hi.2, sameBoth _ _ _ _ _ _ h6 h8 (by omega) (by omega)⟩
  · rw [if_neg hb] at hi
    unfold bbP
    cases b1
    · cases b2
      · exact absurd rfl hb
      · simp [cntOf, sizOf, crossP] at *
        exact crossBoth r c l1 p1 l2 p2 h1 h2 h4 h5 h6 h8 hi
    · cases b2
      · simp [cntOf, sizOf, crossP] at *
        exact (crossBoth r c l2 p2 l1 p1 h5 h6 h8 h1 h2 h4 hi).symm
      · exact absurd rfl hb
end
end Go.Proofs.Qxb6600769a
