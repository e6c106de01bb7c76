import Derived.Test.Qxb6600769aCross
import Derived.Test.Qxb6600769aPlain
namespace Go.Proofs.Qxb6600769a
open Go.RowKit
set_option linter.unusedVariables false

theorem disjoint_nat (R C aP aL bP bL : Nat) (b1 b2 : Bool) (w : World) (hF : Fits 65536 R C b1 aP aL b2 bP bL) :
    Calls Try.prog 13 #[.int .i64 R, .int .i64 C, .bool b1, .int .i64 aP, .int .i64 aL, .bool b2, .int .i64 bP, .int .i64 bL] w fun e w' =>
      e = .returned (.bool !(isectP R C b1 aP aL b2 bP bL)) ∧ Below w.heap.size w w' := by
  have h1 := hF.r1; have h2 := hF.c1; have h3 := hF.rl; have h4 := hF.cl; have h5 := hF.rc
  have g1 := hF.a1; have g2 := hF.a2; have g3 := hF.a3; have g4 := hF.a4; have k1 := hF.e1; have k2 := hF.e2; have k3 := hF.e3; have k4 := hF.e4
  have hrc : R * C ≤ 65536 := by
    have : ((R * C : Nat) : Int) ≤ 65536 := by simpa using h5
    omega
  cases b1
  · cases b2
    · simp only [cntOf, sizOf, Bool.false_eq_true, if_false] at g2 g4 k2 k4
      have := disjoint_same R C R C aP aL bP bL false w hrc (by omega) (by omega) (by omega) (by omega) (by omega) (by omega) (by omega) (by omega) (by omega) (by omega) (by omega) (by omega) (by simp) (geom_f R C) (fun l p hl hp => idx_lt hl hp)
      refine this.mono ?_
      rintro e w' ⟨rfl, hb⟩
      refine ⟨ret_bool ?_, hb⟩
      simp only [isectP, if_true, cntOf, sizOf, Bool.false_eq_true, if_false]
      congr 2
      · exact decide_eq_decide.2 (by omega)
      · exact decide_eq_decide.2 (by omega)
    · simp only [cntOf, sizOf, Bool.false_eq_true, if_false, if_true] at g2 g4 k2 k4
      have := disjoint_rc R C (C - bL) bL (min (C - bL) aP) (aP - min (C - bL) aP) aP aL bP w hrc (by omega) (by omega) (by omega) (by omega) rfl (by omega) (by omega) (by omega) rfl (by omega) (by omega) (by omega) (by omega) (by omega) (by omega) (by omega) (by omega) (by omega)
      refine this.mono ?_
      rintro e w' ⟨rfl, hb⟩
      refine ⟨ret_bool ?_, hb⟩
      simp [isectP, crossP]
  · cases b2
    · simp only [cntOf, sizOf, Bool.false_eq_true, if_false, if_true] at g2 g4 k2 k4
      have := disjoint_cr R C (C - aL) aL (min (C - aL) bP) (bP - min (C - aL) bP) bP bL aP w hrc (by omega) (by omega) (by omega) (by omega) rfl (by omega) (by omega) (by omega) rfl (by omega) (by omega) (by omega) (by omega) (by omega) (by omega) (by omega) (by omega) (by omega)
      refine this.mono ?_
      rintro e w' ⟨rfl, hb⟩
      refine ⟨ret_bool ?_, hb⟩
      simp [isectP, crossP]
    · simp only [cntOf, sizOf, if_true] at g2 g4 k2 k4
      have := disjoint_same R C C R aP aL bP bL true w hrc (by omega) (by omega) (by omega) (by omega) (by omega) (by omega) (by omega) (by omega) (by omega) (by omega) (by omega) (by omega) (by simp) (geom_t R C) (fun l p hl hp => idx_lt hp hl)
      refine this.mono ?_
      rintro e w' ⟨rfl, hb⟩
      refine ⟨ret_bool ?_, hb⟩
      simp only [isectP, if_true, cntOf, sizOf]
      congr 2
      · exact decide_eq_decide.2 (by omega)
      · exact decide_eq_decide.2 (by omega)

theorem disjoint_any (r c : Int) (b1 : Bool) (p1 l1 : Int) (b2 : Bool) (p2 l2 : Int) (w : World) (hF : Fits 65536 r c b1 p1 l1 b2 p2 l2) :
    Calls Try.prog 13 #[.int .i64 r, .int .i64 c, .bool b1, .int .i64 p1, .int .i64 l1, .bool b2, .int .i64 p2, .int .i64 l2] w fun e w' =>
      e = .returned (.bool !(isectP r c b1 p1 l1 b2 p2 l2)) ∧ Below w.heap.size w w' := by
  have h1 := hF.r1; have h2 := hF.c1; have g1 := hF.a1; have g3 := hF.a3; have k1 := hF.e1; have k3 := hF.e3
  obtain ⟨R, rfl⟩ := Int.eq_ofNat_of_zero_le (show 0 ≤ r by omega)
  obtain ⟨C, rfl⟩ := Int.eq_ofNat_of_zero_le (show 0 ≤ c by omega)
  obtain ⟨P1, rfl⟩ := Int.eq_ofNat_of_zero_le (show 0 ≤ p1 by omega)
  obtain ⟨L1, rfl⟩ := Int.eq_ofNat_of_zero_le (show 0 ≤ l1 by omega)
  obtain ⟨P2, rfl⟩ := Int.eq_ofNat_of_zero_le (show 0 ≤ p2 by omega)
  obtain ⟨L2, rfl⟩ := Int.eq_ofNat_of_zero_le (show 0 ≤ l2 by omega)
  exact disjoint_nat R C P1 L1 P2 L2 b1 b2 w hF

theorem zzintersect_any (s r c : Int) (b1 : Bool) (p1 l1 : Int) (b2 : Bool) (p2 l2 : Int) (w : World) :
    Calls Try.prog 12 #[.agg #[.int .u8 s, .int .i64 r, .int .i64 c, .bool b1, .int .i64 p1, .int .i64 l1, .bool b2, .int .i64 p2, .int .i64 l2, .bool false]] w fun e w' =>
      e = .returned (.bool (isect r c b1 p1 l1 b2 p2 l2)) ∧ Below w.heap.size w w' := by
  go_enter Try.func12, Try.ntmps12
  go_wp2_with (first | (go_at_call 34; refine (isect_any _ _ _ _ _ _ _ _ _ _).mono ?_; rintro e w' ⟨rfl, hb⟩))
  go_ret
  exact ⟨rfl, below_call hb ((Below.refl _ _).alloc (Nat.le_refl _) _)⟩
end Go.Proofs.Qxb6600769a
