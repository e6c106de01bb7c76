import Derived.Test.Qxb6600769aDesignB
import Derived.RegionTactic
import Derived.BigRegion
namespace Go.Proofs.Qxb6600769a
open Go.RowKit

def isectX (r c pp pl qp ql : Int) : Bool :=
  decide (wrap64 (pl * ql) < wrap64 (wrap64 (pl * wrap64 (pp - wrap64 (c - ql))) + wrap64 (ql * wrap64 (qp - wrap64 (r - pl)))))

def isect (r c : Int) (b1 : Bool) (p1 l1 : Int) (b2 : Bool) (p2 l2 : Int) : Bool :=
  if b1 = b2 then decide ((if b1 then c else r) < wrap64 (l1 + l2)) && decide ((if b1 then r else c) < wrap64 (p1 + p2))
  else if b1 then isectX r c p2 l2 p1 l1 else isectX r c p1 l1 p2 l2

theorem below_call {B : Nat} {w W w' : World} (hb : Below W.heap.size W w') (h : Below B w W) (hB : B ≤ W.heap.size := by simp; try omega) : Below B w w' :=
  h.trans (hb.mono hB)

set_option maxHeartbeats 1000000 in
theorem isect_ff (s r c : Int) (p1 l1 : Int) (p2 l2 : Int) (w : World) :
    Calls Try.prog 34 #[.agg #[.int .u8 s, .int .i64 r, .int .i64 c, .bool false, .int .i64 p1, .int .i64 l1, .bool false, .int .i64 p2, .int .i64 l2, .bool false]] w fun e w' =>
      e = .returned (.bool (isect r c false p1 l1 false p2 l2)) ∧ Below w.heap.size w w' := by
  by_cases h1 : r < wrap64 (l1 + l2)
  · go_enter Try.func34, Try.ntmps34
    go_wp2
    go_region
    all_goals
      go_wp2_with (first | (go_at_call 43; refine (lines_any _ _ _ _ _ _ _ _ _ _ _ _ _).mono ?_; rintro e w' ⟨rfl, hb⟩; obtain ⟨hc, hf⟩ := bcell hb))
      go_ret
      exact ⟨by simp [isect, h1], below_call hb (by repeat (first | exact Below.refl _ _ | apply Below.drew | (refine Below.alloc ?_ (by simp; try omega) _)))⟩
  · go_enter Try.func34, Try.ntmps34
    go_wp2
    go_region
    all_goals
      go_wp2_with (first | (go_at_call 43; refine (lines_any _ _ _ _ _ _ _ _ _ _ _ _ _).mono ?_; rintro e w' ⟨rfl, hb⟩; obtain ⟨hc, hf⟩ := bcell hb))
      go_ret
      exact ⟨by simp [isect]; omega, below_call hb (by repeat (first | exact Below.refl _ _ | apply Below.drew | (refine Below.alloc ?_ (by simp; try omega) _)))⟩

set_option maxHeartbeats 1000000 in
theorem isect_tt (s r c : Int) (p1 l1 : Int) (p2 l2 : Int) (w : World) :
    Calls Try.prog 34 #[.agg #[.int .u8 s, .int .i64 r, .int .i64 c, .bool true, .int .i64 p1, .int .i64 l1, .bool true, .int .i64 p2, .int .i64 l2, .bool false]] w fun e w' =>
      e = .returned (.bool (isect r c true p1 l1 true p2 l2)) ∧ Below w.heap.size w w' := by
  by_cases h1 : c < wrap64 (l1 + l2)
  · go_enter Try.func34, Try.ntmps34
    go_wp2
    go_region
    all_goals
      go_wp2_with (first | (go_at_call 43; refine (lines_any _ _ _ _ _ _ _ _ _ _ _ _ _).mono ?_; rintro e w' ⟨rfl, hb⟩; obtain ⟨hc, hf⟩ := bcell hb))
      go_ret
      exact ⟨by simp [isect, h1], below_call hb (by repeat (first | exact Below.refl _ _ | apply Below.drew | (refine Below.alloc ?_ (by simp; try omega) _)))⟩
  · go_enter Try.func34, Try.ntmps34
    go_wp2
    go_region
    all_goals
      go_wp2_with (first | (go_at_call 43; refine (lines_any _ _ _ _ _ _ _ _ _ _ _ _ _).mono ?_; rintro e w' ⟨rfl, hb⟩; obtain ⟨hc, hf⟩ := bcell hb))
      go_ret
      exact ⟨by simp [isect]; omega, below_call hb (by repeat (first | exact Below.refl _ _ | apply Below.drew | (refine Below.alloc ?_ (by simp; try omega) _)))⟩

set_option maxHeartbeats 1000000 in
theorem isect_ft (s r c : Int) (p1 l1 : Int) (p2 l2 : Int) (w : World) :
    Calls Try.prog 34 #[.agg #[.int .u8 s, .int .i64 r, .int .i64 c, .bool false, .int .i64 p1, .int .i64 l1, .bool true, .int .i64 p2, .int .i64 l2, .bool false]] w fun e w' =>
      e = .returned (.bool (isect r c false p1 l1 true p2 l2)) ∧ Below w.heap.size w w' := by
  go_enter Try.func34, Try.ntmps34
  go_wp2
  go_region
  all_goals
    go_wp2
    go_ret
    exact ⟨by simp [isect, isectX], by repeat (first | exact Below.refl _ _ | apply Below.drew | (refine Below.alloc ?_ (by simp; try omega) _))⟩

set_option maxHeartbeats 1000000 in
theorem isect_tf (s r c : Int) (p1 l1 : Int) (p2 l2 : Int) (w : World) :
    Calls Try.prog 34 #[.agg #[.int .u8 s, .int .i64 r, .int .i64 c, .bool true, .int .i64 p1, .int .i64 l1, .bool false, .int .i64 p2, .int .i64 l2, .bool false]] w fun e w' =>
      e = .returned (.bool (isect r c true p1 l1 false p2 l2)) ∧ Below w.heap.size w w' := by
  go_enter Try.func34, Try.ntmps34
  go_wp2
  go_region
  all_goals
    go_wp2
    go_ret
    exact ⟨by simp [isect, isectX], by repeat (first | exact Below.refl _ _ | apply Below.drew | (refine Below.alloc ?_ (by simp; try omega) _))⟩

theorem isect_any (s r c : Int) (b1 : Bool) (p1 l1 : Int) (b2 : Bool) (p2 l2 : Int) (w : World) :
    Calls Try.prog 34 #[.agg #[.int .u8 s, .int .i64 r, .int .i64 c, .bool b1, .int .i64 p1, .int .i64 l1, .bool b2, .int .i64 p2, .int .i64 l2, .bool false]] w fun e w' =>
      e = .returned (.bool (isect r c b1 p1 l1 b2 p2 l2)) ∧ Below w.heap.size w w' := by
  cases b1 <;> cases b2
  · exact isect_ff s r c p1 l1 p2 l2 w
  · exact isect_ft s r c p1 l1 p2 l2 w
  · exact isect_tf s r c p1 l1 p2 l2 w
  · exact isect_tt s r c p1 l1 p2 l2 w
end Go.Proofs.Qxb6600769a
