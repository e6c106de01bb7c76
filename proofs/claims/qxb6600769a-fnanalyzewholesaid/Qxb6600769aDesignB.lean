import Derived.Test.Qxb6600769aDesign
namespace Go.Proofs.Qxb6600769a
open Go.RowKit

def designOK (limit rows cols : Int) (b1 : Bool) (p1 l1 : Int) (b2 : Bool) (p2 l2 : Int) : Bool :=
  decide (1 ≤ rows ∧ 1 ≤ cols ∧ rows ≤ limit ∧ cols ≤ limit ∧ rows ≤ limit / cols) && ruleOK rows cols b1 p1 l1 && ruleOK rows cols b2 p2 l2

theorem designOK_any (lim r c : Int) (b1 : Bool) (p1 l1 : Int) (b2 : Bool) (p2 l2 : Int) (hl0 : 0 ≤ lim) (hl : lim ≤ 1000000000) (w : World) :
    Calls Try.prog 10 #[.int .i64 lim, .int .i64 r, .int .i64 c, .bool b1, .int .i64 p1, .int .i64 l1, .bool b2, .int .i64 p2, .int .i64 l2] w fun e w' =>
      e = .returned (.bool (designOK lim r c b1 p1 l1 b2 p2 l2)) ∧ w' = w := by
  by_cases h1 : r < 1
  · go_enter Try.func10, Try.ntmps10
    go_wp2
    go_ret
    exact ⟨by simp [designOK]; omega, rfl⟩
  by_cases h2 : c < 1
  · go_enter Try.func10, Try.ntmps10
    go_wp2
    go_ret
    exact ⟨by simp [designOK]; omega, rfl⟩
  by_cases h3 : lim < r
  · go_enter Try.func10, Try.ntmps10
    go_wp2
    go_ret
    exact ⟨by simp [designOK]; omega, rfl⟩
  by_cases h4 : lim < c
  · go_enter Try.func10, Try.ntmps10
    go_wp2
    go_ret
    exact ⟨by simp [designOK]; omega, rfl⟩
  by_cases h5 : lim / c < r
  · go_enter Try.func10, Try.ntmps10
    go_wp2
    go_ret
    exact ⟨by simp [designOK]; omega, rfl⟩
  have hd : decide (1 ≤ r ∧ 1 ≤ c ∧ r ≤ lim ∧ c ≤ lim ∧ r ≤ lim / c) = true := by simp; omega
  cases h6 : ruleOK r c b1 p1 l1
  · go_enter Try.func10, Try.ntmps10
    go_wp2_with (first | (go_at_call 14; refine (rule_any _ _ _ _ _ _).mono ?_; rintro e w' ⟨rfl, rfl⟩))
    go_ret
    exact ⟨by simp [designOK, h6], rfl⟩
  · have hr : designOK lim r c b1 p1 l1 b2 p2 l2 = ruleOK r c b2 p2 l2 := by simp only [designOK, hd, h6, Bool.true_and]
    rw [hr]
    go_enter Try.func10, Try.ntmps10
    go_wp2_with (first | (go_at_call 14; refine (rule_any _ _ _ _ _ _).mono ?_; rintro e w' ⟨rfl, rfl⟩))
    go_ret
    exact ⟨by simp, rfl⟩

def dz (s r c : Int) (b1 : Bool) (p1 l1 : Int) (b2 : Bool) (p2 l2 : Int) : Array Value :=
  #[.int .u8 s, .int .i64 r, .int .i64 c, .bool b1, .int .i64 p1, .int .i64 l1, .bool b2, .int .i64 p2, .int .i64 l2, .bool false]

theorem zzdesign_any (s r c : Int) (b1 : Bool) (p1 l1 : Int) (b2 : Bool) (p2 l2 : Int) (w : World) :
    Calls Try.prog 11 #[.int .u8 s, .int .i64 r, .int .i64 c, .bool b1, .int .i64 p1, .int .i64 l1, .bool b2, .int .i64 p2, .int .i64 l2] w fun e w' =>
      e = .returned (.agg #[.int .u8 s, .int .i64 r, .int .i64 c, .bool b1, .int .i64 p1, .int .i64 l1, .bool b2, .int .i64 p2, .int .i64 l2, .bool false]) ∧ Below w.heap.size w w' := by
  go_enter Try.func11, Try.ntmps11
  go_wp2
  exact bodyPost_ret (v := .agg #[.int .u8 s, .int .i64 r, .int .i64 c, .bool b1, .int .i64 p1, .int .i64 l1, .bool b2, .int .i64 p2, .int .i64 l2, .bool false]) (by simp [results, Try.results11, go_sem]) rfl ⟨rfl, (Below.refl _ _).alloc (Nat.le_refl _) _⟩

theorem bcell {W w1 : World} (hb : Below W.heap.size W w1) : (∀ b o, b < W.heap.size → w1.cell? ⟨b, o, none⟩ = W.cell? ⟨b, o, none⟩) ∧ (∀ b o, b < W.heap.size → w1.frozen? ⟨b, o, none⟩ = W.frozen? ⟨b, o, none⟩) :=
  ⟨fun b o h => hb.cell (p := ⟨b, o, none⟩) h, fun b o h => hb.frozen (p := ⟨b, o, none⟩) h⟩

theorem below_drewN {B : Nat} {a w : World} (h : Below B a w) (n : Nat) : Below B a (w.drewN n) := ⟨h.os, h.tape, h.output, h.size, h.block⟩

theorem lines_any (s r c : Int) (b1 : Bool) (p1 l1 : Int) (b2 : Bool) (p2 l2 : Int) (b : Bool) (p l : Int) (w : World) :
    Calls Try.prog 43 #[.agg #[.int .u8 s, .int .i64 r, .int .i64 c, .bool b1, .int .i64 p1, .int .i64 l1, .bool b2, .int .i64 p2, .int .i64 l2, .bool false], .agg #[.bool b, .int .i64 p, .int .i64 l]] w fun e w' =>
      e = .returned (.tuple #[.int .i64 (if b then c else r), .int .i64 (if b then r else c)]) ∧ Below w.heap.size w w' := by
  cases b
  · go_enter Try.func43, Try.ntmps43
    go_wp2
    go_quiet (fail)
    go_wp2
    go_ret2
    exact ⟨rfl, below_drewN (((Below.refl _ _).alloc (Nat.le_refl _) _).alloc (by simp) _) _⟩
  · go_enter Try.func43, Try.ntmps43
    go_wp2
    go_quiet (fail)
    go_wp2
    go_ret2
    exact ⟨rfl, below_drewN (((Below.refl _ _).alloc (Nat.le_refl _) _).alloc (by simp) _) _⟩

theorem nodes_any (s r c : Int) (b1 : Bool) (p1 l1 : Int) (b2 : Bool) (p2 l2 : Int) (w : World) :
    Calls Try.prog 38 #[.agg #[.int .u8 s, .int .i64 r, .int .i64 c, .bool b1, .int .i64 p1, .int .i64 l1, .bool b2, .int .i64 p2, .int .i64 l2, .bool false]] w fun e w' =>
      e = .returned (.int .i64 (wrap64 (r * c))) ∧ Below w.heap.size w w' := by
  go_enter Try.func38, Try.ntmps38
  go_wp2
  go_ret
  exact ⟨rfl, ((Below.refl _ _).alloc (Nat.le_refl _) _)⟩

theorem blockedBy_any (s r c : Int) (b1 : Bool) (p1 l1 : Int) (b2 : Bool) (p2 l2 : Int) (b : Bool) (p l : Int) (w : World) :
    Calls Try.prog 39 #[.agg #[.int .u8 s, .int .i64 r, .int .i64 c, .bool b1, .int .i64 p1, .int .i64 l1, .bool b2, .int .i64 p2, .int .i64 l2, .bool false], .agg #[.bool b, .int .i64 p, .int .i64 l]] w fun e w' =>
      e = .returned (.int .i64 (wrap64 (wrap64 (wrap64 ((if b then c else r) - l) + 1) * wrap64 (wrap64 ((if b then r else c) - p) + 1)))) ∧ Below w.heap.size w w' := by
  cases b
  all_goals
    go_enter Try.func39, Try.ntmps39
    go_wp2_with (first | (go_at_call 43; refine (lines_any _ _ _ _ _ _ _ _ _ _ _ _ _).mono ?_; rintro e w' ⟨rfl, hb⟩; obtain ⟨hc, hf⟩ := bcell hb))
    go_ret
    exact ⟨rfl, (((Below.refl _ _).alloc (Nat.le_refl _) _).alloc (by simp) _).trans (hb.mono (by simp; omega))⟩
end Go.Proofs.Qxb6600769a
