import Derived.Test.Qxb6600769aDesignC
namespace Go.Proofs.Qxb6600769a
open Go.RowKit

def bbOf (r c : Int) (b : Bool) (p l : Int) : Int :=
  wrap64 (wrap64 (wrap64 ((if b then c else r) - l) + 1) * wrap64 (wrap64 ((if b then r else c) - p) + 1))

theorem blockedBy_bb (s r c : Int) (b1 : Bool) (p1 l1 : Int) (b2 : Bool) (p2 l2 : Int) (b : Bool) (p l : Int) (w : World) :
    Calls Try.prog 39 #[.agg #[.int .u8 s, .int .i64 r, .int .i64 c, .bool b1, .int .i64 p1, .int .i64 l1, .bool b2, .int .i64 p2, .int .i64 l2, .bool false], .agg #[.bool b, .int .i64 p, .int .i64 l]] w fun e w' =>
      e = .returned (.int .i64 (bbOf r c b p l)) ∧ Below w.heap.size w w' := blockedBy_any s r c b1 p1 l1 b2 p2 l2 b p l w

def nodesOf (r c : Int) : Int := wrap64 (r * c)
theorem nodes_n (s r c : Int) (b1 : Bool) (p1 l1 : Int) (b2 : Bool) (p2 l2 : Int) (w : World) :
    Calls Try.prog 38 #[.agg #[.int .u8 s, .int .i64 r, .int .i64 c, .bool b1, .int .i64 p1, .int .i64 l1, .bool b2, .int .i64 p2, .int .i64 l2, .bool false]] w fun e w' =>
      e = .returned (.int .i64 (nodesOf r c)) ∧ Below w.heap.size w w' := nodes_any s r c b1 p1 l1 b2 p2 l2 w

theorem wrapEq (x : Int) : IntKind.i64.wrap x = wrap64 x := by rw [IntKind.wrap_i64]; unfold wrap64; rfl

set_option maxHeartbeats 2000000 in
theorem analyze_any (s r c : Int) (b1 : Bool) (p1 l1 : Int) (b2 : Bool) (p2 l2 : Int) (w : World) (hs : (s == 0) = false) :
    Calls Try.prog 15 #[.agg #[.int .u8 s, .int .i64 r, .int .i64 c, .bool b1, .int .i64 p1, .int .i64 l1, .bool b2, .int .i64 p2, .int .i64 l2, .bool false]] w fun e w' =>
      e = .returned (.agg #[.int .u8 s, .int .i64 (nodesOf r c), .int .i64 (wrap64 (p1 * l1)), .int .i64 (wrap64 (p2 * l2)), .bool (isect r c b1 p1 l1 b2 p2 l2), .int .i64 (bbOf r c b1 p1 l1), .int .i64 (bbOf r c b2 p2 l2)]) ∧ Below w.heap.size w w' := by
  go_enter Try.func15, Try.ntmps15
  go_wp2
  go_region_held3 (fun w' => w'.cell? ⟨w.heap.size, 0, none⟩ = some (.int .u8 s) ∧ w'.cell? ⟨w.heap.size, 1, none⟩ = some (.int .i64 r) ∧ w'.cell? ⟨w.heap.size, 2, none⟩ = some (.int .i64 c) ∧
      w'.cell? ⟨w.heap.size, 3, none⟩ = some (.bool b1) ∧ w'.cell? ⟨w.heap.size, 4, none⟩ = some (.int .i64 p1) ∧ w'.cell? ⟨w.heap.size, 5, none⟩ = some (.int .i64 l1) ∧
      w'.cell? ⟨w.heap.size, 6, none⟩ = some (.bool b2) ∧ w'.cell? ⟨w.heap.size, 7, none⟩ = some (.int .i64 p2) ∧ w'.cell? ⟨w.heap.size, 8, none⟩ = some (.int .i64 l2) ∧ w'.cell? ⟨w.heap.size, 9, none⟩ = some (.bool false))
    (first | (have hk := fun o => hc w.heap.size o (by first | omega | (simp; omega)); simp only [hk]; assumption) | go_keep)
    (first
      | (go_at_call 38; refine (nodes_n _ _ _ _ _ _ _ _ _ _).mono ?_; rintro e w' ⟨rfl, hb38⟩; obtain ⟨hc, hf⟩ := bcell hb38; have hz : w.heap.size + 1 < w'.heap.size := by (have := hb38.size; first | omega | (simp at this; omega)))
      | (go_at_call 34; refine (isect_any _ _ _ _ _ _ _ _ _ _).mono ?_; rintro e w' ⟨rfl, hb34⟩; obtain ⟨hc, hf⟩ := bcell hb34; have hz : w.heap.size + 1 < w'.heap.size := by (have := hb34.size; first | omega | (simp at this; omega)))
      | (go_at_call_of 39 (Value.agg #[.bool b1, .int .i64 p1, .int .i64 l1]); refine (blockedBy_bb _ _ _ _ _ _ _ _ _ _ _ _ _).mono ?_; rintro e w' ⟨rfl, hb39⟩; obtain ⟨hc, hf⟩ := bcell hb39; have hz : w.heap.size + 1 < w'.heap.size := by (have := hb39.size; first | omega | (simp at this; omega)))
      | (go_at_call_of 39 (Value.agg #[.bool b2, .int .i64 p2, .int .i64 l2]); refine (blockedBy_bb _ _ _ _ _ _ _ _ _ _ _ _ _).mono ?_; rintro e w' ⟨rfl, hb39b⟩; obtain ⟨hc, hf⟩ := bcell hb39b; have hz : w.heap.size + 1 < w'.heap.size := by (have := hb39b.size; first | omega | (simp at this; omega))))
  have hb4 := below_call hb39b (below_call hb39 (below_call hb34 hb38 (by first | omega | (simp; omega))) (by first | omega | (simp; omega))) (by first | omega | (simp; omega))
  obtain ⟨hc4, hf4⟩ := bcell hb4
  have hbel := below_call hb4 (B := w.heap.size) (w := w) (((Below.refl _ _).alloc (Nat.le_refl _) _).alloc (by simp) _).drew (by simp; omega)
  go_wp2
  refine bodyPost_ret (v := .agg #[.int .u8 s, .int .i64 (nodesOf r c), .int .i64 (wrap64 (p1 * l1)), .int .i64 (wrap64 (p2 * l2)), .bool (isect r c b1 p1 l1 b2 p2 l2), .int .i64 (bbOf r c b1 p1 l1), .int .i64 (bbOf r c b2 p2 l2)]) ?_ rfl ⟨rfl, ?_⟩
  · simp [results, Try.results15, go_sem, hc4]
    exact ⟨wrapEq _, wrapEq _⟩
  · iterate 7 refine Below.setCell ?_ (by simp) _
    exact hbel
end Go.Proofs.Qxb6600769a
