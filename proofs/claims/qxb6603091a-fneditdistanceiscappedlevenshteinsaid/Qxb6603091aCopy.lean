import Derived.Test.Qxb6603091aDist
namespace Go.Proofs.Qxb6603091a
open Go.RowKit
set_option linter.unusedVariables false

def nth (zs : List Int) (i : Nat) : Int := zs.getD i 0

/-- A slice that came in: nil, or a row whose first n cells read f. -/
def Came (w : World) (ao : Option Addr) (n cap : Nat) (f : Nat → Int) : Prop :=
  (ao = none ∧ n = 0 ∧ cap = 0) ∨ ∃ x, ao = some x ∧ ∀ i, i < n → w.cell? (x.add i) = some (.int .i32 (f i))

theorem add_block (x : Addr) (i : Nat) : (x.add i).block = x.block := by unfold Addr.add; split <;> rfl

theorem Came.below {w w1 : World} {ao : Option Addr} {n cap : Nat} {f : Nat → Int} (h : Came w ao n cap f) (hb : Below w.heap.size w w1) : Came w1 ao n cap f := by
  rcases h with h | ⟨x, rfl, hc⟩
  · exact .inl h
  · refine .inr ⟨x, rfl, fun i hi => ?_⟩
    have := hc i hi
    rw [hb.cell (World.block_lt_of_cell? w _ this), this]

theorem View.below {w w1 : World} {ao : Option Addr} {n cap : Nat} {f : Nat → Int} (h : View w ao n cap f) (hb : Below w.heap.size w w1) : View w1 ao n cap f := by
  rcases h with h | ⟨B, off, rfl, hc, hcl⟩
  · exact .inl h
  · refine .inr ⟨B, off, rfl, hc, fun i hi => ?_⟩
    have := hcl i hi
    rw [hb.cell (World.block_lt_of_cell? w _ this), this]

theorem View.to {w : World} {ao : Option Addr} {n cap : Nat} {f f' : Nat → Int} (h : View w ao n cap f) (he : ∀ i, i < n → f i = f' i) : View w ao n cap f' := by
  rcases h with h | ⟨B, off, rfl, hc, hcl⟩
  · exact .inl h
  · exact .inr ⟨B, off, rfl, hc, fun i hi => by rw [hcl i hi, he i hi]⟩

theorem copy_any (w : World) (ao : Option Addr) (n cap : Nat) (f : Nat → Int) (hn : n ≤ 65536) (h : Came w ao n cap f) :
    Calls Try.prog 11 #[.slice ao n cap] w fun e w' => ∃ ao' cap', e = .returned (.slice ao' n cap') ∧ Below w.heap.size w w' ∧ View w' ao' n cap' f := by
  rcases h with ⟨rfl, rfl, rfl⟩ | ⟨x, rfl, hc⟩
  · refine (copy_nil w).mono ?_
    rintro e w' ⟨rfl, rfl⟩
    exact ⟨none, 0, rfl, Below.refl _ _, .inl ⟨rfl, rfl, rfl⟩⟩
  · refine (copy_some w x f n cap hn hc).mono ?_
    rintro e w' ⟨rfl, c, rfl, hcl⟩
    exact ⟨_, n, rfl, (Below.refl _ _).alloc (Nat.le_refl _) _, .inr ⟨_, 0, rfl, Nat.le_refl _, fun i hi => by rw [Nat.zero_add, World.cell?_alloc_new]; exact hcl i hi⟩⟩

theorem below_call {B : Nat} {w W w' : World} (hb : Below W.heap.size W w') (h : Below B w W) (hB : B ≤ W.heap.size) : Below B w w' :=
  h.trans (hb.mono hB)

set_option maxHeartbeats 2000000 in
theorem law_core (ao bo : Option Addr) (x y ca cb : Nat) (f g : Nat → Int) (l : Int) (w : World) (hx : x ≤ maxLen) (hy : y ≤ maxLen) (ha : Came w ao x ca f) (hb : Came w bo y cb g) :
    Calls Try.prog 3 #[.slice ao x ca, .slice bo y cb, .int .i64 l] w fun e w' => e = .returned (.bool true) ∧ Below w.heap.size w w' := by
  by_cases h1 : x + y ≤ 1048576
  · by_cases h2 : x ≤ 65536
    · by_cases h3 : y ≤ 65536
      · by_cases h4 : l < 0
        · clear ha hb
          go_enter Try.func3, Try.ntmps3
          go_wp2_with (first | (go_at_call 9; refine (zz_any _ _ _ _ _ _ _ _ hx hy).mono ?_; rintro e w1 ⟨rfl, hw1⟩; subst w1))
          go_ret
          exact ⟨rfl, Below.refl _ _⟩
        · by_cases h5 : 2 < l
          · clear ha hb
            go_enter Try.func3, Try.ntmps3
            go_wp2_with (first | (go_at_call 9; refine (zz_any _ _ _ _ _ _ _ _ hx hy).mono ?_; rintro e w1 ⟨rfl, hw1⟩; subst w1))
            go_ret
            exact ⟨rfl, Below.refl _ _⟩
          · obtain ⟨L, rfl⟩ := Int.eq_ofNat_of_zero_le (show 0 ≤ l by omega)
            by_cases h6 : (x - y) + (y - x) ≤ L
            · have h6' : ¬ (L : Int) < (((x - y) + (y - x) : Nat) : Int) := by omega
              have Hca := hide (copy_any w ao x ca f h2 ha)
              have Hb := hide hb
              clear ha hb
              go_enter Try.func3, Try.ntmps3
              go_wp2_with (first
                | (go_at_call 9; refine (zz_any _ _ _ _ _ _ _ _ hx hy).mono ?_; rintro e w1 ⟨rfl, hw1⟩; subst w1)
                | (go_at_call 10; refine (gap_any _ _ _ _ _ _ _ h2 h3).mono ?_; rintro e w1 ⟨rfl, hw1⟩; subst w1))
              refine Hca.out.mono ?_
              rintro e w1 ⟨ao1, ca1, rfl, hb1, hv1⟩
              have Hv1 := hide hv1
              have Hcb := hide (copy_any w1 bo y cb g h3 (Hb.out.below hb1))
              clear hv1
              go_wp2_with fail
              refine Hcb.out.mono ?_
              rintro e w2 ⟨bo1, cb1, rfl, hb2, hv2⟩
              have Hva := hide (Hv1.out.below hb2)
              have Hvb := hide hv2
              have Hd := hide (zzdist_any L x y ca1 cb1 ao1 bo1 f g w2 (by omega) h2 h3 (by omega) (by omega) Hva.out hv2)
              clear hv2
              go_wp2_with fail
              refine Hd.out.mono ?_
              rintro e w3 ⟨rfl, hb3⟩
              have Hc := hide (capped_any L x y ca1 cb1 ao1 bo1 (rev f x) (rev g y) w3 (by omega) h2 h3 ((Hva.out.below hb3).to (fun i hi => by unfold rev; congr 1; omega)) ((Hvb.out.below hb3).to (fun i hi => by unfold rev; congr 1; omega)))
              rw [D_rev] at Hc
              obtain ⟨V, hV⟩ : ∃ V, V = min (D f g x y) (L + 1) := ⟨_, rfl⟩
              rw [← hV] at Hc ⊢
              clear hV
              go_wp2_with fail
              refine Hc.out.mono ?_
              rintro e w4 ⟨rfl, nq, hw4⟩
              subst w4
              go_wp2
              go_ret
              have s1 := hb1.size
              have s2 := hb2.size
              exact ⟨ret_bool (by simp), below_drewN (below_call hb3 (below_call hb2 hb1 hb1.size) (by omega)) _⟩
            · have h6' : (L : Int) < (((x - y) + (y - x) : Nat) : Int) := by omega
              clear ha hb
              go_enter Try.func3, Try.ntmps3
              go_wp2_with (first
                | (go_at_call 9; refine (zz_any _ _ _ _ _ _ _ _ hx hy).mono ?_; rintro e w1 ⟨rfl, hw1⟩; subst w1)
                | (go_at_call 10; refine (gap_any _ _ _ _ _ _ _ h2 h3).mono ?_; rintro e w1 ⟨rfl, hw1⟩; subst w1))
              go_ret
              exact ⟨rfl, Below.refl _ _⟩
      · clear ha hb
        go_enter Try.func3, Try.ntmps3
        go_wp2_with (first | (go_at_call 9; refine (zz_any _ _ _ _ _ _ _ _ hx hy).mono ?_; rintro e w1 ⟨rfl, hw1⟩; subst w1))
        go_ret
        exact ⟨rfl, Below.refl _ _⟩
    · clear ha hb
      go_enter Try.func3, Try.ntmps3
      go_wp2_with (first | (go_at_call 9; refine (zz_any _ _ _ _ _ _ _ _ hx hy).mono ?_; rintro e w1 ⟨rfl, hw1⟩; subst w1))
      go_ret
      exact ⟨rfl, Below.refl _ _⟩
  · clear ha hb
    go_enter Try.func3, Try.ntmps3
    go_wp2_with (first | (go_at_call 9; refine (zz_any _ _ _ _ _ _ _ _ hx hy).mono ?_; rintro e w1 ⟨rfl, hw1⟩; subst w1))
    go_ret
    exact ⟨rfl, Below.refl _ _⟩
end Go.Proofs.Qxb6603091a
