import Derived.Test.Qxb6601930aBase
namespace Go.Proofs.Qxb6601930a
open Go.RowKit
set_option linter.unusedVariables false

def isSp (c : Int) : Bool := c == 32 || c == 9 || c == 13 || c == 10

theorem isSp_cases (c : Int) : ((c == 32) = true ∧ isSp c = true) ∨ ((c == 32) = false ∧ (c == 9) = true ∧ isSp c = true) ∨ ((c == 32) = false ∧ (c == 9) = false ∧ (c == 13) = true ∧ isSp c = true) ∨
    ((c == 32) = false ∧ (c == 9) = false ∧ (c == 13) = false ∧ (c == 10) = true ∧ isSp c = true) ∨ ((c == 32) = false ∧ (c == 9) = false ∧ (c == 13) = false ∧ (c == 10) = false ∧ isSp c = false) := by
  unfold isSp
  cases (c == 32) <;> cases (c == 9) <;> cases (c == 13) <;> cases (c == 10) <;> simp

theorem isSp_any (c : Int) (w : World) : Calls Try.prog 11 #[.int .u8 c] w fun e w' => e = .returned (.bool (isSp c)) ∧ w' = w := by
  rcases isSp_cases c with ⟨h1, hv⟩ | ⟨h1, h2, hv⟩ | ⟨h1, h2, h3, hv⟩ | ⟨h1, h2, h3, h4, hv⟩ | ⟨h1, h2, h3, h4, hv⟩
  all_goals
    rw [hv]
    clear hv
    go_enter Try.func11, Try.ntmps11
    go_wp2
    go_ret
    exact ⟨rfl, rfl⟩

theorem bytes_any (ao : Option Addr) (n cap : Nat) (i : Int) (w : World) (hn : n ≤ maxLen) :
    Calls Try.prog 8 #[.slice ao n cap, .int .i64 i] w fun e w' => e = .returned (.bool (decide (n ≤ 1048576))) ∧ w' = w := by
  unfold maxLen at hn
  by_cases h : n ≤ 1048576
  · have hd : decide (n ≤ 1048576) = true := by simpa using h
    rw [hd]
    clear hd
    go_enter Try.func8, Try.ntmps8
    go_wp2
    go_ret
    exact ⟨rfl, rfl⟩
  · have hd : decide (n ≤ 1048576) = false := by simpa using h
    rw [hd]
    clear hd
    go_enter Try.func8, Try.ntmps8
    go_wp2
    go_ret
    exact ⟨rfl, rfl⟩

/-- skipSpace from an index at or past the end. -/
theorem skip_past (ao : Option Addr) (n cap : Nat) (i : Int) (w : World) (hn : n ≤ 1048576) (hi : (n : Int) ≤ i) :
    Calls Try.prog 10 #[.slice ao n cap, .int .i64 i] w fun e w' => e = .returned (.int .i64 i) ∧ w' = w := by
  go_enter Try.func10, Try.ntmps10
  go_wp2
  refine wp_loop_rounds 1 ?_
  rw [rounds_succ]
  go_wp2
  go_ret
  exact ⟨rfl, rfl⟩

/-- skipSpace from an index inside. -/
theorem skip_in (B n cap i : Nat) (f : Nat → Int) (w : World) (hn : n ≤ 1048576) (hi : i ≤ n) (hcell : ∀ k, k < n → w.cell? ⟨B, k, none⟩ = some (.int .u8 (f k))) :
    Calls Try.prog 10 #[.slice (some ⟨B, 0, none⟩) n cap, .int .i64 i] w fun e w' => ∃ j : Nat, e = .returned (.int .i64 j) ∧ i ≤ j ∧ j ≤ n ∧ (∀ k, i ≤ k → k < j → isSp (f k) = true) ∧ (j = n ∨ isSp (f j) = false) ∧ w' = w := by
  have Hc := hide hcell
  clear hcell
  go_enter Try.func10, Try.ntmps10
  go_wp2
  go_loop [1] (fun x => ∃ j : Nat, i ≤ j ∧ j ≤ n ∧ x = .int .i64 j ∧ (∀ k, i ≤ k → k < j → isSp (f k) = true)) (fun x => n - (intOf x).toNat)
  case atStart => exact ⟨i, Nat.le_refl _, hi, rfl, fun k h1 h2 => by omega⟩
  case round =>
    obtain ⟨j, hij, hj, rfl, hall⟩ := hrel
    have Hall := hide hall
    clear hall
    by_cases hlt : j < n
    · have h1 := Hc.out j hlt
      have h2 : (j : Int) < (n : Int) := by omega
      rcases isSp_cases (f j) with ⟨g1, hs⟩ | ⟨g1, g2, hs⟩ | ⟨g1, g2, g3, hs⟩ | ⟨g1, g2, g3, g4, hs⟩ | ⟨g1, g2, g3, g4, hs⟩
      iterate 4
        · have Hs := hide hs
          clear hs
          go_wp2
          go_round
          case rel => exact ⟨j + 1, by omega, by omega, by go_num, fun k h1 h2 => by
            by_cases hk : k < j
            · exact Hall.out k h1 hk
            · obtain rfl : k = j := by omega
              exact Hs.out⟩
          case measure => simp [intOf]; omega
      · have Hs := hide hs
        clear hs
        go_wp2
        go_ret
        exact ⟨j, rfl, hij, hj, Hall.out, .inr Hs.out, rfl⟩
    · obtain rfl : n = j := by omega
      go_wp2
      go_ret
      exact ⟨n, rfl, hij, hj, Hall.out, .inl rfl, rfl⟩
end Go.Proofs.Qxb6601930a
