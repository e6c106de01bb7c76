import Derived.Test.Qxb6600769aProg
import Derived.WalkKit
import Derived.WalkSpells
import Derived.WalkLawsBesides
import Derived.Deep.RegionHeld3
import Derived.Deep.QuietTactic
import Derived.BigQuiet
import Derived.Below
namespace Go.Proofs.Qxb6600769a
open Go.RowKit

theorem geom_any (r c : Int) (b : Bool) (w : World) :
    Calls Try.prog 35 #[.int .i64 r, .int .i64 c, .bool b] w fun e w' =>
      e = .returned (.tuple #[.int .i64 (if b then c else r), .int .i64 (if b then r else c)]) ∧ w' = w := by
  cases b
  · go_enter Try.func35, Try.ntmps35
    go_wp2
    go_ret2
    exact ⟨rfl, rfl⟩
  · go_enter Try.func35, Try.ntmps35
    go_wp2
    go_ret2
    exact ⟨rfl, rfl⟩

def ruleOK (rows cols : Int) (b : Bool) (per lines : Int) : Bool :=
  decide (1 ≤ lines ∧ lines ≤ (if b then cols else rows) ∧ 1 ≤ per ∧ per ≤ (if b then rows else cols))

theorem rule_any (r c : Int) (b : Bool) (p l : Int) (w : World) :
    Calls Try.prog 14 #[.int .i64 r, .int .i64 c, .bool b, .int .i64 p, .int .i64 l] w fun e w' =>
      e = .returned (.bool (ruleOK r c b p l)) ∧ w' = w := by
  cases b
  · by_cases h1 : 1 ≤ l <;> by_cases h2 : l ≤ r <;> by_cases h3 : 1 ≤ p <;> by_cases h4 : p ≤ c
    all_goals
      go_enter Try.func14, Try.ntmps14
      go_wp2
      go_ret
      exact ⟨by simp [ruleOK, *], rfl⟩
  · by_cases h1 : 1 ≤ l <;> by_cases h2 : l ≤ c <;> by_cases h3 : 1 ≤ p <;> by_cases h4 : p ≤ r
    all_goals
      go_enter Try.func14, Try.ntmps14
      go_wp2
      go_ret
      exact ⟨by simp [ruleOK, *], rfl⟩

end Go.Proofs.Qxb6600769a
