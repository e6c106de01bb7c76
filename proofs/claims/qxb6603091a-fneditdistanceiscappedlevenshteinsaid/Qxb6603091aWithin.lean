import Derived.Test.Qxb6603091aProg
import Derived.Test.Qxb6603091aLev
import Derived.WalkKit
import Derived.WalkSpells
import Derived.WalkLawsBesides
import Derived.Below
import Derived.Deep.QuietTactic
import Derived.BigQuiet
namespace Go.Proofs.Qxb6603091a
open Go.RowKit
set_option linter.unusedVariables false

theorem hide {p : Prop} (h : p) : Hid p := h
theorem ret_bool {a b : Bool} (h : a = b) : Ending.returned (.bool a) = .returned (.bool b) := by rw [h]
theorem ret_int {k : IntKind} {a b : Int} (h : a = b) : Ending.returned (.int k a) = .returned (.int k b) := by rw [h]

/-- A slice of n runes that reads f: nil, or a row of cells. -/
def View (w : World) (ao : Option Addr) (n cap : Nat) (f : Nat → Int) : Prop :=
  (ao = none ∧ n = 0 ∧ cap = 0) ∨ ∃ B off, ao = some ⟨B, off, none⟩ ∧ n ≤ cap ∧ ∀ i, i < n → w.cell? ⟨B, off + i, none⟩ = some (.int .i32 (f i))

theorem View.addr {w : World} {ao : Option Addr} {n cap : Nat} {f : Nat → Int} (h : View w ao n cap f) (hn : 0 < n) : ∃ B off, ao = .some ⟨B, off, none⟩ ∧ n ≤ cap ∧ ∀ i, i < n → w.cell? ⟨B, off + i, none⟩ = .some (.int .i32 (f i)) := by
  rcases h with ⟨_, h, _⟩ | h
  · omega
  · exact h
theorem View.drewN {w : World} {ao : Option Addr} {n cap : Nat} {f : Nat → Int} (h : View w ao n cap f) (nq : Nat) : View (w.drewN nq) ao n cap f := h

theorem drewN_one (w : World) : w.drew = w.drewN 1 := rfl

/-- a is empty. -/
theorem within_x0 (k y ca cb : Nat) (ao bo : Option Addr) (F G : Nat → Int) (w : World) (hy : y ≤ 65536) (hk : k ≤ 2) (ha : View w ao 0 ca (fun i => F (0 - 1 - i))) (hb : View w bo y cb (fun i => G (y - 1 - i))) :
    Calls Try.prog 27 #[.slice ao 0 ca, .slice bo y cb, .int .i64 k] w fun e w' => e = .returned (.bool (decide (D F G 0 y ≤ k))) ∧ ∃ nq, w' = w.drewN nq := by
  have hv : D F G 0 y = y := rfl
  rw [hv]
  clear hv
  have hd : decide ((0 : Int) < 0) = false := rfl
  rcases ha with ⟨rfl, _, rfl⟩ | ⟨B, off, rfl, hca, hcell⟩
  · rcases hb with ⟨rfl, rfl, rfl⟩ | ⟨B2, off2, rfl, hcb, hcell2⟩
    · go_enter Try.func27, Try.ntmps27
      go_wp2
      refine wp_loop_rounds 1 ?_
      rw [rounds_succ]
      go_wp2
      go_quiet (fail)
      go_wp2
      go_ret
      exact ⟨ret_bool (by simp), _, rfl⟩
    · clear hcell2
      go_enter Try.func27, Try.ntmps27
      go_wp2
      refine wp_loop_rounds 1 ?_
      rw [rounds_succ]
      go_wp2
      go_quiet (fail)
      go_wp2
      go_ret
      exact ⟨rfl, _, rfl⟩
  · clear hcell
    rcases hb with ⟨rfl, rfl, rfl⟩ | ⟨B2, off2, rfl, hcb, hcell2⟩
    · go_enter Try.func27, Try.ntmps27
      go_wp2
      refine wp_loop_rounds 1 ?_
      rw [rounds_succ]
      go_wp2
      go_quiet (fail)
      go_wp2
      go_ret
      exact ⟨ret_bool (by simp), _, rfl⟩
    · clear hcell2
      go_enter Try.func27, Try.ntmps27
      go_wp2
      refine wp_loop_rounds 1 ?_
      rw [rounds_succ]
      go_wp2
      go_quiet (fail)
      go_wp2
      go_ret
      exact ⟨rfl, _, rfl⟩

/-- b is empty, a is not. -/
theorem within_y0 (k x ca cb : Nat) (ao bo : Option Addr) (F G : Nat → Int) (w : World) (hx0 : 0 < x) (hx : x ≤ 65536) (hk : k ≤ 2) (ha : View w ao x ca (fun i => F (x - 1 - i))) (hb : View w bo 0 cb (fun i => G (0 - 1 - i))) :
    Calls Try.prog 27 #[.slice ao x ca, .slice bo 0 cb, .int .i64 k] w fun e w' => e = .returned (.bool (decide (D F G x 0 ≤ k))) ∧ ∃ nq, w' = w.drewN nq := by
  rw [D_left]
  have hd : decide ((0 : Int) < 0) = false := rfl
  have hx1 : (0 : Int) < (x : Int) := by omega
  have hx2 : ((x : Int) == 0) = false := by simp; omega
  obtain ⟨B, off, rfl, hca, hcell⟩ := ha.addr hx0
  clear hcell ha
  have hnz : ¬ ca = 0 := by omega
  rcases hb with ⟨rfl, _, rfl⟩ | ⟨B2, off2, rfl, hcb, hcell2⟩
  · go_enter Try.func27, Try.ntmps27
    go_wp2
    refine wp_loop_rounds 1 ?_
    rw [rounds_succ]
    go_wp2
    go_quiet (fail)
    go_wp2
    go_ret
    exact ⟨rfl, _, rfl⟩
  · clear hcell2
    go_enter Try.func27, Try.ntmps27
    go_wp2
    refine wp_loop_rounds 1 ?_
    rw [rounds_succ]
    go_wp2
    go_quiet (fail)
    go_wp2
    go_ret
    exact ⟨rfl, _, rfl⟩
end Go.Proofs.Qxb6603091a
