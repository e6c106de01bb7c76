import Derived.Test.Qxb6600769aDoors
namespace Go.Proofs.Qxb6600769a.Ses
open Go.RowKit Go.Maps
set_option linter.unusedVariables false
theorem cells57 : Try.prog.cellsOf 57 = 6 := by kernel_rfl
/-- The index of the id, or -1. -/
def FindOut (w : World) (n : Nat) (ids : Nat → Int) (k : Int) (e : Ending) (w' : World) : Prop :=
  ∃ r : Int, e = .returned (.int .i64 r) ∧ w' = w ∧ ((r = -1 ∧ ∀ i, i < n → ids i ≠ k) ∨ ∃ i : Nat, i < n ∧ r = i ∧ ids i = k)

set_option maxRecDepth 100000 in
set_option maxHeartbeats 1000000 in
theorem find_any (w : World) (oa : Option Addr) (g n c : Nat) (ids : Nat → Int) (k : Int) (hoa : 0 < n → oa = some ⟨g, 0, none⟩) (hc : ∀ i, i < n → w.cell? ⟨g, i * 6, none⟩ = some (.int .u64 (ids i))) (hn : n ≤ 100000) :
    Calls Try.prog 23 #[.slice oa n c, .int .u64 k] w (FindOut w n ids k) := by
  have hcells := cells57
  go_enter Try.func23, Try.ntmps23
  go_wp2
  go_loopw [5] (fun j wr => ∃ (i : Nat), j = Value.int .i64 (i : Int) ∧ i ≤ n ∧ (∀ l, l < i → ids l ≠ k) ∧ wr = w) (fun j _ => n - (intOf j).toNat)
  case atStart => exact ⟨0, rfl, by omega, fun l hl => by omega, rfl⟩
  case round =>
    obtain ⟨i, rfl, hi, hall, rfl⟩ := hrel
    by_cases hin : (i : Int) < n
    · obtain rfl := hoa (by omega)
      have d := hc i (by omega)
      have Hall := hide hall
      clear hall
      by_cases hk : ids i = k
      · have hk' : (ids i == k) = true := by simpa using hk
        go_wp2
        go_ret
        exact ⟨_, rfl, rfl, .inr ⟨i, by omega, rfl, hk⟩⟩
      · have hk' : (ids i == k) = false := by simpa using hk
        go_wp2
        go_roundw
        case rel => exact ⟨i + 1, by go_num, by omega, fun l hl => (by
          by_cases e : l = i
          · rw [e]; exact hk
          · exact Hall.out l (by omega)), by first | trivial | rfl⟩
        case measure => simp [intOf]; omega
    · obtain rfl : n = i := by omega
      have Hall := hide hall
      clear hall
      go_wp2
      go_ret
      exact ⟨_, rfl, rfl, .inl ⟨rfl, Hall.out⟩⟩
end Go.Proofs.Qxb6600769a.Ses
