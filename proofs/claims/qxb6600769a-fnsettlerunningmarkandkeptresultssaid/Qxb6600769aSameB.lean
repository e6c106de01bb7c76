import Derived.Test.Qxb6600769aClone
namespace Go.Proofs.Qxb6600769a.Ses
open Go.RowKit Go.Maps
set_option linter.unusedVariables false

theorem maxInt (w : World) (a b : Int) : Calls Try.prog 26 #[.int .i64 a, .int .i64 b] w fun e w' => e = .returned (.int .i64 (max a b)) ∧ w' = w := by
  go_enter Try.func26, Try.ntmps26
  by_cases h : b < a
  · go_wp2
    go_ret
    exact ⟨by rw [show max a b = a by omega]; rfl, rfl⟩
  · go_wp2
    go_ret
    exact ⟨by rw [show max a b = b by omega]; rfl, rfl⟩

/-- A bool comes back; there were draws, no more. -/
def SaysD (w : World) (r : Bool) (e : Ending) (w' : World) : Prop := e = .returned (.bool r) ∧ ∃ n, w' = w.drewN n

set_option maxRecDepth 100000 in
set_option maxHeartbeats 1000000 in
theorem sameBytes (w : World) (A : Option Addr) (L C : Nat) (h : BytesIn w A L C) (hL : L ≤ 1048576) :
    Calls Try.prog 42 #[.slice A L C, .slice A L C] w (SaysD w true) := by
  have hcells := cells5
  go_enter Try.func42, Try.ntmps42
  go_wp2
  go_loopw [5] (fun j wr => ∃ (i n : Nat), j = Value.int .i64 (i : Int) ∧ i ≤ L ∧ wr = w.drewN n) (fun j _ => L - (intOf j).toNat)
  case atStart => exact ⟨0, 0, rfl, by omega, rfl⟩
  case round =>
    obtain ⟨i, n, rfl, hi, rfl⟩ := hrel
    by_cases hin : (i : Int) < L
    · rcases h with ⟨_, h0, _⟩ | ⟨a, rfl, hex⟩
      · omega
      obtain ⟨b, o, rfl, hbl, hb⟩ := hex (by omega)
      obtain ⟨v, hv⟩ := hb i (by omega)
      clear hb hex
      go_wp2_with fail
      go_quiet (fail)
      go_wp2
      go_roundw
      case rel => exact ⟨i + 1, _, by go_num, by omega, rfl⟩
      case measure => simp [intOf]; omega
    · go_wp2
      go_ret
      exact ⟨rfl, n, rfl⟩
end Go.Proofs.Qxb6600769a.Ses
