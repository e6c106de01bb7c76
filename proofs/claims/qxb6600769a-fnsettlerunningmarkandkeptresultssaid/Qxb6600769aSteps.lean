import Derived.Test.Qxb6600769aDoors
namespace Go.Proofs.Qxb6600769a.Ses
open Go.RowKit Go.Maps
set_option linter.unusedVariables false

/-- The steps as they lie in memory: n elements of four cells each, from cell o of block b on. -/
structure StepsIn (w : World) (b o n : Nat) (pu : Nat → Bool) (se va : Nat → Int) (A : Nat → Option Addr) (L C : Nat → Nat) : Prop where
  c0 : ∀ i, i < n → w.cell? ⟨b, o + i * 4, none⟩ = some (.bool (pu i))
  c1 : ∀ i, i < n → w.cell? ⟨b, o + i * 4 + 1, none⟩ = some (.int .u64 (se i))
  c2 : ∀ i, i < n → w.cell? ⟨b, o + i * 4 + 2, none⟩ = some (.int .u64 (va i))
  c3 : ∀ i, i < n → w.cell? ⟨b, o + i * 4 + 3, none⟩ = some (.slice (A i) (L i) (C i))

theorem StepsIn.of_block {w w' : World} {b o n : Nat} {pu : Nat → Bool} {se va : Nat → Int} {A : Nat → Option Addr} {L C : Nat → Nat} (h : StepsIn w b o n pu se va A L C) (hb : w'.heap[b]? = w.heap[b]?) : StepsIn w' b o n pu se va A L C := by
  have hc : ∀ j, w'.cell? ⟨b, j, none⟩ = w.cell? ⟨b, j, none⟩ := fun j => by simp [World.cell?, hb]
  exact ⟨fun i hi => (hc _).trans (h.c0 i hi), fun i hi => (hc _).trans (h.c1 i hi), fun i hi => (hc _).trans (h.c2 i hi), fun i hi => (hc _).trans (h.c3 i hi)⟩

theorem cells48 : Try.prog.cellsOf 48 = 4 := by kernel_rfl

theorem all_next {L : Nat → Nat} {i : Nat} (h : ∀ l, l < i → L l ≤ 1048576) (hi : L i ≤ 1048576) : ∀ l, l < i + 1 → L l ≤ 1048576 := by
  intro l hl
  by_cases e : l = i
  · rw [e]; exact hi
  · exact h l (by omega)

/-- A bool comes back, p holds of it, the world is as it was. -/
def Says (w : World) (p : Bool → Prop) (e : Ending) (w' : World) : Prop := ∃ r : Bool, e = .returned (.bool r) ∧ p r ∧ w' = w

set_option maxRecDepth 100000 in
set_option maxHeartbeats 1000000 in
theorem stepsFit (w : World) (b o n c : Nat) (oa : Option Addr) (pu : Nat → Bool) (se va : Nat → Int) (A : Nat → Option Addr) (L C : Nat → Nat) (hoa : 0 < n → oa = some ⟨b, o, none⟩) (h : StepsIn w b o n pu se va A L C) (hL : ∀ i, i < n → L i ≤ maxLen) :
    Calls Try.prog 19 #[.slice oa n c] w (Says w fun r => r = true → n ≤ 4096 ∧ ∀ i, i < n → L i ≤ 1048576) := by
  have hcells := cells48
  have hML' : maxLen = 2 ^ 63 - 1 := by decide
  go_enter Try.func19, Try.ntmps19
  by_cases hn4 : 4096 < (n : Int)
  · go_wp2
    go_ret
    exact ⟨false, rfl, fun h => (by cases h), rfl⟩
  · go_wp2
    go_loopw [3, 4] (fun j3 j4 wr => ∃ (t : Int) (i : Nat), j3 = Value.int .i64 t ∧ j4 = Value.int .i64 (i : Int) ∧ i ≤ n ∧ 0 ≤ t ∧ t ≤ 1048576 ∧ (∀ l, l < i → L l ≤ 1048576) ∧ wr = w) (fun _ j4 _ => n - (intOf j4).toNat)
    case atStart => exact ⟨0, 0, rfl, rfl, by omega, by omega, by omega, fun l hl => by omega, rfl⟩
    case round =>
      obtain ⟨t, i, rfl, rfl, hi, ht0, ht1, hall, rfl⟩ := hrel
      by_cases hin : (i : Int) < n
      · obtain rfl := hoa (by omega)
        have d3 := h.c3 i (by omega)
        have hLi := hL i (by omega)
        go_wp2
        case roundEnd =>
          go_roundw
          case rel => exact ⟨_, i + 1, rfl, rfl, by omega, by omega, by omega, all_next hall (by omega), trivial⟩
          case measure => simp [intOf]; omega
        all_goals
          go_ret
          exact ⟨false, rfl, fun h => (by cases h), rfl⟩
      · go_wp2
        go_ret
        exact ⟨true, rfl, fun _ => ⟨by omega, fun l hl => hall l (by omega)⟩, rfl⟩

set_option maxRecDepth 100000 in
set_option maxHeartbeats 1000000 in
theorem bytes9 (w : World) (b o n c : Nat) (oa : Option Addr) (x y z : Int) (pu : Nat → Bool) (se va : Nat → Int) (A : Nat → Option Addr) (L C : Nat → Nat) (hoa : 0 < n → oa = some ⟨b, o, none⟩) (h : StepsIn w b o n pu se va A L C) (hn : n ≤ maxLen) (hL : ∀ i, i < n → L i ≤ maxLen) :
    Calls Try.prog 29 #[.slice oa n c, .int .u64 x, .int .u64 y, .int .u64 z] w (Says w fun _ => True) := by
  have hcells := cells48
  have hML' : maxLen = 2 ^ 63 - 1 := by decide
  go_enter Try.func29, Try.ntmps29
  by_cases hn4 : 1048576 < (n : Int)
  · go_wp2
    go_ret
    exact ⟨false, rfl, trivial, rfl⟩
  · go_wp2
    go_loopw [9, 10] (fun j3 j4 wr => ∃ (t : Int) (i : Nat), j3 = Value.int .i64 t ∧ j4 = Value.int .i64 (i : Int) ∧ i ≤ n ∧ 0 ≤ t ∧ t ≤ 1048576 ∧ wr = w) (fun _ j4 _ => n - (intOf j4).toNat)
    case atStart => exact ⟨n, 0, rfl, rfl, by omega, by omega, by omega, rfl⟩
    case round =>
      obtain ⟨t, i, rfl, rfl, hi, ht0, ht1, rfl⟩ := hrel
      by_cases hin : (i : Int) < n
      · obtain rfl := hoa (by omega)
        have d3 := h.c3 i (by omega)
        have hLi := hL i (by omega)
        go_wp2
        case roundEnd =>
          go_roundw
          case rel => exact ⟨_, i + 1, rfl, rfl, by omega, by omega, by omega, trivial⟩
          case measure => simp [intOf]; omega
        all_goals
          go_ret
          exact ⟨false, rfl, trivial, rfl⟩
      · go_wp2
        go_ret
        exact ⟨true, rfl, trivial, rfl⟩

set_option maxRecDepth 100000 in
set_option maxHeartbeats 1000000 in
theorem bytes8 (w : World) (b o n c : Nat) (oa : Option Addr) (pu : Nat → Bool) (se va : Nat → Int) (A : Nat → Option Addr) (L C : Nat → Nat) (hoa : 0 < n → oa = some ⟨b, o, none⟩) (h : StepsIn w b o n pu se va A L C) (hn : n ≤ maxLen) (hL : ∀ i, i < n → L i ≤ maxLen) :
    Calls Try.prog 18 #[.slice oa n c] w (Says w fun _ => True) := by
  have hcells := cells48
  have hML' : maxLen = 2 ^ 63 - 1 := by decide
  go_enter Try.func18, Try.ntmps18
  by_cases hn4 : 1048576 < (n : Int)
  · go_wp2
    go_ret
    exact ⟨false, rfl, trivial, rfl⟩
  · go_wp2
    go_loopw [3, 4] (fun j3 j4 wr => ∃ (t : Int) (i : Nat), j3 = Value.int .i64 t ∧ j4 = Value.int .i64 (i : Int) ∧ i ≤ n ∧ 0 ≤ t ∧ t ≤ 1048576 ∧ wr = w) (fun _ j4 _ => n - (intOf j4).toNat)
    case atStart => exact ⟨n, 0, rfl, rfl, by omega, by omega, by omega, rfl⟩
    case round =>
      obtain ⟨t, i, rfl, rfl, hi, ht0, ht1, rfl⟩ := hrel
      by_cases hin : (i : Int) < n
      · obtain rfl := hoa (by omega)
        have d3 := h.c3 i (by omega)
        have hLi := hL i (by omega)
        go_wp2
        case roundEnd =>
          go_roundw
          case rel => exact ⟨_, i + 1, rfl, rfl, by omega, by omega, by omega, trivial⟩
          case measure => simp [intOf]; omega
        all_goals
          go_ret
          exact ⟨false, rfl, trivial, rfl⟩
      · go_wp2
        go_ret
        exact ⟨true, rfl, trivial, rfl⟩
end Go.Proofs.Qxb6600769a.Ses
