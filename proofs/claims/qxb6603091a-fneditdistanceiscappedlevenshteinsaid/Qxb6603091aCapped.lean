import Derived.Test.Qxb6603091aWithinB
import Derived.Laws.MakeOwn
namespace Go.Proofs.Qxb6603091a
open Go.RowKit
set_option linter.unusedVariables false

set_option maxHeartbeats 1000000 in
theorem capped_any (L x y ca cb : Nat) (ao bo : Option Addr) (F G : Nat → Int) (w : World) (hL : L ≤ 2) (hx : x ≤ 65536) (hy : y ≤ 65536) (ha : View w ao x ca (fun i => F (x - 1 - i))) (hb : View w bo y cb (fun i => G (y - 1 - i))) :
    Calls Try.prog 13 #[.slice ao x ca, .slice bo y cb, .int .i64 L] w fun e w' => e = .returned (.int .i64 ((min (D F G x y) (L + 1) : Nat) : Int)) ∧ ∃ nq, w' = w.drewN nq := by
  have Ha := hide ha
  have Hb := hide hb
  clear ha hb
  go_enter Try.func13, Try.ntmps13
  go_wp2
  go_loopw [7] (fun v wr => ∃ k : Nat, k ≤ L + 1 ∧ v = .int .i64 k ∧ (∃ nq, wr = w.drewN nq) ∧ k ≤ D F G x y) (fun v _ => L + 1 - (intOf v).toNat)
  case atStart => exact ⟨0, Nat.zero_le _, rfl, ⟨0, rfl⟩, Nat.zero_le _⟩
  case round =>
    obtain ⟨k, hk, rfl, hw, hD⟩ := hrel
    have Hw := hide hw
    have HD := hide hD
    clear hw hD
    by_cases hkL : k ≤ L
    · have C := within_any k (by omega) x y ca cb ao bo F G wr hx hy (by obtain ⟨nq, rfl⟩ := Hw.out; exact Ha.out.drewN nq) (by obtain ⟨nq, rfl⟩ := Hw.out; exact Hb.out.drewN nq)
      by_cases hd : D F G x y ≤ k
      · rw [decide_eq_true hd] at C
        have HC := hide C
        have HV : Hid (min (D F G x y) (L + 1) = k) := by have := HD.out; show min (D F G x y) (L + 1) = k; omega
        clear C hd
        go_wp2_with (first | (go_at_call 27; refine HC.out.mono ?_; rintro e w1 ⟨rfl, nq1, hw1⟩; subst w1))
        go_ret
        exact ⟨ret_int (by rw [HV.out]), by obtain ⟨n0, e⟩ := Hw.out; exact ⟨_, by rw [e, World.drewN_drewN]⟩⟩
      · rw [decide_eq_false hd] at C
        have HC := hide C
        have HV : Hid (k + 1 ≤ D F G x y) := by show k + 1 ≤ D F G x y; omega
        clear C hd
        go_wp2_with (first | (go_at_call 27; refine HC.out.mono ?_; rintro e w1 ⟨rfl, nq1, hw1⟩; subst w1))
        go_roundw
        case rel => exact ⟨k + 1, by omega, by go_num, by obtain ⟨n0, e⟩ := Hw.out; exact ⟨_, by rw [e, World.drewN_drewN]⟩, HV.out⟩
        case measure => simp [intOf] <;> omega
    · have HV : Hid (min (D F G x y) (L + 1) = L + 1) := by have := HD.out; show min (D F G x y) (L + 1) = L + 1; omega
      go_wp2
      go_ret
      exact ⟨ret_int (by rw [HV.out]; simp), Hw.out⟩

theorem zz_any (ao bo : Option Addr) (x y ca cb : Nat) (l : Int) (w : World) (hx : x ≤ maxLen) (hy : y ≤ maxLen) :
    Calls Try.prog 9 #[.slice ao x ca, .slice bo y cb, .int .i64 l] w fun e w' => e = .returned (.bool (decide (x + y ≤ 1048576))) ∧ w' = w := by
  unfold maxLen at hx hy
  by_cases h1 : x ≤ 1048576
  · by_cases h2 : y ≤ 1048576
    · by_cases h : x + y ≤ 1048576
      · rw [decide_eq_true h]
        go_enter Try.func9, Try.ntmps9
        go_wp2
        go_ret
        exact ⟨rfl, rfl⟩
      · rw [decide_eq_false h]
        go_enter Try.func9, Try.ntmps9
        go_wp2
        go_ret
        exact ⟨rfl, rfl⟩
    · rw [decide_eq_false (by omega)]
      go_enter Try.func9, Try.ntmps9
      go_wp2
      go_ret
      exact ⟨rfl, rfl⟩
  · rw [decide_eq_false (by omega)]
    go_enter Try.func9, Try.ntmps9
    go_wp2
    go_ret
    exact ⟨rfl, rfl⟩

theorem gap_any (ao bo : Option Addr) (x y ca cb : Nat) (w : World) (hx : x ≤ 65536) (hy : y ≤ 65536) :
    Calls Try.prog 10 #[.slice ao x ca, .slice bo y cb] w fun e w' => e = .returned (.int .i64 (((x - y) + (y - x) : Nat) : Int)) ∧ w' = w := by
  by_cases h : x < y
  · have h1 : (x : Int) - (y : Int) < 0 := by omega
    go_enter Try.func10, Try.ntmps10
    go_wp2
    go_ret
    exact ⟨ret_int (by omega), rfl⟩
  · have h1 : ¬ (x : Int) - (y : Int) < 0 := by omega
    go_enter Try.func10, Try.ntmps10
    go_wp2
    go_ret
    exact ⟨ret_int (by omega), rfl⟩

theorem add_none (B off i : Nat) : (⟨B, off, none⟩ : Addr).add i = ⟨B, off + i, none⟩ := by unfold Addr.add; split <;> simp_all

def zeros (n : Nat) : Array Value := madeCells #[.int .i32 0] n
theorem info21 : (Try.prog.info? 21).map (fun i => (i.zero, i.size, i.bytes)) = some (some (.int .i32 0), 1, 4) := by kernel_rfl
theorem run_zeros (n : Nat) (h : n ≤ 1000000000) (w : World) :
    (Instr.makeSlice 22 (.int .i64 (n : Int)) (.int .i64 (n : Int))).run Try.prog w = .ok (.slice (some ⟨w.heap.size, 0, none⟩) n n) (w.alloc (.cells (zeros n) 21)) := by
  obtain ⟨i0, hi, hz0, hz1, hz2⟩ := info_parts info21
  have hr := run_make (P := Try.prog) w 22 21 i0 (.int .i32 0) Try.underlying22 hi hz0 .i64 .i64 (n : Int) (n : Int) (by omega) (by omega) (by rw [hz2]; omega) (by omega)
  rw [hr, hz1, Int.toNat_natCast, Nat.mul_one]
  rfl

theorem copy_nil (w : World) : Calls Try.prog 11 #[.slice none 0 0] w fun e w' => e = .returned (.slice none 0 0) ∧ w' = w := by
  have hq := fun w => Lib.run_eql_slice_nil (P := Try.prog) w 22 21 none 0 0 0 0 Try.underlying22
  go_enter Try.func11, Try.ntmps11
  go_wp2
  go_ret
  exact ⟨rfl, rfl⟩

set_option maxHeartbeats 1000000 in
theorem copy_some (w : World) (x : Addr) (f : Nat → Int) (n cap : Nat) (hn : n ≤ 65536) (hcell : ∀ i, i < n → w.cell? (x.add i) = some (.int .i32 (f i))) :
    Calls Try.prog 11 #[.slice (some x) n cap] w fun e w' => e = .returned (.slice (some ⟨w.heap.size, 0, none⟩) n n) ∧ ∃ c : Array Value, w' = w.alloc (.cells c 21) ∧ ∀ i, i < n → c[i]? = some (.int .i32 (f i)) := by
  have hmk := run_zeros n (by omega)
  have hq := fun w => Lib.run_eql_slice_nil (P := Try.prog) w 22 21 (some x) n cap 0 0 Try.underlying22
  have Hc := hide hcell
  clear hcell
  go_enter Try.func11, Try.ntmps11
  go_wp2_with fail
  clear hmk hq
  go_loopw [4] (fun v wr => ∃ (k : Nat) (c : Array Value), k ≤ n ∧ v = .int .i64 k ∧ wr = w.alloc (.cells c 21) ∧ c.size = n ∧ ∀ i, i < k → c[i]? = some (.int .i32 (f i))) (fun v _ => n - (intOf v).toNat)
  case atStart => exact ⟨0, _, Nat.zero_le _, rfl, rfl, by simp [zeros, size_madeCells], fun i hi => by omega⟩
  case round =>
    obtain ⟨k, c, hk, rfl, rfl, hcs, hci⟩ := hrel
    have Hcs := hide hcs
    have Hci := hide hci
    clear hcs hci
    by_cases hlt : k < n
    · have hc := Hc.out k hlt
      obtain ⟨B, off, spot⟩ := x
      have hspot : spot = none := by simpa [Addr.add] using World.cell?_spot (Hc.out 0 (by omega))
      subst hspot
      have h1 : w.cell? ⟨B, off + k, none⟩ = some (.int .i32 (f k)) := by rw [add_none] at hc; exact hc
      have hB : B < w.heap.size := World.block_lt_of_cell? w _ h1
      have h2 : (w.alloc (.cells c 21)).cell? ⟨B, off + k, none⟩ = some (.int .i32 (f k)) := by rw [World.cell?_alloc_lt _ _ _ hB]; exact h1
      have h3 : (k : Int) < (n : Int) := by omega
      obtain ⟨v0, h4⟩ : ∃ v0, c[k]? = some v0 := ⟨c[k]'(by rw [Hcs.out]; exact hlt), Array.getElem?_eq_getElem _⟩
      clear hc h1
      have hne : ¬ B = w.heap.size := by omega
      go_wp2
      go_roundw
      case rel => exact ⟨k + 1, _, by omega, by go_num, rfl, by simp [Hcs.out], fun i hi => by
        by_cases hik : i = k
        · subst hik
          have : i < c.size := by rw [Hcs.out]; exact hlt
          simp [this]
        · rw [Array.getElem?_setIfInBounds_ne (by omega)]
          exact Hci.out i (by omega)⟩
      case measure => simp [intOf] <;> omega
    · obtain rfl : n = k := by omega
      go_wp2
      go_ret
      exact ⟨rfl, c, rfl, Hci.out⟩
end Go.Proofs.Qxb6603091a
