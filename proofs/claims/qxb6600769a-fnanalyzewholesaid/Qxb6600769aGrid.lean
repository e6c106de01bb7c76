import Derived.Test.Qxb6600769aDesign
import Derived.Test.Qxb6600769aGridLaw
namespace Go.Proofs.Qxb6600769a
open Go.RowKit
set_option linter.unusedVariables false

def cellOf (C : Nat) (b : Bool) (l p : Nat) : Nat := if b then p * C + l else l * C + p
theorem cell_any (C : Nat) (b : Bool) (l p : Nat) (w : World) (hC : C ≤ 1000000000) (hl : l ≤ 1000000000) (hp : p ≤ 1000000000) (h : cellOf C b l p ≤ 1000000000) :
    Calls Try.prog 36 #[.int .i64 C, .bool b, .int .i64 l, .int .i64 p] w fun e w' => e = .returned (.int .i64 (cellOf C b l p : Nat)) ∧ w' = w := by
  cases b
  · simp only [cellOf, Bool.false_eq_true, if_false] at h ⊢
    have h' : l * C ≤ 1000000000 := by omega
    go_enter Try.func36, Try.ntmps36
    go_wp2
    go_ret
    exact ⟨by simp, rfl⟩
  · simp only [cellOf, if_true] at h ⊢
    have h' : p * C ≤ 1000000000 := by omega
    go_enter Try.func36, Try.ntmps36
    go_wp2
    go_ret
    exact ⟨by simp, rfl⟩

theorem idx_lt {R C i j : Nat} (hi : i < R) (hj : j < C) : i * C + j < R * C := by
  have : (i + 1) * C ≤ R * C := Nat.mul_le_mul_right _ hi
  rw [Nat.add_mul] at this; omega

theorem cellOf_lt {R C : Nat} {b : Bool} {l p : Nat} (hl : l < (if b then C else R)) (hp : p < (if b then R else C)) : cellOf C b l p < R * C := by
  cases b
  · exact idx_lt hl hp
  · exact idx_lt hp hl

theorem ret_bool {a b : Bool} (h : a = b) : Ending.returned (.bool a) = .returned (.bool b) := by rw [h]

set_option maxHeartbeats 1000000 in
theorem quorum_core (B n : Nat) (who : Int) (R C CN SZ : Nat) (b : Bool) (per lines : Int) (H : Nat → Nat → Int) (w : World) (hn : n ≤ 1000000000) (hR : R ≤ 1000000000) (hC : C ≤ 1000000000) (hCN : CN ≤ 1000000000) (hSZ : SZ ≤ 1000000000)
    (hgeom : Hid (∀ w, Calls Try.prog 35 #[.int .i64 R, .int .i64 C, .bool b] w fun e w' => e = .returned (.tuple #[.int .i64 CN, .int .i64 SZ]) ∧ w' = w))
    (hin : ∀ l p, l < CN → p < SZ → cellOf C b l p < n)
    (hcell : ∀ l p, l < CN → p < SZ → w.cell? ⟨B, cellOf C b l p, none⟩ = some (.int .u8 (H l p))) :
    Calls Try.prog 37 #[.slice (some ⟨B, 0, none⟩) n n, .int .u8 who, .int .i64 R, .int .i64 C, .bool b, .int .i64 per, .int .i64 lines] w fun e w' =>
      e = .returned (.bool (decide (lines ≤ (fullOf H who SZ per CN : Int)))) ∧ w' = w := by
  have hin' : Hid (∀ l p, l < CN → p < SZ → cellOf C b l p < n) := hin
  have hcell' : Hid (∀ l p, l < CN → p < SZ → w.cell? ⟨B, cellOf C b l p, none⟩ = some (.int .u8 (H l p))) := hcell
  clear hin hcell
  go_enter Try.func37, Try.ntmps37
  go_wp2_with (first | (go_at_call 35; refine (hgeom.out _).mono ?_; rintro e w' ⟨rfl, rfl⟩))
  go_loop [17, 18] (fun f l => ∃ k : Nat, k ≤ CN ∧ l = .int .i64 k ∧ f = .int .i64 (fullOf H who SZ per k : Nat)) (fun _ l => CN - (intOf l).toNat)
  case atStart => exact ⟨0, Nat.zero_le _, rfl, rfl⟩
  case round =>
    obtain ⟨k, hk, rfl, rfl⟩ := hrel
    have hfl : fullOf H who SZ per k ≤ k := cnt_le _ _
    by_cases hlt : k < CN
    · go_wp2_with fail
      go_loop [19, 20] (fun g p => ∃ j : Nat, j ≤ SZ ∧ p = .int .i64 j ∧ g = .int .i64 (lineCnt H who j k : Nat)) (fun _ p => SZ - (intOf p).toNat)
      case atStart => exact ⟨0, Nat.zero_le _, rfl, rfl⟩
      case round =>
        obtain ⟨j, hj, rfl, rfl⟩ := hrel
        have hcl : lineCnt H who j k ≤ j := cnt_le _ _
        by_cases hjt : j < SZ
        · have h1 := hin'.out k j hlt hjt
          have h2 := hcell'.out k j hlt hjt
          have h3 : lineCnt H who (j + 1) k = lineCnt H who j k + if (H k j == who) = true then 1 else 0 := rfl
          have H3 : Hid (lineCnt H who (j + 1) k = lineCnt H who j k + if (H k j == who) = true then 1 else 0) := h3
          clear h3
          have h1' : ((cellOf C b k j : Nat) : Int) < (n : Int) := by omega
          cases hw : (H k j == who)
          all_goals
            go_wp2_with (first | (go_at_call 36; refine (cell_any C b k j _ (by omega) (by omega) (by omega) (by omega)).mono ?_; rintro e w' ⟨rfl, rfl⟩))
            go_round
            case rel => exact ⟨j + 1, by omega, by go_num, by rw [H3.out, hw]; go_num⟩
            case measure => simp [intOf]; omega
        · have hjS : j = SZ := by omega
          subst hjS
          have h3 : fullOf H who j per (k + 1) = fullOf H who j per k + if decide (per ≤ (lineCnt H who j k : Int)) = true then 1 else 0 := rfl
          have H3 : Hid (fullOf H who j per (k + 1) = fullOf H who j per k + if decide (per ≤ (lineCnt H who j k : Int)) = true then 1 else 0) := h3
          clear h3
          by_cases hp : per ≤ (lineCnt H who j k : Int)
          · go_wp2
            go_round
            case rel => exact ⟨k + 1, by omega, by go_num, by rw [H3.out, if_pos (by simpa using hp)]; go_num⟩
            case measure => simp [intOf]; omega
          · go_wp2
            go_round
            case rel => exact ⟨k + 1, by omega, by go_num, by rw [H3.out, if_neg (by simpa using hp)]; go_num⟩
            case measure => simp [intOf]; omega
    · have hkC : k = CN := by omega
      subst hkC
      go_wp2
      go_ret
      exact ⟨rfl, rfl⟩
end Go.Proofs.Qxb6600769a
