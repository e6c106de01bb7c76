import Derived.Test.Qxb6601930aBase
namespace Go.Proofs.Qxb6601930a
open Go.RowKit
set_option linter.unusedVariables false

/-- The length of the run of backslashes that ends right before k, over indices beyond i. -/
def runAt (f : Nat → Int) (i : Nat) : Nat → Nat
  | 0 => 0
  | k + 1 => if i < k ∧ f k = 92 then runAt f i k + 1 else 0

theorem runAt_hit {f : Nat → Int} {i k : Nat} (hi : i < k) (h : f k = 92) : runAt f i (k + 1) = runAt f i k + 1 := by simp [runAt, hi, h]
theorem runAt_miss {f : Nat → Int} {i k : Nat} (h : ¬ (i < k ∧ f k = 92)) : runAt f i (k + 1) = 0 := by simp [runAt, h]

/-- An unescaped quote stands at k. -/
def Quote (f : Nat → Int) (i k : Nat) : Prop := f k = 34 ∧ runAt f i k % 2 = 0

/-- The first unescaped quote behind i stands at K. -/
def First (f : Nat → Int) (i K : Nat) : Prop := i < K ∧ Quote f i K ∧ ∀ k, i < k → k < K → ¬ Quote f i k

theorem runAt_le (f : Nat → Int) (i k : Nat) : runAt f i k ≤ k := by
  induction k with
  | zero => exact Nat.le_refl _
  | succ k ih => unfold runAt; split <;> omega

set_option maxHeartbeats 1000000 in
theorem runs_any (B n cap i : Nat) (f : Nat → Int) (w : World) (hn : n ≤ 1048576) (hi : i < n) (hcell : ∀ k, k < n → w.cell? ⟨B, k, none⟩ = some (.int .u8 (f k))) :
    Calls Try.prog 15 #[.slice (some ⟨B, 0, none⟩) n cap, .int .i64 i] w fun e w' => ((e = .returned (.tuple #[.int .i64 0, .bool false])) ∨ (∃ K : Nat, e = .returned (.tuple #[.int .i64 (K + 1), .bool true]) ∧ K < n ∧ First f i K)) ∧ w' = w := by
  have Hc := hide hcell
  clear hcell
  go_enter Try.func15, Try.ntmps15
  go_wp2
  go_loop [6] (fun x => ∃ k : Nat, i < k ∧ k ≤ n ∧ x = .int .i64 k ∧ ∀ j, i < j → j < k → ¬ Quote f i j) (fun x => n - (intOf x).toNat)
  case atStart => exact ⟨i + 1, by omega, by omega, by go_num, fun j h1 h2 => by omega⟩
  case round =>
    obtain ⟨k, hik, hk, rfl, hno⟩ := hrel
    have Hno := hide hno
    clear hno
    by_cases hlt : k < n
    · have h1 := Hc.out k hlt
      have h2 : (k : Int) < (n : Int) := by omega
      by_cases hq : f k = 34
      · have hq' : (f k != 34) = false := by simp [hq]
        have Hq := hide hq
        clear hq
        go_wp2
        go_loop [7, 8] (fun r p => ∃ m : Nat, m + i + 1 ≤ k ∧ r = .int .i64 m ∧ p = .int .i64 ((k : Int) - 1 - m) ∧ runAt f i k = m + runAt f i (k - m)) (fun r _ => k - (intOf r).toNat)
        case atStart => exact ⟨0, by omega, rfl, by go_num, by simp⟩
        case round =>
          obtain ⟨m, hm, rfl, rfl, hr⟩ := hrel
          have Hr := hide hr
          clear hr
          by_cases hp : i < k - 1 - m
          · obtain ⟨p, hpe⟩ : ∃ p, k - m = p + 1 := ⟨k - m - 1, by omega⟩
            have e1 : (k : Int) - 1 - m = (p : Int) := by omega
            have h3 := Hc.out p (by omega)
            have h4 : (p : Int) < (n : Int) := by omega
            have h5 : i < p := by omega
            by_cases hb : f p = 92
            · have hb' : (f p == 92) = true := by simp [hb]
              have Hb := hide hb
              clear hb
              have Hpe := hide hpe
              clear hpe
              rw [e1]
              go_wp2
              go_round
              case rel => exact ⟨m + 1, by have := Hpe.out; omega, by go_num, by have := Hpe.out; go_num, by
                rw [Hr.out, Hpe.out, runAt_hit h5 Hb.out]
                have : k - (m + 1) = p := by have := Hpe.out; omega
                rw [this]; omega⟩
              case measure => simp [intOf]; omega
            · have hb' : (f p == 92) = false := by simp [hb]
              have Hb := hide hb
              clear hb
              have Hpe := hide hpe
              clear hpe
              have Hm : Hid (runAt f i k = m) := by rw [Hr.out, Hpe.out, runAt_miss (fun h => Hb.out h.2)]; rfl
              clear Hr
              rw [e1]
              by_cases hev : m % 2 = 0
              · have hev' : ((m : Int) % 2 == 0) = true := by simp; omega
                have hev2 : (m : Int) % 2 = 0 := by omega
                go_wp2
                go_ret2
                exact ⟨.inr ⟨k, rfl, hlt, hik, ⟨Hq.out, by rw [Hm.out]; exact hev⟩, Hno.out⟩, rfl⟩
              · have hev' : ((m : Int) % 2 == 0) = false := by simp; omega
                have hev2 : ¬ (m : Int) % 2 = 0 := by omega
                go_wp2
                go_round
                case rel => exact ⟨k + 1, by omega, by omega, by go_num, fun j h1 h2 => by
                  by_cases hj : j < k
                  · exact Hno.out j h1 hj
                  · obtain rfl : j = k := by omega
                    exact fun hQ => hev (by rw [← Hm.out]; exact hQ.2)⟩
                case measure => simp [intOf]; omega
          · have h4 : ¬ (i : Int) < (k : Int) - 1 - m := by omega
            have Hm : Hid (runAt f i k = m) := by 
                obtain ⟨p, hpe⟩ : ∃ p, k - m = p + 1 := ⟨k - m - 1, by omega⟩
                rw [Hr.out, hpe, runAt_miss (fun h => by omega)]; rfl
            clear Hr
            by_cases hev : m % 2 = 0
            · have hev' : ((m : Int) % 2 == 0) = true := by simp; omega
              have hev2 : (m : Int) % 2 = 0 := by omega
              go_wp2
              go_ret2
              exact ⟨.inr ⟨k, rfl, hlt, hik, ⟨Hq.out, by rw [Hm.out]; exact hev⟩, Hno.out⟩, rfl⟩
            · have hev' : ((m : Int) % 2 == 0) = false := by simp; omega
              have hev2 : ¬ (m : Int) % 2 = 0 := by omega
              go_wp2
              go_round
              case rel => exact ⟨k + 1, by omega, by omega, by go_num, fun j h1 h2 => by
                by_cases hj : j < k
                · exact Hno.out j h1 hj
                · obtain rfl : j = k := by omega
                  exact fun hQ => hev (by rw [← Hm.out]; exact hQ.2)⟩
              case measure => simp [intOf]; omega
      · have hq' : (f k != 34) = true := by simp [hq]
        have Hq := hide hq
        clear hq
        go_wp2
        go_round
        case rel => exact ⟨k + 1, by omega, by omega, by go_num, fun j h1 h2 => by
          by_cases hj : j < k
          · exact Hno.out j h1 hj
          · obtain rfl : j = k := by omega
            exact fun hQ => Hq.out hQ.1⟩
        case measure => simp [intOf]; omega
    · obtain rfl : n = k := by omega
      go_wp2
      go_ret2
      exact ⟨.inl rfl, rfl⟩

set_option maxHeartbeats 1000000 in
theorem end_any (B n cap i K : Nat) (f : Nat → Int) (w : World) (hn : n ≤ 1048576) (hK : K < n) (hF : First f i K) (hcell : ∀ k, k < n → w.cell? ⟨B, k, none⟩ = some (.int .u8 (f k))) :
    Calls Try.prog 16 #[.slice (some ⟨B, 0, none⟩) n cap, .int .i64 i] w fun e w' => e = .returned (.int .i64 (K + 1)) ∧ w' = w := by
  have Hc := hide hcell
  have HF := hide hF
  have hiK := hF.1
  clear hcell hF
  go_enter Try.func16, Try.ntmps16
  go_wp2
  go_loop [1] (fun x => ∃ p : Nat, i < p ∧ p ≤ K ∧ x = .int .i64 p ∧ runAt f i p % 2 = 0) (fun x => n - (intOf x).toNat)
  case atStart => exact ⟨i + 1, by omega, by omega, by go_num, by rw [runAt_miss (fun h => by omega)]⟩
  case round =>
    obtain ⟨p, hip, hpK, rfl, hev⟩ := hrel
    have Hev := hide hev
    clear hev
    have h1 := Hc.out p (by omega)
    have h2 : (p : Int) < (n : Int) := by omega
    by_cases hq : f p = 34
    · have hpe : p = K := by
        rcases Nat.lt_or_ge p K with h | h
        · exact absurd ⟨hq, Hev.out⟩ (HF.out.2.2 p hip h)
        · omega
      obtain rfl : K = p := hpe.symm
      have hq' : (f K != 34) = false := by simp [hq]
      clear hq hpe
      go_wp2
      go_ret
      exact ⟨rfl, rfl⟩
    · have hlt : p < K := by
        rcases Nat.lt_or_ge p K with h | h
        · exact h
        · obtain rfl : p = K := by omega
          exact absurd HF.out.2.1.1 hq
      have hq' : (f p != 34) = true := by simp [hq]
      by_cases hb : f p = 92
      · have hb' : (f p == 92) = true := by simp [hb]
        have hr : runAt f i (p + 1) = runAt f i p + 1 := runAt_hit hip hb
        have hne : p + 1 ≠ K := fun h => by
          have h3 := HF.out.2.1.2
          rw [← h, hr] at h3
          have := Hev.out
          omega
        have hr2 : Hid (runAt f i (p + 2) % 2 = 0) := by
          show runAt f i (p + 2) % 2 = 0
          by_cases hb2 : f (p + 1) = 92
          · rw [runAt_hit (by omega) hb2, hr]
            have := Hev.out
            omega
          · rw [runAt_miss (fun h => hb2 h.2)]
        clear hq hb hr
        go_wp2
        go_round
        case rel => exact ⟨p + 2, by omega, by omega, by go_num, hr2.out⟩
        case measure => simp [intOf]; omega
      · have hb' : (f p == 92) = false := by simp [hb]
        have hr2 : Hid (runAt f i (p + 1) % 2 = 0) := by
          show runAt f i (p + 1) % 2 = 0
          rw [runAt_miss (fun h => hb h.2)]
        clear hq hb
        go_wp2
        go_round
        case rel => exact ⟨p + 1, by omega, by omega, by go_num, hr2.out⟩
        case measure => simp [intOf]; omega

theorem bytes_any14 (ao : Option Addr) (n cap : Nat) (i : Int) (w : World) (hn : n ≤ maxLen) :
    Calls Try.prog 14 #[.slice ao n cap, .int .i64 i] w fun e w' => e = .returned (.bool (decide (n ≤ 1048576))) ∧ w' = w := by
  unfold maxLen at hn
  by_cases h : n ≤ 1048576
  · have hd : decide (n ≤ 1048576) = true := by simpa using h
    rw [hd]
    clear hd
    go_enter Try.func14, Try.ntmps14
    go_wp2
    go_ret
    exact ⟨rfl, rfl⟩
  · have hd : decide (n ≤ 1048576) = false := by simpa using h
    rw [hd]
    clear hd
    go_enter Try.func14, Try.ntmps14
    go_wp2
    go_ret
    exact ⟨rfl, rfl⟩
end Go.Proofs.Qxb6601930a
