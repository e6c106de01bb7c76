import Derived.Test.Qxb6600769aBlock
import Derived.Test.Qxb6600769aPair
namespace Go.Proofs.Qxb6600769a
open Go.RowKit
set_option linter.unusedVariables false

theorem prod_le {A E CN SZ N : Nat} (h1 : A ≤ CN) (h2 : E ≤ SZ) (h : CN * SZ ≤ N) : A * E ≤ N := Nat.le_trans (Nat.mul_le_mul h1 h2) h

theorem small_nat (R C E A : Nat) (b : Bool) (w : World) (hn : R * C ≤ 65536) (hR : R ≤ 65536) (hC : C ≤ 65536) (hR0 : 1 ≤ R) (hC0 : 1 ≤ C)
    (a1 : 1 ≤ A) (a2 : A ≤ (if b then C else R)) (a3 : 1 ≤ E) (a4 : E ≤ (if b then R else C)) :
    Calls Try.prog 16 #[.int .i64 R, .int .i64 C, .bool b, .int .i64 E, .int .i64 A] w fun e w' =>
      e = .returned (.int .i64 ((A * E : Nat) : Int)) ∧ Below w.heap.size w w' := by
  cases b
  · simp only [Bool.false_eq_true, if_false] at a2 a4
    exact small_core R C R C E A false w hn hR hC hR hC hC0 a1 a2 a3 a4 (prod_le a2 a4 hn) rfl rfl (Nat.le_refl C) (geom_f R C) (fun l p hl hp => idx_lt hl hp)
  · simp only [if_true] at a2 a4
    exact small_core R C C R E A true w hn hR hC hC hR hC0 a1 a2 a3 a4 (prod_le a2 a4 (by rw [Nat.mul_comm]; exact hn)) rfl rfl (Nat.le_refl C) (geom_t R C) (fun l p hl hp => idx_lt hp hl)

theorem block_nat (R C E A : Nat) (b : Bool) (w : World) (hn : R * C ≤ 65536) (hR : R ≤ 65536) (hC : C ≤ 65536) (hR0 : 1 ≤ R) (hC0 : 1 ≤ C)
    (a1 : 1 ≤ A) (a2 : A ≤ (if b then C else R)) (a3 : 1 ≤ E) (a4 : E ≤ (if b then R else C)) :
    Calls Try.prog 17 #[.int .i64 R, .int .i64 C, .bool b, .int .i64 E, .int .i64 A] w fun e w' =>
      e = .returned (.int .i64 ((((if b then C else R) - A + 1) * ((if b then R else C) - E + 1) : Nat) : Int)) ∧ Below w.heap.size w w' := by
  cases b
  · simp only [Bool.false_eq_true, if_false] at a2 a4 ⊢
    have hi := block_is a1 a2 a3 a4
    have e1 : R - A + 1 - 1 = R - A := by omega
    have e2 : C - E + 1 - 1 = C - E := by omega
    exact block_core R C R C E A (C - E + 1) (R - A + 1) false w hn hR hC hR hC hC0 a1 a2 a3 a4 (by omega) (by omega) (by omega) (by omega) (by omega) (by omega) (by omega) (by omega) (prod_le (by omega) (by omega) hn) (block_not a1 a2 a3 a4) (by rw [e1, e2]; exact hi) rfl rfl (Nat.le_refl C) (geom_f R C) (fun l p hl hp => idx_lt hl hp)
  · simp only [if_true] at a2 a4 ⊢
    have hi := block_is a1 a2 a3 a4
    have e1 : C - A + 1 - 1 = C - A := by omega
    have e2 : R - E + 1 - 1 = R - E := by omega
    have hn' : C * R ≤ 65536 := by rw [Nat.mul_comm]; exact hn
    exact block_core R C C R E A (R - E + 1) (C - A + 1) true w hn hR hC hC hR hC0 a1 a2 a3 a4 (by omega) (by omega) (by omega) (by omega) (by omega) (by omega) (by omega) (by omega) (prod_le (by omega) (by omega) hn') (block_not a1 a2 a3 a4) (by rw [e1, e2]; exact hi) rfl rfl (Nat.le_refl C) (geom_t R C) (fun l p hl hp => idx_lt hp hl)

theorem small_any (r c : Int) (b : Bool) (p l : Int) (w : World) (hr : 1 ≤ r) (hc : 1 ≤ c) (hrl : r ≤ 65536) (hcl : c ≤ 65536) (hrc : r * c ≤ 65536) (k1 : 1 ≤ l) (k2 : l ≤ cntOf r c b) (k3 : 1 ≤ p) (k4 : p ≤ sizOf r c b) :
    Calls Try.prog 16 #[.int .i64 r, .int .i64 c, .bool b, .int .i64 p, .int .i64 l] w fun e w' => e = .returned (.int .i64 (p * l)) ∧ Below w.heap.size w w' := by
  obtain ⟨R, rfl⟩ := Int.eq_ofNat_of_zero_le (show 0 ≤ r by omega)
  obtain ⟨C, rfl⟩ := Int.eq_ofNat_of_zero_le (show 0 ≤ c by omega)
  obtain ⟨P, rfl⟩ := Int.eq_ofNat_of_zero_le (show 0 ≤ p by omega)
  obtain ⟨L, rfl⟩ := Int.eq_ofNat_of_zero_le (show 0 ≤ l by omega)
  have hn : R * C ≤ 65536 := by
    have : ((R * C : Nat) : Int) ≤ 65536 := by simpa using hrc
    omega
  refine (small_nat R C P L b w hn (by omega) (by omega) (by omega) (by omega) (by omega) ?_ (by omega) ?_).mono ?_
  · cases b <;> simp [cntOf] at k2 ⊢ <;> omega
  · cases b <;> simp [sizOf] at k4 ⊢ <;> omega
  · rintro e w' ⟨rfl, hb⟩
    refine ⟨?_, hb⟩
    have : ((L * P : Nat) : Int) = (P : Int) * (L : Int) := by rw [Nat.mul_comm]; simp
    rw [this]

theorem block_any (r c : Int) (b : Bool) (p l : Int) (w : World) (hr : 1 ≤ r) (hc : 1 ≤ c) (hrl : r ≤ 65536) (hcl : c ≤ 65536) (hrc : r * c ≤ 65536) (k1 : 1 ≤ l) (k2 : l ≤ cntOf r c b) (k3 : 1 ≤ p) (k4 : p ≤ sizOf r c b) :
    Calls Try.prog 17 #[.int .i64 r, .int .i64 c, .bool b, .int .i64 p, .int .i64 l] w fun e w' => e = .returned (.int .i64 (bbP r c b p l)) ∧ Below w.heap.size w w' := by
  obtain ⟨R, rfl⟩ := Int.eq_ofNat_of_zero_le (show 0 ≤ r by omega)
  obtain ⟨C, rfl⟩ := Int.eq_ofNat_of_zero_le (show 0 ≤ c by omega)
  obtain ⟨P, rfl⟩ := Int.eq_ofNat_of_zero_le (show 0 ≤ p by omega)
  obtain ⟨L, rfl⟩ := Int.eq_ofNat_of_zero_le (show 0 ≤ l by omega)
  have hn : R * C ≤ 65536 := by
    have : ((R * C : Nat) : Int) ≤ 65536 := by simpa using hrc
    omega
  refine (block_nat R C P L b w hn (by omega) (by omega) (by omega) (by omega) (by omega) ?_ (by omega) ?_).mono ?_
  · cases b <;> simp [cntOf] at k2 ⊢ <;> omega
  · cases b <;> simp [sizOf] at k4 ⊢ <;> omega
  · rintro e w' ⟨rfl, hb⟩
    refine ⟨?_, hb⟩
    congr 2
    unfold bbP
    cases b
    · simp [cntOf, sizOf] at k2 k4 ⊢
      have e1 : ((R - L : Nat) : Int) = (R : Int) - L := by omega
      have e2 : ((C - P : Nat) : Int) = (C : Int) - P := by omega
      rw [e1, e2]
    · simp [cntOf, sizOf] at k2 k4 ⊢
      have e1 : ((C - L : Nat) : Int) = (C : Int) - L := by omega
      have e2 : ((R - P : Nat) : Int) = (R : Int) - P := by omega
      rw [e1, e2]

theorem analyze_zero (r c : Int) (b1 : Bool) (p1 l1 : Int) (b2 : Bool) (p2 l2 : Int) (w : World) :
    Calls Try.prog 15 #[.agg #[.int .u8 0, .int .i64 r, .int .i64 c, .bool b1, .int .i64 p1, .int .i64 l1, .bool b2, .int .i64 p2, .int .i64 l2, .bool false]] w fun e w' =>
      e = .returned (.agg #[.int .u8 0, .int .i64 0, .int .i64 0, .int .i64 0, .bool false, .int .i64 0, .int .i64 0]) ∧ Below w.heap.size w w' := by
  go_enter Try.func15, Try.ntmps15
  go_wp2
  exact bodyPost_ret (v := .agg #[.int .u8 0, .int .i64 0, .int .i64 0, .int .i64 0, .bool false, .int .i64 0, .int .i64 0]) (by simp [results, Try.results15, go_sem]) rfl ⟨rfl, ((Below.refl _ _).alloc (Nat.le_refl _) _).alloc (by simp) _⟩

set_option maxHeartbeats 2000000 in
theorem whole_zero (a1 : Int) (a2 : Int) (a3 : Bool) (a4 : Int) (a5 : Int) (a6 : Bool) (a7 : Int) (a8 : Int) (w : World) :
    Calls Try.prog 6 #[.int .u8 0, .int .i64 a1, .int .i64 a2, .bool a3, .int .i64 a4, .int .i64 a5, .bool a6, .int .i64 a7, .int .i64 a8] w fun e w' => e = .returned (.bool true) ∧ Below w.heap.size w w' := by
  go_enter Try.func6, Try.ntmps6
  go_wp2_with fail
  go_region_held3 (fun w' => w'.cell? ⟨w.heap.size, 0, none⟩ = some (.int .u8 0) ∧ w'.cell? ⟨w.heap.size, 1, none⟩ = some (.int .i64 0) ∧ w'.cell? ⟨w.heap.size, 2, none⟩ = some (.int .i64 0) ∧
      w'.cell? ⟨w.heap.size, 3, none⟩ = some (.int .i64 0) ∧ w'.cell? ⟨w.heap.size, 4, none⟩ = some (.bool false) ∧ w'.cell? ⟨w.heap.size, 5, none⟩ = some (.int .i64 0) ∧ w'.cell? ⟨w.heap.size, 6, none⟩ = some (.int .i64 0))
    (first | (have hk := fun o => hc w.heap.size o (by first | omega | (simp; omega)); simp only [hk]; assumption) | go_keep)
    (first
      | (go_at_call 11; refine (zzdesign_any _ _ _ _ _ _ _ _ _ _).mono ?_; rintro e w' ⟨rfl, hb1⟩; obtain ⟨hc, hf⟩ := bcell hb1; have hz : w.heap.size < w'.heap.size := by (have := hb1.size; first | omega | (simp at this; omega)))
      | (go_at_call 15; refine (analyze_zero _ _ _ _ _ _ _ _ _).mono ?_; rintro e w' ⟨rfl, hb2⟩; obtain ⟨hc, hf⟩ := bcell hb2; have hz : w.heap.size < w'.heap.size := by (have := hb2.size; first | omega | (simp at this; omega))))
  have hbel := below_call hb2 (below_call hb1 (B := w.heap.size) (w := w) ((Below.refl _ _).alloc (Nat.le_refl _) _).drew (by simp)) (by omega)

  go_wp2
  go_ret
  exact ⟨rfl, hbel⟩
end Go.Proofs.Qxb6600769a
