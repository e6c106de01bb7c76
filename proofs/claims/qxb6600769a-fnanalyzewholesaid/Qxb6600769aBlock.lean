import Derived.Test.Qxb6600769aSmall
namespace Go.Proofs.Qxb6600769a
open Go.RowKit
set_option linter.unusedVariables false

set_option maxRecDepth 100000 in
set_option maxHeartbeats 4000000 in
theorem block_core (R C CN SZ per lines E A : Nat) (b : Bool) (w : World) (hn : R * C ≤ 65536) (hR : R ≤ 65536) (hC : C ≤ 65536) (hCN : CN ≤ 65536) (hSZ : SZ ≤ 65536) (hC0 : 0 < C)
    (l1 : 1 ≤ lines) (l2 : lines ≤ CN) (p1 : 1 ≤ per) (p2 : per ≤ SZ) (hAl : A + lines ≤ CN + 1) (hAl' : CN + 1 ≤ A + lines) (hEp : E + per ≤ SZ + 1) (hEp' : SZ + 1 ≤ E + per)
    (a1 : 1 ≤ A) (a2 : A ≤ CN) (a3 : 1 ≤ E) (a4 : E ≤ SZ) (hAE : A * E ≤ 65536) (hbnot : ¬ lines ≤ fullOf (hA E A 0) 0 SZ per CN) (hbis : lines ≤ fullOf (hA E (A - 1) (E - 1)) 0 SZ per CN)
    (hCNe : Hid (CN = if b then C else R)) (hSZe : Hid (SZ = if b then R else C)) (HbC : Hid ((if b then CN else SZ) ≤ C))
    (hgeom : Hid (∀ w, Calls Try.prog 35 #[.int .i64 R, .int .i64 C, .bool b] w fun e w' => e = .returned (.tuple #[.int .i64 CN, .int .i64 SZ]) ∧ w' = w))
    (hin : Hid (∀ l p, l < CN → p < SZ → cellOf C b l p < R * C)) :
    Calls Try.prog 17 #[.int .i64 R, .int .i64 C, .bool b, .int .i64 per, .int .i64 lines] w fun e w' =>
      e = .returned (.int .i64 ((A * E : Nat) : Int)) ∧ Below w.heap.size w w' := by
  have hmk := run_zeros R C (by omega)
  have Hbn := hide hbnot
  have Hbi := hide hbis
  clear hbnot hbis
  go_enter Try.func17, Try.ntmps17
  go_wp2_with (first | (go_at_call 35; refine (hgeom.out _).mono ?_; rintro e w1 ⟨rfl, hw1⟩; subst w1))
  clear hmk
  go_loopw [14, 15, 16] (fun de la l wr => ∃ (k : Nat) (c : Array Value), k ≤ A ∧ l = .int .i64 k ∧ de = .int .i64 k ∧ la = .int .i64 (lastAt C b E k 0) ∧ wr = w.alloc (.cells c 5) ∧ Lined c C b CN SZ (hA E k 0)) (fun _ _ l _ => A - (intOf l).toNat)
  case atStart => exact ⟨0, _, Nat.zero_le _, rfl, rfl, rfl, rfl, (Lined.zero hin.out).to (fun l p _ _ => by simp [hA])⟩
  case round =>
    obtain ⟨k, c, hk, rfl, rfl, rfl, rfl, hL⟩ := hrel
    by_cases hlt : k < A
    · have hd1 : decide (k < CN) = true := decide_eq_true (by omega)
      have hd2 : decide ((lines : Int) ≤ (CN : Int) - (k : Int)) = true := decide_eq_true (by omega)
      go_wp2_with fail
      go_loopw [15, 17, 18] (fun la li p wr => ∃ (j : Nat) (c : Array Value), j ≤ E ∧ p = .int .i64 j ∧ li = .int .i64 ((SZ : Int) - j) ∧ la = .int .i64 (lastAt C b E k j) ∧ wr = w.alloc (.cells c 5) ∧ Lined c C b CN SZ (hA E k j)) (fun _ _ p _ => E - (intOf p).toNat)
      case atStart => exact ⟨0, _, Nat.zero_le _, rfl, by go_num, rfl, rfl, hL⟩
      case round =>
        clear hL
        obtain ⟨j, c, hj, rfl, rfl, rfl, rfl, hL⟩ := hrel
        by_cases hjt : j < E
        · have h1 := hin.out k j (by omega) (by omega)
          have h2 := hL k j (by omega) (by omega)
          have h3 : ((cellOf C b k j : Nat) : Int) < ((R * C : Nat) : Int) := by omega
          have hL' := hL.store HbC.out (H' := hA E k (j + 1)) (l0 := k) (p0 := j) (v := 1) (by omega) (by omega) hA_next
          go_wp2_with (first | (go_at_call 36; refine (cell_any C b k j _ (by omega) (by omega) (by omega) (by omega)).mono ?_; rintro e w1 ⟨rfl, hw1⟩; subst w1))
          go_roundw
          case rel => exact ⟨j + 1, _, by omega, by go_num, by go_num, by rw [lastAt_succ], by first | trivial | rfl, hL'⟩
          case measure => simp [intOf] <;> omega
        · obtain rfl : E = j := by omega
          have hL' := hL.to hA_line
          have HE := hide (lastAt_line C b E k a3)
          clear hL
          by_cases hES : E < SZ
          all_goals
            go_wp2
            go_roundw
            case rel => exact ⟨k + 1, _, by omega, by go_num, by go_num, by rw [HE.out], by first | trivial | rfl, hL'⟩
            case measure => simp [intOf] <;> omega
    · obtain rfl : A = k := by omega
      have hla : lastAt C b E A 0 = ((cellOf C b (A - 1) (E - 1) : Nat) : Int) := lastAt_end C b E A a1
      rw [hla]
      clear hla
      have hin0 := hin.out (A - 1) (E - 1) (by omega) (by omega)
      have hq := Hbn.out
      have hcell : Hid (∀ l p, l < CN → p < SZ → (w.alloc (.cells c 5)).cell? ⟨w.heap.size, cellOf C b l p, none⟩ = some (.int .u8 (hA E A 0 l p))) :=
        fun l p hl hp => by rw [World.cell?_alloc_new]; exact hL l p hl hp
      have HL := hide hL
      clear hL
      have hneg : ¬ ((cellOf C b (A - 1) (E - 1) : Nat) : Int) < 0 := by omega
      by_cases hAC : A < CN
      all_goals
        go_wp2_with (first | (go_at_call 37; refine (quorum_core w.heap.size (R * C) _ R C CN SZ b _ _ (hA E A 0) _ (by omega) (by omega) (by omega) (by omega) (by omega) hgeom hin.out hcell.out).mono ?_; rintro e w1 ⟨rfl, hw1⟩; subst w1))
        clear hcell hq
        go_loopw [20, 21] (fun x y wr => ∃ q : Nat, q ≤ R * C ∧ y = .int .i64 q ∧ x = .int .i64 (cnt (fun i => gAt C b (hA E A 0) i == 1) q : Nat) ∧ wr = w.alloc (.cells c 5)) (fun _ y _ => R * C - (intOf y).toNat)
        case atStart => exact ⟨0, Nat.zero_le _, rfl, rfl, rfl⟩
        case round =>
          obtain ⟨q, hq, rfl, hx, rfl⟩ := hrel
          obtain ⟨X, hX⟩ : ∃ X, X = cnt (fun i => gAt C b (hA E A 0) i == 1) q := ⟨_, rfl⟩
          rw [← hX] at hx
          subst hx
          have hXq : X ≤ q := by rw [hX]; exact cnt_le _ _
          have HX := hide hX
          clear hX
          by_cases hqt : q < R * C
          · have h2 := HL.out.at hC0 hCNe.out hSZe.out hqt
            have h3 : (q : Int) < ((R * C : Nat) : Int) := by omega
            have hs : cnt (fun i => gAt C b (hA E A 0) i == 1) (q + 1) = cnt (fun i => gAt C b (hA E A 0) i == 1) q + (if gAt C b (hA E A 0) q == 1 then 1 else 0) := cnt_succ _ _
            rw [← HX.out] at hs
            have Hs := hide hs
            clear hs
            cases hg : (gAt C b (hA E A 0) q == 1)
            all_goals
              have Hg := hide hg
              go_wp2
              clear hg
              go_roundw
              case rel => exact ⟨q + 1, by omega, by go_num, by rw [Hs.out, Hg.out]; go_num, by first | trivial | rfl⟩
              case measure => simp [intOf] <;> omega
          · have hqe : q = R * C := by omega
            have hXe : X = A * E := by rw [HX.out, hqe]; exact gAt_cnt hC0 hCNe.out hSZe.out a2 a4
            have HXe := hide hXe
            clear hXe HX
            have h2 := HL.out (A - 1) (E - 1) (by omega) (by omega)
            have h3 : ((cellOf C b (A - 1) (E - 1) : Nat) : Int) < ((R * C : Nat) : Int) := by omega
            have hL' := HL.out.store HbC.out (l0 := A - 1) (p0 := E - 1) (v := 0) (by omega) (by omega) (hA_wipe a1 a3)
            have hcell : Hid (∀ l p, l < CN → p < SZ → (w.alloc (.cells (c.setIfInBounds (cellOf C b (A - 1) (E - 1)) (.int .u8 0)) 5)).cell? ⟨w.heap.size, cellOf C b l p, none⟩ = some (.int .u8 (hA E (A - 1) (E - 1) l p))) :=
              fun l p hl hp => by rw [World.cell?_alloc_new]; exact hL' l p hl hp
            have hq2 := Hbi.out
            have Hqe := hide hqe
            clear hL' hqe
            have hqn : ¬ q < R * C := hqt
            go_wp2_with (first | (go_at_call 37; refine (quorum_core w.heap.size (R * C) _ R C CN SZ b _ _ (hA E (A - 1) (E - 1)) _ (by omega) (by omega) (by omega) (by omega) (by omega) hgeom hin.out hcell.out).mono ?_; rintro e w1 ⟨rfl, hw1⟩; subst w1))
            go_ret
            exact ⟨by rw [← HXe.out]; rfl, (Below.refl _ _).alloc (Nat.le_refl _) _⟩
end Go.Proofs.Qxb6600769a
