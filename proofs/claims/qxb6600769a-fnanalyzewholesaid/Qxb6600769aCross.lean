import Derived.Test.Qxb6600769aSame
namespace Go.Proofs.Qxb6600769a
open Go.RowKit
set_option linter.unusedVariables false

theorem idxI {R C i j : Nat} (h : i * C + j < R * C) : ((i : Int) * (C : Int) + (j : Int)) < ((R * C : Nat) : Int) := by
  have : ((i * C + j : Nat) : Int) < ((R * C : Nat) : Int) := by omega
  simpa using this

/-- The rows' turn: the rows below k are done, and of row k the columns below jj. Line j is a column, place i a row. -/
def gR (F M L need : Nat) (rW : Int) (k jj : Nat) (j i : Nat) : Int := if rowMark F M L need k i j = true ∨ (i = k ∧ j < jj) then rW else 0
/-- The rows' turn: the rows below k are done, of row k the columns below M and q crossings. -/
def gR2 (F M L need : Nat) (rW : Int) (k q : Nat) (j i : Nat) : Int := if rowMark F M L need k i j = true ∨ (i = k ∧ (j < M ∨ (F ≤ j ∧ 0 < hits L (k * need) (j - F) q))) then rW else 0

theorem gR_zero {F M L need : Nat} {rW : Int} (j i : Nat) : gR F M L need rW 0 0 j i = 0 := by
  unfold gR
  rw [if_neg]
  rintro (h | h)
  · simp [rowMark] at h
  · omega
theorem gR_next {F M L need k jj CN SZ : Nat} {rW : Int} : ∀ j i, j < CN → i < SZ → gR F M L need rW k (jj + 1) j i = if j = jj ∧ i = k then rW else gR F M L need rW k jj j i := by
  intro j i _ _
  unfold gR
  by_cases h1 : j = jj ∧ i = k
  · rw [if_pos h1, if_pos (.inr (by omega))]
  · rw [if_neg h1]
    have : (rowMark F M L need k i j = true ∨ (i = k ∧ j < jj + 1)) = (rowMark F M L need k i j = true ∨ (i = k ∧ j < jj)) := by
      apply propext
      constructor
      · rintro (h | h)
        · exact .inl h
        · exact .inr (by omega)
      · rintro (h | h)
        · exact .inl h
        · exact .inr (by omega)
    simp only [this]
theorem gR_mid {F M L need k CN SZ : Nat} {rW : Int} : ∀ j i, j < CN → i < SZ → gR F M L need rW k M j i = gR2 F M L need rW k 0 j i := by
  intro j i _ _
  have : hits L (k * need) (j - F) 0 = 0 := rfl
  simp [gR, gR2, this]
theorem gR2_next {F M L need k q CN SZ : Nat} {rW : Int} (hL : 0 < L) : ∀ j i, j < CN → i < SZ → gR2 F M L need rW k (q + 1) j i = if j = F + (k * need + q) % L ∧ i = k then rW else gR2 F M L need rW k q j i := by
  intro j i _ _
  have hs : hits L (k * need) (j - F) (q + 1) = hits L (k * need) (j - F) q + (if decide ((k * need + q) % L = j - F) = true then 1 else 0) := rfl
  unfold gR2
  by_cases h1 : j = F + (k * need + q) % L ∧ i = k
  · rw [if_pos h1, if_pos]
    refine .inr ⟨h1.2, .inr ⟨by omega, ?_⟩⟩
    rw [hs, if_pos (by simp; omega)]; omega
  · rw [if_neg h1]
    have : (rowMark F M L need k i j = true ∨ (i = k ∧ (j < M ∨ (F ≤ j ∧ 0 < hits L (k * need) (j - F) (q + 1))))) = (rowMark F M L need k i j = true ∨ (i = k ∧ (j < M ∨ (F ≤ j ∧ 0 < hits L (k * need) (j - F) q)))) := by
      apply propext
      constructor
      · rintro (h | ⟨h, h' | ⟨h', h''⟩⟩)
        · exact .inl h
        · exact .inr ⟨h, .inl h'⟩
        · refine .inr ⟨h, .inr ⟨h', ?_⟩⟩
          rw [hs, if_neg (by simp; omega)] at h''
          omega
      · rintro (h | ⟨h, h' | ⟨h', h''⟩⟩)
        · exact .inl h
        · exact .inr ⟨h, .inl h'⟩
        · exact .inr ⟨h, .inr ⟨h', by omega⟩⟩
    simp only [this]
theorem gR2_line {F M L need k CN SZ : Nat} {rW : Int} : ∀ j i, j < CN → i < SZ → gR2 F M L need rW k need j i = gR F M L need rW (k + 1) 0 j i := by
  intro j i _ _
  unfold gR2 gR
  have : (rowMark F M L need k i j = true ∨ (i = k ∧ (j < M ∨ (F ≤ j ∧ 0 < hits L (k * need) (j - F) need)))) = (rowMark F M L need (k + 1) i j = true ∨ (i = k + 1 ∧ j < 0)) := by
    apply propext
    simp only [rowMark, Bool.and_eq_true, Bool.or_eq_true, decide_eq_true_eq]
    constructor
    · rintro (⟨h, h'⟩ | ⟨h, h'⟩)
      · exact .inl ⟨by omega, h'⟩
      · subst h; exact .inl ⟨by omega, h'⟩
    · rintro (⟨h, h'⟩ | ⟨h, h'⟩)
      · by_cases hk : i < k
        · exact .inl ⟨hk, h'⟩
        · have : i = k := by omega
          subst this
          exact .inr ⟨rfl, h'⟩
      · omega
  simp only [this]
theorem gR_end {F M L need rL R cP CN : Nat} {rW cW : Int} : ∀ j i, j < CN → i < R → gR F M L need rW rL 0 j i = bRes (fun j i => rowMark F M L need rL i j) rW cW F R cP F R j i := by
  intro j i hj hi
  rw [bRes_start (CN := CN) j i hj hi]
  unfold gR
  simp

theorem geom_f (R C : Nat) : Hid (∀ w, Calls Try.prog 35 #[.int .i64 R, .int .i64 C, .bool false] w fun e w' => e = .returned (.tuple #[.int .i64 R, .int .i64 C]) ∧ w' = w) := fun w => geom_any R C false w
theorem geom_t (R C : Nat) : Hid (∀ w, Calls Try.prog 35 #[.int .i64 R, .int .i64 C, .bool true] w fun e w' => e = .returned (.tuple #[.int .i64 C, .int .i64 R]) ∧ w' = w) := fun w => geom_any R C true w

set_option maxRecDepth 100000 in
set_option maxHeartbeats 4000000 in
theorem disjoint_cr (R C F L M need rP rL cP : Nat) (w : World) (hn : R * C ≤ 65536) (hR : R ≤ 65536) (hC : C ≤ 65536) (hCF : F + L ≤ C) (hCF' : C ≤ F + L)
    (hM : Hid (M = min F rP)) (hMF : M ≤ F) (hMP : M ≤ rP) (hMm : ¬ (M < F ∧ M < rP)) (hnd : Hid (need = rP - M)) (hnd1 : need + M ≤ rP) (hnd2 : rP ≤ need + M)
    (a1 : 1 ≤ rL) (a2 : rL ≤ R) (a3 : 1 ≤ rP) (a4 : rP ≤ C) (e1 : 1 ≤ L) (e3 : 1 ≤ cP) (e4 : cP ≤ R) :
    Calls Try.prog 13 #[.int .i64 R, .int .i64 C, .bool true, .int .i64 cP, .int .i64 L, .bool false, .int .i64 rP, .int .i64 rL] w fun e w' =>
      e = .returned (.bool !(decide ((rL : Int) * L < rL * (rP - (C - L)) + L * (cP - (R - rL))))) ∧ Below w.heap.size w w' := by
  have hmk := run_zeros R C (by omega)
  have eF : (C : Int) - (L : Int) = (F : Int) := by omega
  have eN : (rP : Int) - (M : Int) = (need : Int) := by omega
  have hin : Hid (∀ l p, l < C → p < R → cellOf C true l p < R * C) := fun l p hl hp => idx_lt hp hl
  have HMm : Hid (¬ (M < F ∧ M < rP)) := hMm
  clear hMm
  have hL0 : ((L : Int) == 0) = false := by simp; omega
  have hL1 : ¬ L = 0 := by omega
  have hL2 : ¬ (L : Int) = 0 := by omega
  go_enter Try.func13, Try.ntmps13
  go_wp2_with fail
  clear hmk
  go_loopw [33] (fun i wr => ∃ (k : Nat) (c : Array Value), k ≤ rL ∧ i = .int .i64 k ∧ wr = w.alloc (.cells c 5) ∧ Lined c C true C R (gR F M L need 2 k 0)) (fun i _ => rL - (intOf i).toNat)
  case atStart => exact ⟨0, _, Nat.zero_le _, rfl, rfl, (Lined.zero hin.out).to (fun j i _ _ => (gR_zero j i).symm)⟩
  case round =>
    obtain ⟨k, c, hk, rfl, rfl, hL⟩ := hrel
    by_cases hlt : k < rL
    · go_wp2_with fail
      go_loopw [34, 35] (fun g j wr => ∃ (jj : Nat) (c : Array Value), jj ≤ M ∧ j = .int .i64 jj ∧ g = .int .i64 jj ∧ wr = w.alloc (.cells c 5) ∧ Lined c C true C R (gR F M L need 2 k jj)) (fun _ j _ => M - (intOf j).toNat)
      case atStart => exact ⟨0, _, Nat.zero_le _, rfl, rfl, rfl, hL⟩
      case round =>
        clear hL
        obtain ⟨jj, c, hj, rfl, rfl, rfl, hL⟩ := hrel
        by_cases hjt : jj < M
        · have h1 := hin.out jj k (by omega) (by omega)
          have h2 : c[k * C + jj]? = _ := hL jj k (by omega) (by omega)
          have h1' : k * C + jj < R * C := h1
          have h3 := idxI h1'
          have hL' := hL.store (by simp) (H' := gR F M L need 2 k (jj + 1)) (l0 := jj) (p0 := k) (v := 2) (by omega) (by omega) gR_next
          go_wp2
          go_roundw
          case rel => exact ⟨jj + 1, _, by omega, by go_num, by go_num, rfl, hL'⟩
          case measure => simp [intOf] <;> omega
        · obtain rfl : M = jj := by omega
          have hL' := hL.to gR_mid
          clear hL
          have hkn : k * need ≤ 5000000000 := Nat.le_trans (Nat.mul_le_mul (show k ≤ 65536 by omega) (show need ≤ 65536 by omega)) (by omega)
          by_cases hMF' : M < F
          · have hnot : ¬ (M < F ∧ M < rP) := HMm.out
            go_wp2_with fail
            clear hnot
            go_loopw [37] (fun x wr => ∃ (q : Nat) (c : Array Value), q ≤ need ∧ x = .int .i64 q ∧ wr = w.alloc (.cells c 5) ∧ Lined c C true C R (gR2 F M L need 2 k q)) (fun x _ => need - (intOf x).toNat)
            case atStart => exact ⟨0, _, Nat.zero_le _, rfl, rfl, hL'⟩
            case round =>
              clear hL'
              obtain ⟨q, c, hq, rfl, rfl, hL⟩ := hrel
              have hnot : ¬ (M < F ∧ M < rP) := HMm.out
              obtain rfl : need = q := by omega
              clear hnot
              have hL' := hL.to gR2_line
              clear hL
              go_wp2
              go_roundw
              case rel => exact ⟨k + 1, _, by omega, by go_num, rfl, hL'⟩
              case measure => simp [intOf] <;> omega
          · go_wp2_with fail
            go_loopw [37] (fun x wr => ∃ (q : Nat) (c : Array Value), q ≤ need ∧ x = .int .i64 q ∧ wr = w.alloc (.cells c 5) ∧ Lined c C true C R (gR2 F M L need 2 k q)) (fun x _ => need - (intOf x).toNat)
            case atStart => exact ⟨0, _, Nat.zero_le _, rfl, rfl, hL'⟩
            case round =>
              clear hL'
              obtain ⟨q, c, hq, rfl, rfl, hL⟩ := hrel
              by_cases hqt : q < need
              · obtain ⟨s, hs⟩ : ∃ s, s = (k * need + q) % L := ⟨_, rfl⟩
                have hsL : s < L := by rw [hs]; exact Nat.mod_lt _ (by omega)
                have hmod : ((k : Int) * (need : Int) + (q : Int)) % (L : Int) = (s : Int) := by rw [hs]; simp
                have h1' : k * C + (F + s) < R * C := hin.out (F + s) k (by omega) (by omega)
                have h2 : c[k * C + (F + s)]? = _ := hL (F + s) k (by omega) (by omega)
                have h3 := idxI h1'
                have hL' := hL.store (by simp) (l0 := F + s) (p0 := k) (v := 2) (by omega) (by omega) (by rw [hs]; exact gR2_next (by omega))
                clear hL hs
                go_wp2
                go_roundw
                case rel => exact ⟨q + 1, _, by omega, by go_num, rfl, hL'⟩
                case measure => simp [intOf] <;> omega
              · obtain rfl : need = q := by omega
                have hL' := hL.to gR2_line
                clear hL
                go_wp2
                go_roundw
                case rel => exact ⟨k + 1, _, by omega, by go_num, rfl, hL'⟩
                case measure => simp [intOf] <;> omega
    · obtain rfl : rL = k := by omega
      have hL' := hL.to (gR_end (R := R) (cP := cP) (cW := 1))
      clear hL
      go_wp2_with fail
      go_loopw [39] (fun j wr => ∃ (t : Nat) (c : Array Value), F ≤ t ∧ t ≤ C ∧ j = .int .i64 t ∧ wr = w.alloc (.cells c 5) ∧ Lined c C true C R (bRes (fun j i => rowMark F M L need rL i j) 2 1 F R cP t R)) (fun j _ => C - (intOf j).toNat)
      case atStart => exact ⟨F, _, Nat.le_refl _, by omega, rfl, rfl, hL'⟩
      case round =>
        clear hL'
        obtain ⟨t, c, ht0, ht, rfl, rfl, hL⟩ := hrel
        by_cases hlt : t < C
        · go_wp2_with fail
          go_loopw [40, 41] (fun g i wr => ∃ (m : Nat) (c : Array Value), m ≤ R ∧ i = .int .i64 ((m : Int) - 1) ∧ g = .int .i64 (min (cntFrom (fun q => !rowMark F M L need rL q t) m R) cP : Nat) ∧ wr = w.alloc (.cells c 5) ∧ Lined c C true C R (bRes (fun j i => rowMark F M L need rL i j) 2 1 F R cP t m)) (fun _ i _ => (intOf i + 1).toNat)
          case atStart => exact ⟨R, _, Nat.le_refl _, rfl, by rw [cntFrom_top]; simp, rfl, hL⟩
          case round =>
            clear hL
            obtain ⟨m, c, hm, hp, hg, rfl, hL⟩ := hrel
            obtain ⟨X, hX⟩ : ∃ X, X = cntFrom (fun q => !rowMark F M L need rL q t) m R := ⟨_, rfl⟩
            by_cases hdone : m = 0 ∨ cP ≤ X
            · have hL' := hL.to (bRes_line ht0 (by rw [← hX]; exact hdone))
              clear hL
              rw [← hX] at hg
              clear hX
              subst hp hg
              by_cases hm0 : m = 0
              · subst hm0
                go_wp2
                go_roundw
                case rel => exact ⟨t + 1, _, by omega, by omega, by go_num, rfl, hL'⟩
                case measure => simp [intOf] <;> omega
              · have hmin : min X cP = cP := by omega
                rw [hmin]
                clear hmin
                have hp1 : (0 : Int) ≤ (m : Int) - 1 := by omega
                go_wp2
                go_roundw
                case rel => exact ⟨t + 1, _, by omega, by omega, by go_num, rfl, hL'⟩
                case measure => simp [intOf] <;> omega
            · obtain ⟨q, rfl⟩ : ∃ q, m = q + 1 := ⟨m - 1, by omega⟩
              have hXb : X < cP := by omega
              have hp' : u41 = .int .i64 (q : Int) := by rw [hp]; go_num
              have hg' : u40 = .int .i64 (X : Int) := by rw [hg, ← hX]; congr 2; omega
              clear hp hg hdone
              subst hp' hg'
              have h1' : q * C + t < R * C := hin.out t q (by omega) (by omega)
              have h3 := idxI h1'
              have h2 : c[q * C + t]? = _ := hL t q (by omega) (by omega)
              have hXs := cntFrom_step (fun q => !rowMark F M L need rL q t) (show q < R by omega)
              rw [← hX] at hXs
              cases ho : rowMark F M L need rL q t
              · have hv : bRes (fun j i => rowMark F M L need rL i j) 2 1 F R cP t (q + 1) t q = 0 := by
                  unfold bRes; simp only [ho]; rw [if_neg (by simp), if_neg (by omega)]
                rw [hv] at h2
                have hL' := hL.store (by simp) (l0 := t) (p0 := q) (v := 1) (by omega) (by omega) (bRes_take (by omega) ht0 ho (by rw [← hX]; exact hXb))
                have HX : Hid (min (cntFrom (fun q => !rowMark F M L need rL q t) q R) cP = X + 1) := by simp only [ho, Bool.not_false, if_true] at hXs; rw [hXs]; show min (X + 1) cP = X + 1; omega
                clear hL hX hXs ho hv
                go_wp2
                go_roundw
                case rel => exact ⟨q, _, by omega, by go_num, by rw [HX.out]; go_num, rfl, hL'⟩
                case measure => simp [intOf] <;> omega
              · have hv : bRes (fun j i => rowMark F M L need rL i j) 2 1 F R cP t (q + 1) t q = 2 := by
                  unfold bRes; exact if_pos ho
                rw [hv] at h2
                have hL' := hL.to (bRes_pass (occ := fun j i => rowMark F M L need rL i j) ho)
                have HX : Hid (min (cntFrom (fun q => !rowMark F M L need rL q t) q R) cP = X) := by simp only [ho, Bool.not_true, Bool.false_eq_true, if_false] at hXs; rw [hXs]; show min (X + 0) cP = X; omega
                clear hL hX hXs ho hv
                go_wp2
                go_roundw
                case rel => exact ⟨q, _, by omega, by go_num, by rw [HX.out], rfl, hL'⟩
                case measure => simp [intOf] <;> omega
        · obtain rfl : C = t := by omega
          obtain ⟨H, hH⟩ : ∃ H, H = bRes (fun j i => rowMark F M L need rL i j) 2 1 F R cP C R := ⟨_, rfl⟩
          rw [← hH] at hL
          have hF1 : rL ≤ fullOf (fun i j => H j i) 2 C rP R := by
            have hCe : C = F + L := by omega
            have := cross_rows (R := R) (F := F) (L := L) (rP := rP) (rL := rL) (cP := cP) (wr := 2) (wc := 1) F C R (by decide) (by decide) a2 (by omega)
            rw [← hM.out, ← hnd.out, ← hCe, ← hH] at this
            exact Int.ofNat_le.1 this
          have hF2 : decide (L ≤ fullOf H 1 R cP C) = !(decide ((rL : Int) * L < rL * (rP - (C - L)) + L * (cP - (R - rL)))) := by
            have hCe : C = F + L := by omega
            have := cross_law (R := R) (F := F) (L := L) (rP := rP) (rL := rL) (cP := cP) (wr := 2) (wc := 1) R (by decide) (by decide) a1 a2 (by omega) e1 e3 e4
            rw [← hM.out, ← hnd.out, ← hCe, ← hH] at this
            exact (decide_eq_decide.2 Int.ofNat_le).symm.trans this
          have hcT : Hid (∀ l p, l < C → p < R → (w.alloc (.cells c 5)).cell? ⟨w.heap.size, cellOf C true l p, none⟩ = some (.int .u8 (H l p))) :=
            fun l p hl hp => by rw [World.cell?_alloc_new]; exact hL l p hl hp
          have hcF : Hid (∀ l p, l < R → p < C → (w.alloc (.cells c 5)).cell? ⟨w.heap.size, cellOf C false l p, none⟩ = some (.int .u8 (H p l))) :=
            fun l p hl hp => by rw [World.cell?_alloc_new]; exact hL p l hp hl
          have hinF : Hid (∀ l p, l < R → p < C → cellOf C false l p < R * C) := fun l p hl hp => idx_lt hl hp
          have HF2 := hide hF2
          clear hL hF2 hH
          have hgf := geom_f R C
          have hgt := geom_t R C
          by_cases hq : L ≤ fullOf H 1 R cP C
          · have hv : decide (L ≤ fullOf H 1 R cP C) = true := by simpa using hq
            rw [HF2.out] at hv
            have Hv := hide hv
            clear hv HF2
            go_wp2_with (first | (go_at_call_of 37 (Value.int .u8 2); refine (quorum_core w.heap.size (R * C) _ R C R C false _ _ (fun i j => H j i) _ (by omega) (by omega) (by omega) (by omega) (by omega) hgf hinF.out hcF.out).mono ?_; rintro e w' ⟨rfl, rfl⟩) | (go_at_call_of 37 (Value.int .u8 1); refine (quorum_core w.heap.size (R * C) _ R C C R true _ _ H _ (by omega) (by omega) (by omega) (by omega) (by omega) hgt hin.out hcT.out).mono ?_; rintro e w' ⟨rfl, rfl⟩))
            go_ret
            exact ⟨ret_bool Hv.out.symm, (Below.refl _ _).alloc (Nat.le_refl _) _⟩
          · have hv : decide (L ≤ fullOf H 1 R cP C) = false := by simpa using hq
            rw [HF2.out] at hv
            have Hv := hide hv
            clear hv HF2
            go_wp2_with (first | (go_at_call_of 37 (Value.int .u8 2); refine (quorum_core w.heap.size (R * C) _ R C R C false _ _ (fun i j => H j i) _ (by omega) (by omega) (by omega) (by omega) (by omega) hgf hinF.out hcF.out).mono ?_; rintro e w' ⟨rfl, rfl⟩) | (go_at_call_of 37 (Value.int .u8 1); refine (quorum_core w.heap.size (R * C) _ R C C R true _ _ H _ (by omega) (by omega) (by omega) (by omega) (by omega) hgt hin.out hcT.out).mono ?_; rintro e w' ⟨rfl, rfl⟩))
            go_ret
            exact ⟨ret_bool Hv.out.symm, (Below.refl _ _).alloc (Nat.le_refl _) _⟩
set_option maxRecDepth 100000 in
set_option maxHeartbeats 4000000 in
theorem disjoint_rc (R C F L M need rP rL cP : Nat) (w : World) (hn : R * C ≤ 65536) (hR : R ≤ 65536) (hC : C ≤ 65536) (hCF : F + L ≤ C) (hCF' : C ≤ F + L)
    (hM : Hid (M = min F rP)) (hMF : M ≤ F) (hMP : M ≤ rP) (hMm : ¬ (M < F ∧ M < rP)) (hnd : Hid (need = rP - M)) (hnd1 : need + M ≤ rP) (hnd2 : rP ≤ need + M)
    (a1 : 1 ≤ rL) (a2 : rL ≤ R) (a3 : 1 ≤ rP) (a4 : rP ≤ C) (e1 : 1 ≤ L) (e3 : 1 ≤ cP) (e4 : cP ≤ R) :
    Calls Try.prog 13 #[.int .i64 R, .int .i64 C, .bool false, .int .i64 rP, .int .i64 rL, .bool true, .int .i64 cP, .int .i64 L] w fun e w' =>
      e = .returned (.bool !(decide ((rL : Int) * L < rL * (rP - (C - L)) + L * (cP - (R - rL))))) ∧ Below w.heap.size w w' := by
  have hmk := run_zeros R C (by omega)
  have eF : (C : Int) - (L : Int) = (F : Int) := by omega
  have eN : (rP : Int) - (M : Int) = (need : Int) := by omega
  have hin : Hid (∀ l p, l < C → p < R → cellOf C true l p < R * C) := fun l p hl hp => idx_lt hp hl
  have HMm : Hid (¬ (M < F ∧ M < rP)) := hMm
  clear hMm
  have hL0 : ((L : Int) == 0) = false := by simp; omega
  have hL1 : ¬ L = 0 := by omega
  have hL2 : ¬ (L : Int) = 0 := by omega
  go_enter Try.func13, Try.ntmps13
  go_wp2_with fail
  clear hmk
  go_loopw [33] (fun i wr => ∃ (k : Nat) (c : Array Value), k ≤ rL ∧ i = .int .i64 k ∧ wr = w.alloc (.cells c 5) ∧ Lined c C true C R (gR F M L need 1 k 0)) (fun i _ => rL - (intOf i).toNat)
  case atStart => exact ⟨0, _, Nat.zero_le _, rfl, rfl, (Lined.zero hin.out).to (fun j i _ _ => (gR_zero j i).symm)⟩
  case round =>
    obtain ⟨k, c, hk, rfl, rfl, hL⟩ := hrel
    by_cases hlt : k < rL
    · go_wp2_with fail
      go_loopw [34, 35] (fun g j wr => ∃ (jj : Nat) (c : Array Value), jj ≤ M ∧ j = .int .i64 jj ∧ g = .int .i64 jj ∧ wr = w.alloc (.cells c 5) ∧ Lined c C true C R (gR F M L need 1 k jj)) (fun _ j _ => M - (intOf j).toNat)
      case atStart => exact ⟨0, _, Nat.zero_le _, rfl, rfl, rfl, hL⟩
      case round =>
        clear hL
        obtain ⟨jj, c, hj, rfl, rfl, rfl, hL⟩ := hrel
        by_cases hjt : jj < M
        · have h1 := hin.out jj k (by omega) (by omega)
          have h2 : c[k * C + jj]? = _ := hL jj k (by omega) (by omega)
          have h1' : k * C + jj < R * C := h1
          have h3 := idxI h1'
          have hL' := hL.store (by simp) (H' := gR F M L need 1 k (jj + 1)) (l0 := jj) (p0 := k) (v := 1) (by omega) (by omega) gR_next
          go_wp2
          go_roundw
          case rel => exact ⟨jj + 1, _, by omega, by go_num, by go_num, rfl, hL'⟩
          case measure => simp [intOf] <;> omega
        · obtain rfl : M = jj := by omega
          have hL' := hL.to gR_mid
          clear hL
          have hkn : k * need ≤ 5000000000 := Nat.le_trans (Nat.mul_le_mul (show k ≤ 65536 by omega) (show need ≤ 65536 by omega)) (by omega)
          by_cases hMF' : M < F
          · have hnot : ¬ (M < F ∧ M < rP) := HMm.out
            go_wp2_with fail
            clear hnot
            go_loopw [37] (fun x wr => ∃ (q : Nat) (c : Array Value), q ≤ need ∧ x = .int .i64 q ∧ wr = w.alloc (.cells c 5) ∧ Lined c C true C R (gR2 F M L need 1 k q)) (fun x _ => need - (intOf x).toNat)
            case atStart => exact ⟨0, _, Nat.zero_le _, rfl, rfl, hL'⟩
            case round =>
              clear hL'
              obtain ⟨q, c, hq, rfl, rfl, hL⟩ := hrel
              have hnot : ¬ (M < F ∧ M < rP) := HMm.out
              obtain rfl : need = q := by omega
              clear hnot
              have hL' := hL.to gR2_line
              clear hL
              go_wp2
              go_roundw
              case rel => exact ⟨k + 1, _, by omega, by go_num, rfl, hL'⟩
              case measure => simp [intOf] <;> omega
          · go_wp2_with fail
            go_loopw [37] (fun x wr => ∃ (q : Nat) (c : Array Value), q ≤ need ∧ x = .int .i64 q ∧ wr = w.alloc (.cells c 5) ∧ Lined c C true C R (gR2 F M L need 1 k q)) (fun x _ => need - (intOf x).toNat)
            case atStart => exact ⟨0, _, Nat.zero_le _, rfl, rfl, hL'⟩
            case round =>
              clear hL'
              obtain ⟨q, c, hq, rfl, rfl, hL⟩ := hrel
              by_cases hqt : q < need
              · obtain ⟨s, hs⟩ : ∃ s, s = (k * need + q) % L := ⟨_, rfl⟩
                have hsL : s < L := by rw [hs]; exact Nat.mod_lt _ (by omega)
                have hmod : ((k : Int) * (need : Int) + (q : Int)) % (L : Int) = (s : Int) := by rw [hs]; simp
                have h1' : k * C + (F + s) < R * C := hin.out (F + s) k (by omega) (by omega)
                have h2 : c[k * C + (F + s)]? = _ := hL (F + s) k (by omega) (by omega)
                have h3 := idxI h1'
                have hL' := hL.store (by simp) (l0 := F + s) (p0 := k) (v := 1) (by omega) (by omega) (by rw [hs]; exact gR2_next (by omega))
                clear hL hs
                go_wp2
                go_roundw
                case rel => exact ⟨q + 1, _, by omega, by go_num, rfl, hL'⟩
                case measure => simp [intOf] <;> omega
              · obtain rfl : need = q := by omega
                have hL' := hL.to gR2_line
                clear hL
                go_wp2
                go_roundw
                case rel => exact ⟨k + 1, _, by omega, by go_num, rfl, hL'⟩
                case measure => simp [intOf] <;> omega
    · obtain rfl : rL = k := by omega
      have hL' := hL.to (gR_end (R := R) (cP := cP) (cW := 2))
      clear hL
      go_wp2_with fail
      go_loopw [39] (fun j wr => ∃ (t : Nat) (c : Array Value), F ≤ t ∧ t ≤ C ∧ j = .int .i64 t ∧ wr = w.alloc (.cells c 5) ∧ Lined c C true C R (bRes (fun j i => rowMark F M L need rL i j) 1 2 F R cP t R)) (fun j _ => C - (intOf j).toNat)
      case atStart => exact ⟨F, _, Nat.le_refl _, by omega, rfl, rfl, hL'⟩
      case round =>
        clear hL'
        obtain ⟨t, c, ht0, ht, rfl, rfl, hL⟩ := hrel
        by_cases hlt : t < C
        · go_wp2_with fail
          go_loopw [40, 41] (fun g i wr => ∃ (m : Nat) (c : Array Value), m ≤ R ∧ i = .int .i64 ((m : Int) - 1) ∧ g = .int .i64 (min (cntFrom (fun q => !rowMark F M L need rL q t) m R) cP : Nat) ∧ wr = w.alloc (.cells c 5) ∧ Lined c C true C R (bRes (fun j i => rowMark F M L need rL i j) 1 2 F R cP t m)) (fun _ i _ => (intOf i + 1).toNat)
          case atStart => exact ⟨R, _, Nat.le_refl _, rfl, by rw [cntFrom_top]; simp, rfl, hL⟩
          case round =>
            clear hL
            obtain ⟨m, c, hm, hp, hg, rfl, hL⟩ := hrel
            obtain ⟨X, hX⟩ : ∃ X, X = cntFrom (fun q => !rowMark F M L need rL q t) m R := ⟨_, rfl⟩
            by_cases hdone : m = 0 ∨ cP ≤ X
            · have hL' := hL.to (bRes_line ht0 (by rw [← hX]; exact hdone))
              clear hL
              rw [← hX] at hg
              clear hX
              subst hp hg
              by_cases hm0 : m = 0
              · subst hm0
                go_wp2
                go_roundw
                case rel => exact ⟨t + 1, _, by omega, by omega, by go_num, rfl, hL'⟩
                case measure => simp [intOf] <;> omega
              · have hmin : min X cP = cP := by omega
                rw [hmin]
                clear hmin
                have hp1 : (0 : Int) ≤ (m : Int) - 1 := by omega
                go_wp2
                go_roundw
                case rel => exact ⟨t + 1, _, by omega, by omega, by go_num, rfl, hL'⟩
                case measure => simp [intOf] <;> omega
            · obtain ⟨q, rfl⟩ : ∃ q, m = q + 1 := ⟨m - 1, by omega⟩
              have hXb : X < cP := by omega
              have hp' : u41 = .int .i64 (q : Int) := by rw [hp]; go_num
              have hg' : u40 = .int .i64 (X : Int) := by rw [hg, ← hX]; congr 2; omega
              clear hp hg hdone
              subst hp' hg'
              have h1' : q * C + t < R * C := hin.out t q (by omega) (by omega)
              have h3 := idxI h1'
              have h2 : c[q * C + t]? = _ := hL t q (by omega) (by omega)
              have hXs := cntFrom_step (fun q => !rowMark F M L need rL q t) (show q < R by omega)
              rw [← hX] at hXs
              cases ho : rowMark F M L need rL q t
              · have hv : bRes (fun j i => rowMark F M L need rL i j) 1 2 F R cP t (q + 1) t q = 0 := by
                  unfold bRes; simp only [ho]; rw [if_neg (by simp), if_neg (by omega)]
                rw [hv] at h2
                have hL' := hL.store (by simp) (l0 := t) (p0 := q) (v := 2) (by omega) (by omega) (bRes_take (by omega) ht0 ho (by rw [← hX]; exact hXb))
                have HX : Hid (min (cntFrom (fun q => !rowMark F M L need rL q t) q R) cP = X + 1) := by simp only [ho, Bool.not_false, if_true] at hXs; rw [hXs]; show min (X + 1) cP = X + 1; omega
                clear hL hX hXs ho hv
                go_wp2
                go_roundw
                case rel => exact ⟨q, _, by omega, by go_num, by rw [HX.out]; go_num, rfl, hL'⟩
                case measure => simp [intOf] <;> omega
              · have hv : bRes (fun j i => rowMark F M L need rL i j) 1 2 F R cP t (q + 1) t q = 1 := by
                  unfold bRes; exact if_pos ho
                rw [hv] at h2
                have hL' := hL.to (bRes_pass (occ := fun j i => rowMark F M L need rL i j) ho)
                have HX : Hid (min (cntFrom (fun q => !rowMark F M L need rL q t) q R) cP = X) := by simp only [ho, Bool.not_true, Bool.false_eq_true, if_false] at hXs; rw [hXs]; show min (X + 0) cP = X; omega
                clear hL hX hXs ho hv
                go_wp2
                go_roundw
                case rel => exact ⟨q, _, by omega, by go_num, by rw [HX.out], rfl, hL'⟩
                case measure => simp [intOf] <;> omega
        · obtain rfl : C = t := by omega
          obtain ⟨H, hH⟩ : ∃ H, H = bRes (fun j i => rowMark F M L need rL i j) 1 2 F R cP C R := ⟨_, rfl⟩
          rw [← hH] at hL
          have hF1 : rL ≤ fullOf (fun i j => H j i) 1 C rP R := by
            have hCe : C = F + L := by omega
            have := cross_rows (R := R) (F := F) (L := L) (rP := rP) (rL := rL) (cP := cP) (wr := 1) (wc := 2) F C R (by decide) (by decide) a2 (by omega)
            rw [← hM.out, ← hnd.out, ← hCe, ← hH] at this
            exact Int.ofNat_le.1 this
          have hF2 : decide (L ≤ fullOf H 2 R cP C) = !(decide ((rL : Int) * L < rL * (rP - (C - L)) + L * (cP - (R - rL)))) := by
            have hCe : C = F + L := by omega
            have := cross_law (R := R) (F := F) (L := L) (rP := rP) (rL := rL) (cP := cP) (wr := 1) (wc := 2) R (by decide) (by decide) a1 a2 (by omega) e1 e3 e4
            rw [← hM.out, ← hnd.out, ← hCe, ← hH] at this
            exact (decide_eq_decide.2 Int.ofNat_le).symm.trans this
          have hcT : Hid (∀ l p, l < C → p < R → (w.alloc (.cells c 5)).cell? ⟨w.heap.size, cellOf C true l p, none⟩ = some (.int .u8 (H l p))) :=
            fun l p hl hp => by rw [World.cell?_alloc_new]; exact hL l p hl hp
          have hcF : Hid (∀ l p, l < R → p < C → (w.alloc (.cells c 5)).cell? ⟨w.heap.size, cellOf C false l p, none⟩ = some (.int .u8 (H p l))) :=
            fun l p hl hp => by rw [World.cell?_alloc_new]; exact hL p l hp hl
          have hinF : Hid (∀ l p, l < R → p < C → cellOf C false l p < R * C) := fun l p hl hp => idx_lt hl hp
          have HF2 := hide hF2
          clear hL hF2 hH
          have hgf := geom_f R C
          have hgt := geom_t R C
          go_wp2_with (first | (go_at_call_of 37 (Value.int .u8 1); refine (quorum_core w.heap.size (R * C) _ R C R C false _ _ (fun i j => H j i) _ (by omega) (by omega) (by omega) (by omega) (by omega) hgf hinF.out hcF.out).mono ?_; rintro e w' ⟨rfl, rfl⟩) | (go_at_call_of 37 (Value.int .u8 2); refine (quorum_core w.heap.size (R * C) _ R C C R true _ _ H _ (by omega) (by omega) (by omega) (by omega) (by omega) hgt hin.out hcT.out).mono ?_; rintro e w' ⟨rfl, rfl⟩))
          go_ret
          exact ⟨ret_bool HF2.out, (Below.refl _ _).alloc (Nat.le_refl _) _⟩
end Go.Proofs.Qxb6600769a
