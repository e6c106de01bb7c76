import Derived.Test.Qxb6600769aLined
namespace Go.Proofs.Qxb6600769a
open Go.RowKit
set_option linter.unusedVariables false

/-- The first rule's turn: k lines are done, and j places of line k. -/
def hA (aP k j : Nat) (l p : Nat) : Int := if (l < k ∧ p < aP) ∨ (l = k ∧ p < j) then 1 else 0

theorem hide {p : Prop} (h : p) : Hid p := h

theorem hA_next {aP k j CN SZ : Nat} : ∀ l p, l < CN → p < SZ → hA aP k (j + 1) l p = if l = k ∧ p = j then 1 else hA aP k j l p := by
  intro l p _ _
  unfold hA
  by_cases h1 : l = k ∧ p = j
  · rw [if_pos h1, if_pos (by omega)]
  · rw [if_neg h1]
    by_cases h2 : (l < k ∧ p < aP) ∨ (l = k ∧ p < j)
    · rw [if_pos h2, if_pos (by omega)]
    · rw [if_neg h2, if_neg (by omega)]
theorem hA_line {aP k CN SZ : Nat} : ∀ l p, l < CN → p < SZ → hA aP k aP l p = hA aP (k + 1) 0 l p := by
  intro l p _ _
  unfold hA
  by_cases h2 : (l < k ∧ p < aP) ∨ (l = k ∧ p < aP)
  · rw [if_pos h2, if_pos (by omega)]
  · rw [if_neg h2, if_neg (by omega)]
theorem hA_end {aP aL bP lo CN SZ m : Nat} : ∀ l p, l < CN → p < SZ → hA aP aL 0 l p = bRes (occS aP aL) 1 2 lo SZ bP lo SZ l p := by
  intro l p _ hp
  unfold hA bRes occS
  by_cases h2 : l < aL ∧ p < aP
  · rw [if_pos (by omega), if_pos (by simpa using h2)]
  · rw [if_neg (by omega), if_neg (by simpa using h2), if_neg (by omega)]

/-- One place of the second rule's turn: it is free and is taken. -/
theorem bRes_take {occ : Nat → Nat → Bool} {w1 w2 : Int} {lo SZ bP t m CN : Nat} (hm : m < SZ) (hlo : lo ≤ t) (hfree : occ t m = false) (hgot : cntFrom (fun q => !occ t q) (m + 1) SZ < bP) :
    ∀ l p, l < CN → p < SZ → bRes occ w1 w2 lo SZ bP t m l p = if l = t ∧ p = m then w2 else bRes occ w1 w2 lo SZ bP t (m + 1) l p := by
  intro l p _ _
  unfold bRes
  by_cases h1 : l = t ∧ p = m
  · obtain ⟨rfl, rfl⟩ := h1
    simp [hfree, hlo, hgot]
  · rw [if_neg h1]
    have : (lo ≤ l ∧ (l < t ∨ (l = t ∧ m ≤ p)) ∧ cntFrom (fun q => !occ l q) (p + 1) SZ < bP) = (lo ≤ l ∧ (l < t ∨ (l = t ∧ m + 1 ≤ p)) ∧ cntFrom (fun q => !occ l q) (p + 1) SZ < bP) := by
      apply propext
      constructor
      · rintro ⟨a, b, c⟩; exact ⟨a, by omega, c⟩
      · rintro ⟨a, b, c⟩; exact ⟨a, by omega, c⟩
    simp only [this]

/-- One place of the second rule's turn: it is taken already. -/
theorem bRes_pass {occ : Nat → Nat → Bool} {w1 w2 : Int} {lo SZ bP t m CN : Nat} (hocc : occ t m = true) :
    ∀ l p, l < CN → p < SZ → bRes occ w1 w2 lo SZ bP t (m + 1) l p = bRes occ w1 w2 lo SZ bP t m l p := by
  intro l p _ _
  unfold bRes
  by_cases h1 : l = t ∧ p = m
  · obtain ⟨rfl, rfl⟩ := h1
    rw [hocc]; rfl
  · have : (lo ≤ l ∧ (l < t ∨ (l = t ∧ m ≤ p)) ∧ cntFrom (fun q => !occ l q) (p + 1) SZ < bP) = (lo ≤ l ∧ (l < t ∨ (l = t ∧ m + 1 ≤ p)) ∧ cntFrom (fun q => !occ l q) (p + 1) SZ < bP) := by
      apply propext
      constructor
      · rintro ⟨a, b, c⟩; exact ⟨a, by omega, c⟩
      · rintro ⟨a, b, c⟩; exact ⟨a, by omega, c⟩
    simp only [this]

theorem cntFrom_anti (f : Nat → Bool) {m m' n : Nat} (h : m ≤ m') : cntFrom f m' n ≤ cntFrom f m n :=
  cnt_imp (fun i _ hi => by simp at hi ⊢; exact ⟨hi.1, by omega⟩)

/-- The line is done: all its places, or as many as were wanted. -/
theorem bRes_line {occ : Nat → Nat → Bool} {w1 w2 : Int} {lo SZ bP t m CN : Nat} (hlo : lo ≤ t) (hdone : m = 0 ∨ bP ≤ cntFrom (fun q => !occ t q) m SZ) :
    ∀ l p, l < CN → p < SZ → bRes occ w1 w2 lo SZ bP t m l p = bRes occ w1 w2 lo SZ bP (t + 1) SZ l p := by
  intro l p _ hp
  unfold bRes
  have : (lo ≤ l ∧ (l < t ∨ (l = t ∧ m ≤ p)) ∧ cntFrom (fun q => !occ l q) (p + 1) SZ < bP) = (lo ≤ l ∧ (l < t + 1 ∨ (l = t + 1 ∧ SZ ≤ p)) ∧ cntFrom (fun q => !occ l q) (p + 1) SZ < bP) := by
    apply propext
    constructor
    · rintro ⟨a, b, c⟩; exact ⟨a, by omega, c⟩
    · rintro ⟨a, b, c⟩
      refine ⟨a, ?_, c⟩
      by_cases hlt : l < t
      · exact .inl hlt
      · have hlt : l = t := by omega
        subst hlt
        refine .inr ⟨rfl, ?_⟩
        rcases hdone with h | h
        · omega
        · rcases Nat.lt_or_ge p m with h1 | h1
          · have := cntFrom_anti (fun q => !occ l q) (n := SZ) (show p + 1 ≤ m by omega)
            omega
          · exact h1
  simp only [this]

theorem bRes_start {occ : Nat → Nat → Bool} {w1 w2 : Int} {lo SZ bP CN : Nat} : ∀ l p, l < CN → p < SZ → bRes occ w1 w2 lo SZ bP lo SZ l p = if occ l p then w1 else 0 := by
  intro l p _ hp
  unfold bRes
  have : ¬ (lo ≤ l ∧ (l < lo ∨ (l = lo ∧ SZ ≤ p)) ∧ cntFrom (fun q => !occ l q) (p + 1) SZ < bP) := fun h => by omega
  rw [if_neg this]

set_option maxRecDepth 100000 in
set_option maxHeartbeats 4000000 in
theorem disjoint_same (R C CN SZ aP aL bP bL : Nat) (b : Bool) (w : World) (hn : R * C ≤ 65536) (hR : R ≤ 65536) (hC : C ≤ 65536) (hCN : CN ≤ 65536) (hSZ : SZ ≤ 65536)
    (a1 : 1 ≤ aL) (a2 : aL ≤ CN) (a3 : 1 ≤ aP) (a4 : aP ≤ SZ) (e1 : 1 ≤ bL) (e2 : bL ≤ CN) (e3 : 1 ≤ bP) (e4 : bP ≤ SZ) (hbC : (if b then CN else SZ) ≤ C)
    (hgeom : Hid (∀ w, Calls Try.prog 35 #[.int .i64 R, .int .i64 C, .bool b] w fun e w' => e = .returned (.tuple #[.int .i64 CN, .int .i64 SZ]) ∧ w' = w))
    (hin : Hid (∀ l p, l < CN → p < SZ → cellOf C b l p < R * C)) :
    Calls Try.prog 13 #[.int .i64 R, .int .i64 C, .bool b, .int .i64 aP, .int .i64 aL, .bool b, .int .i64 bP, .int .i64 bL] w fun e w' =>
      e = .returned (.bool !(decide (CN < aL + bL) && decide (SZ < aP + bP))) ∧ Below w.heap.size w w' := by
  have hmk := run_zeros R C (by omega)
  have hbb : (b == b) = true := by simp
  have HbC : Hid ((if b then CN else SZ) ≤ C) := hbC
  clear hbC
  go_enter Try.func13, Try.ntmps13
  go_wp2_with (first | (go_at_call 35; refine (hgeom.out _).mono ?_; rintro e w' ⟨rfl, rfl⟩))
  clear hmk
  go_loopw [20] (fun l wr => ∃ (k : Nat) (c : Array Value), k ≤ aL ∧ l = .int .i64 k ∧ wr = w.alloc (.cells c 5) ∧ Lined c C b CN SZ (hA aP k 0)) (fun l _ => aL - (intOf l).toNat)
  case atStart => exact ⟨0, _, Nat.zero_le _, rfl, rfl, (Lined.zero hin.out).to (fun l p _ _ => by simp [hA])⟩
  case round =>
    obtain ⟨k, c, hk, rfl, rfl, hL⟩ := hrel
    by_cases hlt : k < aL
    · go_wp2_with fail
      go_loopw [21] (fun p wr => ∃ (j : Nat) (c : Array Value), j ≤ aP ∧ p = .int .i64 j ∧ wr = w.alloc (.cells c 5) ∧ Lined c C b CN SZ (hA aP k j)) (fun p _ => aP - (intOf p).toNat)
      case atStart => exact ⟨0, _, Nat.zero_le _, rfl, rfl, hL⟩
      case round =>
        clear hL
        obtain ⟨j, c, hj, rfl, rfl, hL⟩ := hrel
        by_cases hjt : j < aP
        · have h1 := hin.out k j (by omega) (by omega)
          have h2 := hL k j (by omega) (by omega)
          have h3 : ((cellOf C b k j : Nat) : Int) < ((R * C : Nat) : Int) := by omega
          have hL' := hL.store HbC.out (H' := hA aP k (j + 1)) (l0 := k) (p0 := j) (v := 1) (by omega) (by omega) hA_next
          go_wp2_with (first | (go_at_call 36; refine (cell_any C b k j _ (by omega) (by omega) (by omega) (by omega)).mono ?_; rintro e w' ⟨rfl, rfl⟩))
          go_roundw
          case rel => exact ⟨j + 1, _, by omega, by go_num, rfl, hL'⟩
          case measure => simp [intOf] <;> omega
        · have hjS : j = aP := by omega
          subst hjS
          have hL' := hL.to hA_line
          go_wp2
          go_roundw
          case rel => exact ⟨k + 1, _, by omega, by go_num, rfl, hL'⟩
          case measure => simp [intOf] <;> omega
    · obtain rfl : aL = k := by omega
      have hL' := hL.to (hA_end (bP := bP) (lo := CN - bL) (m := 0))
      clear hL
      go_wp2_with fail
      go_loopw [22] (fun l wr => ∃ (t : Nat) (c : Array Value), CN - bL ≤ t ∧ t ≤ CN ∧ l = .int .i64 t ∧ wr = w.alloc (.cells c 5) ∧ Lined c C b CN SZ (bRes (occS aP aL) 1 2 (CN - bL) SZ bP t SZ)) (fun l _ => CN - (intOf l).toNat)
      case atStart => exact ⟨CN - bL, _, Nat.le_refl _, by omega, by go_num, rfl, hL'⟩
      case round =>
        clear hL'
        obtain ⟨t, c, ht0, ht, rfl, rfl, hL⟩ := hrel
        by_cases hlt : t < CN
        · go_wp2_with fail
          go_loopw [23, 24] (fun g p wr => ∃ (m : Nat) (c : Array Value), m ≤ SZ ∧ p = .int .i64 ((m : Int) - 1) ∧ g = .int .i64 (min (cntFrom (fun q => !occS aP aL t q) m SZ) bP : Nat) ∧ wr = w.alloc (.cells c 5) ∧ Lined c C b CN SZ (bRes (occS aP aL) 1 2 (CN - bL) SZ bP t m)) (fun _ p _ => (intOf p + 1).toNat)
          case atStart => exact ⟨SZ, _, Nat.le_refl _, rfl, by rw [cntFrom_top]; simp, rfl, hL⟩
          case round =>
            clear hL
            obtain ⟨m, c, hm, hp, hg, rfl, hL⟩ := hrel
            obtain ⟨X, hX⟩ : ∃ X, X = cntFrom (fun q => !occS aP aL t q) m SZ := ⟨_, rfl⟩
            by_cases hdone : m = 0 ∨ bP ≤ X
            · have hL' := hL.to (bRes_line ht0 (by rw [← hX]; exact hdone))
              clear hL
              rw [← hX] at hg
              clear hX
              subst hp hg
              by_cases hm0 : m = 0
              · subst hm0
                go_wp2
                go_roundw
                case rel => exact ⟨t + 1, _, by omega, by omega, by go_num, rfl, hL'⟩
                case measure => simp [intOf] <;> omega
              · have hmin : min X bP = bP := by omega
                rw [hmin]
                clear hmin
                have hp1 : (0 : Int) ≤ (m : Int) - 1 := by omega
                go_wp2
                go_roundw
                case rel => exact ⟨t + 1, _, by omega, by omega, by go_num, rfl, hL'⟩
                case measure => simp [intOf] <;> omega
            · obtain ⟨q, rfl⟩ : ∃ q, m = q + 1 := ⟨m - 1, by omega⟩
              have hXb : X < bP := by omega
              have hp' : u24 = .int .i64 (q : Int) := by rw [hp]; go_num
              have hg' : u23 = .int .i64 (X : Int) := by rw [hg, ← hX]; congr 2; omega
              clear hp hg hdone
              subst hp' hg'
              have h1 := hin.out t q (by omega) (by omega)
              have h3 : ((cellOf C b t q : Nat) : Int) < ((R * C : Nat) : Int) := by omega
              have h2 := hL t q (by omega) (by omega)
              have hXs := cntFrom_step (fun q => !occS aP aL t q) (show q < SZ by omega)
              rw [← hX] at hXs
              cases ho : occS aP aL t q
              · have hv : bRes (occS aP aL) 1 2 (CN - bL) SZ bP t (q + 1) t q = 0 := by
                  unfold bRes; rw [ho, if_neg (by simp), if_neg (by omega)]
                rw [hv] at h2
                have hL' := hL.store HbC.out (l0 := t) (p0 := q) (v := 2) (by omega) (by omega) (bRes_take (by omega) ht0 ho (by rw [← hX]; exact hXb))
                have HX : Hid (min (cntFrom (fun q => !occS aP aL t q) q SZ) bP = X + 1) := by simp only [ho, Bool.not_false, if_true] at hXs; rw [hXs]; show min (X + 1) bP = X + 1; omega
                clear hL hX hXs ho hv
                go_wp2_with (first | (go_at_call 36; refine (cell_any C b t q _ (by omega) (by omega) (by omega) (by omega)).mono ?_; rintro e w' ⟨rfl, rfl⟩))
                go_roundw
                case rel => exact ⟨q, _, by omega, by go_num, by rw [HX.out]; go_num, rfl, hL'⟩
                case measure => simp [intOf] <;> omega
              · have hv : bRes (occS aP aL) 1 2 (CN - bL) SZ bP t (q + 1) t q = 1 := by
                  unfold bRes; rw [ho, if_pos rfl]
                rw [hv] at h2
                have hL' := hL.to (bRes_pass ho)
                have HX : Hid (min (cntFrom (fun q => !occS aP aL t q) q SZ) bP = X) := by simp only [ho, Bool.not_true, Bool.false_eq_true, if_false] at hXs; rw [hXs]; show min (X + 0) bP = X; omega
                clear hL hX hXs ho hv
                go_wp2_with (first | (go_at_call 36; refine (cell_any C b t q _ (by omega) (by omega) (by omega) (by omega)).mono ?_; rintro e w' ⟨rfl, rfl⟩))
                go_roundw
                case rel => exact ⟨q, _, by omega, by go_num, by rw [HX.out], rfl, hL'⟩
                case measure => simp [intOf] <;> omega
        · obtain rfl : CN = t := by omega
          have hF1 := same_first (CN := CN) (bP := bP) (CN - bL) SZ a2 a4
          have hF2 := same_law (CN := CN) (SZ := SZ) SZ a1 a2 a3 a4 e1 e2 e3 e4
          have hq1 : aL ≤ fullOf (bRes (occS aP aL) 1 2 (CN - bL) SZ bP CN SZ) 1 SZ aP CN := Int.ofNat_le.1 hF1
          have hcell : Hid (∀ l p, l < CN → p < SZ → (w.alloc (.cells c 5)).cell? ⟨w.heap.size, cellOf C b l p, none⟩ = some (.int .u8 (bRes (occS aP aL) 1 2 (CN - bL) SZ bP CN SZ l p))) :=
            fun l p hl hp => by rw [World.cell?_alloc_new]; exact hL l p hl hp
          have HF2 := hide hF2
          clear hL hF1 hF2
          go_wp2_with (first | (go_at_call 37; refine (quorum_core w.heap.size (R * C) _ R C CN SZ b _ _ (bRes (occS aP aL) 1 2 (CN - bL) SZ bP CN SZ) _ (by omega) (by omega) (by omega) (by omega) (by omega) hgeom hin.out hcell.out).mono ?_; rintro e w' ⟨rfl, rfl⟩))
          go_ret
          exact ⟨ret_bool ((decide_eq_decide.2 Int.ofNat_le).symm.trans HF2.out), (Below.refl _ _).alloc (Nat.le_refl _) _⟩
end Go.Proofs.Qxb6600769a
