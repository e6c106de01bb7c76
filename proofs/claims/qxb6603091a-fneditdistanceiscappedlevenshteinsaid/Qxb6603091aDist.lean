import Derived.Test.Qxb6603091aCapped
namespace Go.Proofs.Qxb6603091a
open Go.RowKit
set_option linter.unusedVariables false

theorem band_first {f g : Nat → Int} {n L d : Nat} (hd : d ≤ 2 * L) : band f g n L 0 d = if d < L ∨ n < d - L then L + 1 else d - L := by
  unfold band
  rw [Nat.zero_add]
  by_cases h : d < L ∨ n < d - L
  · rw [if_pos h, if_pos h]
  · rw [if_neg h, if_neg h, D_zero]; omega

/-- The cells p hold the numbers u on the first k places (and five in all). -/
def Row (p : Array Value) (k : Nat) (u : Nat → Nat) : Prop := p.size = 5 ∧ ∀ d, d < k → p[d]? = some (.int .i64 ((u d : Nat) : Int))

theorem row_at {p : Array Value} {k k' : Nat} {u : Nat → Nat} (h : Row p k u) (he : k = k') : Row p k' u := he ▸ h
theorem Row.set {p : Array Value} {k : Nat} {u : Nat → Nat} (h : Row p k u) (hk : k < 5) {z : Int} (hz : z = ((u k : Nat) : Int)) : Row (p.setIfInBounds k (.int .i64 z)) (k + 1) u := by
  refine ⟨by simp [h.1], fun d hd => ?_⟩
  by_cases hdk : d = k
  · subst hdk
    have : d < p.size := by rw [h.1]; exact hk
    simp [this, hz]
  · rw [Array.getElem?_setIfInBounds_ne (by omega)]
    exact h.2 d (by omega)

theorem below_drewN {B : Nat} {a w : World} (h : Below B a w) (n : Nat) : Below B a (w.drewN n) := ⟨h.os, h.tape, h.output, h.size, h.block⟩

/-- Five numbers. -/
def Ints (p : Array Value) : Prop := p.size = 5 ∧ ∀ d, d < 5 → ∃ z : Int, p[d]? = some (.int .i64 z)

/-- The lesser of two. -/
def mn (x y : Int) : Int := if y < x then y else x
theorem run_mn {P : Program} {w : World} (ts : Array TypeId) (t : TypeId) (x y : Int) : (Builtin.min_ ts t #[.int .i64 x, .int .i64 y]).run P w = .ok (.int .i64 (mn x y)) w := run_min_int2 ..
theorem mn_nat (a b : Nat) : mn (a : Int) (b : Int) = ((min a b : Nat) : Int) := by unfold mn; split <;> omega
attribute [local go_sem ↓] run_mn

theorem ints_zero : Ints #[.int .i64 0, .int .i64 0, .int .i64 0, .int .i64 0, .int .i64 0] := by
  refine ⟨rfl, fun d hd => ⟨0, ?_⟩⟩
  match d, hd with
  | 0, _ => rfl
  | 1, _ => rfl
  | 2, _ => rfl
  | 3, _ => rfl
  | 4, _ => rfl
theorem Ints.set {p : Array Value} (h : Ints p) (k : Nat) (z : Int) : Ints (p.setIfInBounds k (.int .i64 z)) := by
  refine ⟨by simp [h.1], fun d hd => ?_⟩
  by_cases hdk : d = k
  · subst hdk
    have : d < p.size := by rw [h.1]; exact hd
    exact ⟨z, by simp [this]⟩
  · rw [Array.getElem?_setIfInBounds_ne (by omega)]
    exact h.2 d hd

theorem copy5 {p nx : Array Value} {a0 a1 a2 a3 a4 : Value} (hp : p.size = 5) (hn : nx.size = 5) (h0 : nx[0]? = some a0) (h1 : nx[1]? = some a1) (h2 : nx[2]? = some a2) (h3 : nx[3]? = some a3) (h4 : nx[4]? = some a4) :
    ((((p.setIfInBounds 0 a0).setIfInBounds 1 a1).setIfInBounds 2 a2).setIfInBounds 3 a3).setIfInBounds 4 a4 = nx := by
  apply Array.ext_getElem?
  intro d
  rcases (show d = 0 ∨ d = 1 ∨ d = 2 ∨ d = 3 ∨ d = 4 ∨ 5 ≤ d by omega) with rfl | rfl | rfl | rfl | rfl | h
  · simp [hp, h0]
  · simp [hp, h1]
  · simp [hp, h2]
  · simp [hp, h3]
  · simp [hp, h4]
  · rw [Array.getElem?_eq_none (by simp; omega), Array.getElem?_eq_none (by omega)]

theorem band_last {f g : Nat → Int} {x y L : Nat} (h : x ≤ y + L) : band f g y L x (y + L - x) = min (D f g x y) (L + 1) := by
  unfold band
  rw [if_neg (by omega), show x + (y + L - x) - L = y by omega]

set_option maxRecDepth 100000 in
set_option maxHeartbeats 4000000 in
theorem dist_any (L x y ca cb : Nat) (ao bo : Option Addr) (f g : Nat → Int) (w : World) (hL : L ≤ 2) (hx : x ≤ 65536) (hy : y ≤ 65536) (hxy : x ≤ y + L) (hyx : y ≤ x + L) (ha : View w ao x ca f) (hb : View w bo y cb g) :
    Calls Try.prog 26 #[.slice ao x ca, .slice bo y cb, .int .i64 L] w fun e w' => e = .returned (.int .i64 ((min (D f g x y) (L + 1) : Nat) : Int)) ∧ Below w.heap.size w w' := by
  have Ha := hide ha
  have Hb := hide hb
  clear ha hb
  have hsd : ∀ (W : World) (m : Nat) (a : Addr) (v : Value), (W.drewN m).setCell a v = (W.setCell a v).drewN m := fun _ _ _ _ => rfl
  go_enter Try.func26, Try.ntmps26
  go_wp2
  go_loopw [24] (fun v wr => ∃ (d : Nat) (p : Array Value), d ≤ 2 * L + 1 ∧ v = .int .i64 d ∧ wr = (w.alloc (.cells p 45)).alloc (.cells #[.int .i64 0, .int .i64 0, .int .i64 0, .int .i64 0, .int .i64 0] 45) ∧ Row p d (band f g y L 0)) (fun v _ => 2 * L + 1 - (intOf v).toNat)
  case atStart => exact ⟨0, _, Nat.zero_le _, rfl, rfl, rfl, fun d hd => by omega⟩
  case round =>
    obtain ⟨d, p, hd, rfl, rfl, hR⟩ := hrel
    have HR := hide hR
    clear hR
    by_cases hdt : d < 2 * L + 1
    · have h5 : (d : Int) < 5 := by omega
      obtain ⟨v0, h4⟩ : ∃ v0, p[d]? = some v0 := ⟨p[d]'(by rw [HR.out.1]; omega), Array.getElem?_eq_getElem _⟩
      by_cases hj : d < L ∨ y < d - L
      · have HR' := hide (HR.out.set (z := (L : Int) + 1) (by omega) (by rw [band_first (by omega), if_pos hj]; simp))
        rcases hj with hj | hj
        all_goals
          go_wp2
          go_roundw
          case rel => exact ⟨d + 1, _, by omega, by go_num, rfl, HR'.out⟩
          case measure => simp [intOf] <;> omega
      · have HR' := hide (HR.out.set (z := (d : Int) - (L : Int)) (by omega) (by rw [band_first (by omega), if_neg hj]; omega))
        have hps : ∀ v, (p.setIfInBounds d v)[d]? = some v := fun v => by
          have : d < p.size := by rw [HR.out.1]; omega
          simp [this]
        have hj1 : L ≤ d := by omega
        have hj2 : d ≤ y + L := by omega
        have hj3 : (d : Int) - (L : Int) ≤ (y : Int) := by omega
        clear hj
        go_wp2
        go_roundw
        case rel => exact ⟨d + 1, _, by omega, by go_num, rfl, HR'.out⟩
        case measure => simp [intOf] <;> omega
    · have HR0 : Hid (Row p (2 * L + 1) (band f g y L 0)) := row_at HR.out (by omega)
      clear HR
      have hdw0 : ¬ (d : Int) < 2 * (L : Int) + 1 := by omega
      go_wp2
      clear hdw0
      go_loopw [13] (fun v wr => ∃ (i nq : Nat) (p nx : Array Value), i ≤ x ∧ v = .int .i64 ((i : Int) + 1) ∧ wr = ((w.alloc (.cells p 45)).alloc (.cells nx 45)).drewN nq ∧ Row p (2 * L + 1) (band f g y L i) ∧ Ints nx) (fun v _ => x + 1 - (intOf v).toNat)
      case atStart => exact ⟨0, 0, p, _, Nat.zero_le _, rfl, rfl, HR0.out, ints_zero⟩
      case round =>
        clear HR0
        obtain ⟨i, nq, p, nx, hi, rfl, rfl, hR, hN⟩ := hrel
        have HR := hide hR
        have HN := hide hN
        clear hR hN
        by_cases hit : i < x
        · have hdi : decide ((i : Int) + 1 ≤ (x : Int)) = true := decide_eq_true (by omega)
          go_wp2_with fail
          go_loopw [14, 53] (fun nr c wr => ∃ (d nq : Nat) (nx : Array Value), d ≤ 2 * L + 1 ∧ c = .int .i64 d ∧ nr = .int .i64 (least f g y L (i + 1) d : Nat) ∧ wr = ((w.alloc (.cells p 45)).alloc (.cells nx 45)).drewN nq ∧ Row nx d (band f g y L (i + 1)) ∧ Ints nx) (fun _ c _ => 2 * L + 1 - (intOf c).toNat)
          case atStart => exact ⟨0, nq, nx, Nat.zero_le _, rfl, by go_num, rfl, ⟨HN.out.1, fun d hd => by omega⟩, HN.out⟩
          case round =>
            clear HN
            obtain ⟨d, nq, nx, hd, rfl, hnr, rfl, hRn, hN⟩ := hrel
            have HRn := hide hRn
            have HN := hide hN
            clear hRn hN
            obtain ⟨M, hM⟩ : ∃ M, M = least f g y L (i + 1) d := ⟨_, rfl⟩
            have hMb : M ≤ L + 1 := by rw [hM]; exact least_le _ _ _ _ _ _
            rw [← hM] at hnr
            subst hnr
            have HM := hide hM
            clear hM
            by_cases hdt : d < 2 * L + 1
            · have h5 : (d : Int) < 5 := by omega
              have hdw : (d : Int) < 2 * (L : Int) + 1 := by omega
              obtain ⟨v0, h4⟩ : ∃ v0, nx[d]? = some v0 := ⟨nx[d]'(by rw [HN.out.1]; omega), Array.getElem?_eq_getElem _⟩
              have hps : ∀ v, (nx.setIfInBounds d v)[d]? = some v := fun v => by
                have : d < nx.size := by rw [HN.out.1]; omega
                simp [this]
              have Hls : Hid (least f g y L (i + 1) (d + 1) = min M (band f g y L (i + 1) d)) := by show least f g y L (i + 1) (d + 1) = _; rw [HM.out]; rfl
              by_cases hj : i + 1 + d < L ∨ y < i + 1 + d - L
              · have Hb1 := hide (band_out (f := f) (g := g) hj)
                have HR' := hide (HRn.out.set (z := (L : Int) + 1) (by omega) (by rw [Hb1.out]; simp))
                have Hv : Hid (mn (M : Int) ((L : Int) + 1) = ((least f g y L (i + 1) (d + 1) : Nat) : Int)) := by
                  show mn (M : Int) ((L : Int) + 1) = _
                  rw [Hls.out, Hb1.out]; exact mn_nat M (L + 1)
                rcases hj with hj | hj
                · have hj1 : (i : Int) + 1 + (d : Int) - (L : Int) < 0 := by omega
                  go_wp2
                  go_roundw
                  case rel => exact ⟨d + 1, _, _, by omega, by go_num, by rw [Hv.out], rfl, HR'.out, HN.out.set _ _⟩
                  case measure => simp [intOf] <;> omega
                · have hj1 : (y : Int) < (i : Int) + 1 + (d : Int) - (L : Int) := by omega
                  have hj0 : ¬ (i : Int) + 1 + (d : Int) - (L : Int) < 0 := by omega
                  go_wp2
                  go_roundw
                  case rel => exact ⟨d + 1, _, _, by omega, by go_num, by rw [Hv.out], rfl, HR'.out, HN.out.set _ _⟩
                  case measure => simp [intOf] <;> omega
              · by_cases hz : i + 1 + d = L
                · have Hb1 := hide (band_zero (f := f) (g := g) (n := y) hz)
                  have Hq : Hid (mn ((i : Int) + 1) ((L : Int) + 1) = ((band f g y L (i + 1) d : Nat) : Int)) := by
                    show mn ((i : Int) + 1) ((L : Int) + 1) = _
                    rw [Hb1.out]; exact mn_nat (i + 1) (L + 1)
                  have HR' := hide (HRn.out.set (z := mn ((i : Int) + 1) ((L : Int) + 1)) (by omega) Hq.out)
                  have Hv : Hid (mn (M : Int) (mn ((i : Int) + 1) ((L : Int) + 1)) = ((least f g y L (i + 1) (d + 1) : Nat) : Int)) := by
                    show mn (M : Int) (mn ((i : Int) + 1) ((L : Int) + 1)) = _
                    rw [Hls.out, Hq.out]; exact mn_nat M _
                  have hj1 : ¬ (i : Int) + 1 + (d : Int) - (L : Int) < 0 := by omega
                  have hj2 : ¬ (y : Int) < (i : Int) + 1 + (d : Int) - (L : Int) := by omega
                  have hj3 : ((i : Int) + 1 + (d : Int) - (L : Int) == 0) = true := by simp; omega
                  clear hj
                  have Hz := hide hz
                  clear hz
                  go_wp2
                  go_roundw
                  case rel => exact ⟨d + 1, _, _, by omega, by go_num, by rw [Hv.out], rfl, HR'.out, HN.out.set _ _⟩
                  case measure => simp [intOf] <;> omega
                · obtain ⟨j, hje⟩ : ∃ j, i + 1 + d = j + 1 + L := ⟨i + d - L, by omega⟩
                  have eJ : (i : Int) + 1 + (d : Int) - (L : Int) = (j : Int) + 1 := by omega
                  have hjy : j < y := by omega
                  have Hbi := hide (band_in (f := f) (g := g) (n := y) (L := L) (i := i) (d := d) (j := j) (by omega) hje (by omega))
                  obtain ⟨Ba, oa, rfl, hcap, hcl⟩ := Ha.out.addr (by omega)
                  obtain ⟨Bb, ob, rfl, hcap2, hcl2⟩ := Hb.out.addr (by omega)
                  have hfa := hcl i hit
                  have hfb := hcl2 j hjy
                  have hBa : Ba < w.heap.size := World.block_lt_of_cell? w _ hfa
                  have hBb : Bb < w.heap.size := World.block_lt_of_cell? w _ hfb
                  have hBa' : Ba < w.heap.size + 1 := by omega
                  have hBb' : Bb < w.heap.size + 1 := by omega
                  have hix : (i : Int) < (x : Int) := by omega
                  have hjy' : (j : Int) < (y : Int) := by omega
                  have hj2 : ¬ (y : Int) < (j : Int) + 1 := by omega
                  have hj1 : ¬ (j : Int) + 1 < 0 := by omega
                  have hj3 : ((j : Int) + 1 == 0) = false := by simp; omega
                  obtain ⟨A, hA⟩ : ∃ A, A = band f g y L i d := ⟨_, rfl⟩
                  obtain ⟨B1, hB1⟩ : ∃ B1, B1 = band f g y L i (d + 1) := ⟨_, rfl⟩
                  obtain ⟨C1, hC1⟩ : ∃ C1, C1 = band f g y L (i + 1) (d - 1) := ⟨_, rfl⟩
                  have hAb : A ≤ L + 1 := by rw [hA]; exact band_le _ _ _ _ _ _
                  have hBb1 : B1 ≤ L + 1 := by rw [hB1]; exact band_le _ _ _ _ _ _
                  have hCb1 : C1 ≤ L + 1 := by rw [hC1]; exact band_le _ _ _ _ _ _
                  have hpA : p[d]? = some (.int .i64 (A : Int)) := by rw [hA]; exact HR.out.2 d hdt
                  have HA := hide hA
                  have HB1 := hide hB1
                  have HC1 := hide hC1
                  have Hje := hide hje
                  clear hj hz hje hA hB1 hC1 hcl hcl2
                  by_cases he : f i = g j
                  · by_cases hB : d + 1 < 2 * L + 1
                    · by_cases hC : 0 < d
                      · skip
                        have Hq : Hid (mn (mn (mn (A : Int) ((B1 : Int) + 1)) ((C1 : Int) + 1)) ((L : Int) + 1) = ((band f g y L (i + 1) d : Nat) : Int)) := by
                          show mn (mn (mn ((A : Nat) : Int) ((B1 + 1 : Nat) : Int)) ((C1 + 1 : Nat) : Int)) ((L + 1 : Nat) : Int) = _
                          rw [mn_nat, mn_nat, mn_nat, Hbi.out, if_pos he, if_pos hB, if_pos hC, ← HA.out, ← HB1.out, ← HC1.out] <;> omega
                        have HR' := hide (HRn.out.set (z := mn (mn (mn (A : Int) ((B1 : Int) + 1)) ((C1 : Int) + 1)) ((L : Int) + 1)) (by omega) Hq.out)
                        have Hv : Hid (mn (M : Int) (mn (mn (mn (A : Int) ((B1 : Int) + 1)) ((C1 : Int) + 1)) ((L : Int) + 1)) = ((least f g y L (i + 1) (d + 1) : Nat) : Int)) := by
                          show mn (M : Int) (mn (mn (mn (A : Int) ((B1 : Int) + 1)) ((C1 : Int) + 1)) ((L : Int) + 1)) = _
                          rw [Hls.out, Hq.out]; exact mn_nat M _
                        have he' : (f i != g j) = false := by simp [he]
                        have hB' : (d : Int) + 1 < 2 * (L : Int) + 1 := by omega
                        have hB5 : (d : Int) + 1 < 5 := by omega
                        have hpB : p[d + 1]? = some (.int .i64 (B1 : Int)) := by rw [HB1.out]; exact HR.out.2 (d + 1) hB
                        obtain ⟨e, he1⟩ : ∃ e, d = e + 1 := ⟨d - 1, by omega⟩
                        have hC' : (0 : Int) < (d : Int) := by omega
                        have eE : (d : Int) - 1 = (e : Int) := by omega
                        have hE5 : (e : Int) < 5 := by omega
                        have hpC : nx[e]? = some (.int .i64 (C1 : Int)) := by rw [HC1.out, show d - 1 = e by omega]; exact HRn.out.2 e (by omega)
                        have He1 := hide he1
                        clear he1
                        clear he
                        go_wp2
                        go_quiet (fail)
                        go_wp2
                        go_roundw
                        case rel => exact ⟨d + 1, _, _, by omega, by go_num, by rw [Hv.out], rfl, HR'.out, HN.out.set _ _⟩
                        case measure => simp [intOf] <;> omega
                      · skip
                        have Hq : Hid (mn (mn (A : Int) ((B1 : Int) + 1)) ((L : Int) + 1) = ((band f g y L (i + 1) d : Nat) : Int)) := by
                          show mn (mn ((A : Nat) : Int) ((B1 + 1 : Nat) : Int)) ((L + 1 : Nat) : Int) = _
                          rw [mn_nat, mn_nat, Hbi.out, if_pos he, if_pos hB, if_neg hC, ← HA.out, ← HB1.out] <;> omega
                        have HR' := hide (HRn.out.set (z := mn (mn (A : Int) ((B1 : Int) + 1)) ((L : Int) + 1)) (by omega) Hq.out)
                        have Hv : Hid (mn (M : Int) (mn (mn (A : Int) ((B1 : Int) + 1)) ((L : Int) + 1)) = ((least f g y L (i + 1) (d + 1) : Nat) : Int)) := by
                          show mn (M : Int) (mn (mn (A : Int) ((B1 : Int) + 1)) ((L : Int) + 1)) = _
                          rw [Hls.out, Hq.out]; exact mn_nat M _
                        have he' : (f i != g j) = false := by simp [he]
                        have hB' : (d : Int) + 1 < 2 * (L : Int) + 1 := by omega
                        have hB5 : (d : Int) + 1 < 5 := by omega
                        have hpB : p[d + 1]? = some (.int .i64 (B1 : Int)) := by rw [HB1.out]; exact HR.out.2 (d + 1) hB
                        have hC' : ¬ (0 : Int) < (d : Int) := by omega
                        clear he
                        go_wp2
                        go_quiet (fail)
                        go_wp2
                        go_roundw
                        case rel => exact ⟨d + 1, _, _, by omega, by go_num, by rw [Hv.out], rfl, HR'.out, HN.out.set _ _⟩
                        case measure => simp [intOf] <;> omega
                    · by_cases hC : 0 < d
                      · skip
                        have Hq : Hid (mn (mn (A : Int) ((C1 : Int) + 1)) ((L : Int) + 1) = ((band f g y L (i + 1) d : Nat) : Int)) := by
                          show mn (mn ((A : Nat) : Int) ((C1 + 1 : Nat) : Int)) ((L + 1 : Nat) : Int) = _
                          rw [mn_nat, mn_nat, Hbi.out, if_pos he, if_neg hB, if_pos hC, ← HA.out, ← HC1.out] <;> omega
                        have HR' := hide (HRn.out.set (z := mn (mn (A : Int) ((C1 : Int) + 1)) ((L : Int) + 1)) (by omega) Hq.out)
                        have Hv : Hid (mn (M : Int) (mn (mn (A : Int) ((C1 : Int) + 1)) ((L : Int) + 1)) = ((least f g y L (i + 1) (d + 1) : Nat) : Int)) := by
                          show mn (M : Int) (mn (mn (A : Int) ((C1 : Int) + 1)) ((L : Int) + 1)) = _
                          rw [Hls.out, Hq.out]; exact mn_nat M _
                        have he' : (f i != g j) = false := by simp [he]
                        have hB' : ¬ (d : Int) + 1 < 2 * (L : Int) + 1 := by omega
                        obtain ⟨e, he1⟩ : ∃ e, d = e + 1 := ⟨d - 1, by omega⟩
                        have hC' : (0 : Int) < (d : Int) := by omega
                        have eE : (d : Int) - 1 = (e : Int) := by omega
                        have hE5 : (e : Int) < 5 := by omega
                        have hpC : nx[e]? = some (.int .i64 (C1 : Int)) := by rw [HC1.out, show d - 1 = e by omega]; exact HRn.out.2 e (by omega)
                        have He1 := hide he1
                        clear he1
                        clear he
                        go_wp2
                        go_quiet (fail)
                        go_wp2
                        go_roundw
                        case rel => exact ⟨d + 1, _, _, by omega, by go_num, by rw [Hv.out], rfl, HR'.out, HN.out.set _ _⟩
                        case measure => simp [intOf] <;> omega
                      · skip
                        have Hq : Hid (mn (A : Int) ((L : Int) + 1) = ((band f g y L (i + 1) d : Nat) : Int)) := by
                          show mn ((A : Nat) : Int) ((L + 1 : Nat) : Int) = _
                          rw [mn_nat, Hbi.out, if_pos he, if_neg hB, if_neg hC, ← HA.out] <;> omega
                        have HR' := hide (HRn.out.set (z := mn (A : Int) ((L : Int) + 1)) (by omega) Hq.out)
                        have Hv : Hid (mn (M : Int) (mn (A : Int) ((L : Int) + 1)) = ((least f g y L (i + 1) (d + 1) : Nat) : Int)) := by
                          show mn (M : Int) (mn (A : Int) ((L : Int) + 1)) = _
                          rw [Hls.out, Hq.out]; exact mn_nat M _
                        have he' : (f i != g j) = false := by simp [he]
                        have hB' : ¬ (d : Int) + 1 < 2 * (L : Int) + 1 := by omega
                        have hC' : ¬ (0 : Int) < (d : Int) := by omega
                        clear he
                        go_wp2
                        go_quiet (fail)
                        go_wp2
                        go_roundw
                        case rel => exact ⟨d + 1, _, _, by omega, by go_num, by rw [Hv.out], rfl, HR'.out, HN.out.set _ _⟩
                        case measure => simp [intOf] <;> omega
                  · by_cases hB : d + 1 < 2 * L + 1
                    · by_cases hC : 0 < d
                      · skip
                        have Hq : Hid (mn (mn (mn ((A : Int) + 1) ((B1 : Int) + 1)) ((C1 : Int) + 1)) ((L : Int) + 1) = ((band f g y L (i + 1) d : Nat) : Int)) := by
                          show mn (mn (mn (((A + 1) : Nat) : Int) ((B1 + 1 : Nat) : Int)) ((C1 + 1 : Nat) : Int)) ((L + 1 : Nat) : Int) = _
                          rw [mn_nat, mn_nat, mn_nat, Hbi.out, if_neg he, if_pos hB, if_pos hC, ← HA.out, ← HB1.out, ← HC1.out] <;> omega
                        have HR' := hide (HRn.out.set (z := mn (mn (mn ((A : Int) + 1) ((B1 : Int) + 1)) ((C1 : Int) + 1)) ((L : Int) + 1)) (by omega) Hq.out)
                        have Hv : Hid (mn (M : Int) (mn (mn (mn ((A : Int) + 1) ((B1 : Int) + 1)) ((C1 : Int) + 1)) ((L : Int) + 1)) = ((least f g y L (i + 1) (d + 1) : Nat) : Int)) := by
                          show mn (M : Int) (mn (mn (mn ((A : Int) + 1) ((B1 : Int) + 1)) ((C1 : Int) + 1)) ((L : Int) + 1)) = _
                          rw [Hls.out, Hq.out]; exact mn_nat M _
                        have he' : (f i != g j) = true := by simp [he]
                        have hB' : (d : Int) + 1 < 2 * (L : Int) + 1 := by omega
                        have hB5 : (d : Int) + 1 < 5 := by omega
                        have hpB : p[d + 1]? = some (.int .i64 (B1 : Int)) := by rw [HB1.out]; exact HR.out.2 (d + 1) hB
                        obtain ⟨e, he1⟩ : ∃ e, d = e + 1 := ⟨d - 1, by omega⟩
                        have hC' : (0 : Int) < (d : Int) := by omega
                        have eE : (d : Int) - 1 = (e : Int) := by omega
                        have hE5 : (e : Int) < 5 := by omega
                        have hpC : nx[e]? = some (.int .i64 (C1 : Int)) := by rw [HC1.out, show d - 1 = e by omega]; exact HRn.out.2 e (by omega)
                        have He1 := hide he1
                        clear he1
                        clear he
                        go_wp2
                        go_quiet (fail)
                        go_wp2
                        go_roundw
                        case rel => exact ⟨d + 1, _, _, by omega, by go_num, by rw [Hv.out], rfl, HR'.out, HN.out.set _ _⟩
                        case measure => simp [intOf] <;> omega
                      · skip
                        have Hq : Hid (mn (mn ((A : Int) + 1) ((B1 : Int) + 1)) ((L : Int) + 1) = ((band f g y L (i + 1) d : Nat) : Int)) := by
                          show mn (mn (((A + 1) : Nat) : Int) ((B1 + 1 : Nat) : Int)) ((L + 1 : Nat) : Int) = _
                          rw [mn_nat, mn_nat, Hbi.out, if_neg he, if_pos hB, if_neg hC, ← HA.out, ← HB1.out] <;> omega
                        have HR' := hide (HRn.out.set (z := mn (mn ((A : Int) + 1) ((B1 : Int) + 1)) ((L : Int) + 1)) (by omega) Hq.out)
                        have Hv : Hid (mn (M : Int) (mn (mn ((A : Int) + 1) ((B1 : Int) + 1)) ((L : Int) + 1)) = ((least f g y L (i + 1) (d + 1) : Nat) : Int)) := by
                          show mn (M : Int) (mn (mn ((A : Int) + 1) ((B1 : Int) + 1)) ((L : Int) + 1)) = _
                          rw [Hls.out, Hq.out]; exact mn_nat M _
                        have he' : (f i != g j) = true := by simp [he]
                        have hB' : (d : Int) + 1 < 2 * (L : Int) + 1 := by omega
                        have hB5 : (d : Int) + 1 < 5 := by omega
                        have hpB : p[d + 1]? = some (.int .i64 (B1 : Int)) := by rw [HB1.out]; exact HR.out.2 (d + 1) hB
                        have hC' : ¬ (0 : Int) < (d : Int) := by omega
                        clear he
                        go_wp2
                        go_quiet (fail)
                        go_wp2
                        go_roundw
                        case rel => exact ⟨d + 1, _, _, by omega, by go_num, by rw [Hv.out], rfl, HR'.out, HN.out.set _ _⟩
                        case measure => simp [intOf] <;> omega
                    · by_cases hC : 0 < d
                      · skip
                        have Hq : Hid (mn (mn ((A : Int) + 1) ((C1 : Int) + 1)) ((L : Int) + 1) = ((band f g y L (i + 1) d : Nat) : Int)) := by
                          show mn (mn (((A + 1) : Nat) : Int) ((C1 + 1 : Nat) : Int)) ((L + 1 : Nat) : Int) = _
                          rw [mn_nat, mn_nat, Hbi.out, if_neg he, if_neg hB, if_pos hC, ← HA.out, ← HC1.out] <;> omega
                        have HR' := hide (HRn.out.set (z := mn (mn ((A : Int) + 1) ((C1 : Int) + 1)) ((L : Int) + 1)) (by omega) Hq.out)
                        have Hv : Hid (mn (M : Int) (mn (mn ((A : Int) + 1) ((C1 : Int) + 1)) ((L : Int) + 1)) = ((least f g y L (i + 1) (d + 1) : Nat) : Int)) := by
                          show mn (M : Int) (mn (mn ((A : Int) + 1) ((C1 : Int) + 1)) ((L : Int) + 1)) = _
                          rw [Hls.out, Hq.out]; exact mn_nat M _
                        have he' : (f i != g j) = true := by simp [he]
                        have hB' : ¬ (d : Int) + 1 < 2 * (L : Int) + 1 := by omega
                        obtain ⟨e, he1⟩ : ∃ e, d = e + 1 := ⟨d - 1, by omega⟩
                        have hC' : (0 : Int) < (d : Int) := by omega
                        have eE : (d : Int) - 1 = (e : Int) := by omega
                        have hE5 : (e : Int) < 5 := by omega
                        have hpC : nx[e]? = some (.int .i64 (C1 : Int)) := by rw [HC1.out, show d - 1 = e by omega]; exact HRn.out.2 e (by omega)
                        have He1 := hide he1
                        clear he1
                        clear he
                        go_wp2
                        go_quiet (fail)
                        go_wp2
                        go_roundw
                        case rel => exact ⟨d + 1, _, _, by omega, by go_num, by rw [Hv.out], rfl, HR'.out, HN.out.set _ _⟩
                        case measure => simp [intOf] <;> omega
                      · skip
                        have Hq : Hid (mn ((A : Int) + 1) ((L : Int) + 1) = ((band f g y L (i + 1) d : Nat) : Int)) := by
                          show mn (((A + 1) : Nat) : Int) ((L + 1 : Nat) : Int) = _
                          rw [mn_nat, Hbi.out, if_neg he, if_neg hB, if_neg hC, ← HA.out] <;> omega
                        have HR' := hide (HRn.out.set (z := mn ((A : Int) + 1) ((L : Int) + 1)) (by omega) Hq.out)
                        have Hv : Hid (mn (M : Int) (mn ((A : Int) + 1) ((L : Int) + 1)) = ((least f g y L (i + 1) (d + 1) : Nat) : Int)) := by
                          show mn (M : Int) (mn ((A : Int) + 1) ((L : Int) + 1)) = _
                          rw [Hls.out, Hq.out]; exact mn_nat M _
                        have he' : (f i != g j) = true := by simp [he]
                        have hB' : ¬ (d : Int) + 1 < 2 * (L : Int) + 1 := by omega
                        have hC' : ¬ (0 : Int) < (d : Int) := by omega
                        clear he
                        go_wp2
                        go_quiet (fail)
                        go_wp2
                        go_roundw
                        case rel => exact ⟨d + 1, _, _, by omega, by go_num, by rw [Hv.out], rfl, HR'.out, HN.out.set _ _⟩
                        case measure => simp [intOf] <;> omega
            · have hde : d = 2 * L + 1 := by omega
              have hdw : ¬ (d : Int) < 2 * (L : Int) + 1 := by omega
              by_cases hM1 : M = L + 1
              · have HV : Hid (min (D f g x y) (L + 1) = L + 1) := by
                  have h := band_over (f := f) (g := g) (m := x) (n := y) (L := L) (i := i + 1) (by omega) (least_full (by rw [← hde, ← HM.out]; exact hM1))
                  show min (D f g x y) (L + 1) = L + 1
                  omega
                have hM2 : ((M : Int) == (L : Int) + 1) = true := by simp; omega
                clear hM1 hde
                go_wp2
                go_ret
                exact ⟨ret_int (by rw [HV.out]; simp), below_drewN (((Below.refl _ _).alloc (Nat.le_refl _) _).alloc (by simp) _) _⟩
              · have hM2 : ((M : Int) == (L : Int) + 1) = false := by simp; omega
                have HRx := hide (row_at HRn.out hde)
                obtain ⟨z0, k0⟩ := HN.out.2 0 (by omega)
                obtain ⟨z1, k1⟩ := HN.out.2 1 (by omega)
                obtain ⟨z2, k2⟩ := HN.out.2 2 (by omega)
                obtain ⟨z3, k3⟩ := HN.out.2 3 (by omega)
                obtain ⟨z4, k4⟩ := HN.out.2 4 (by omega)
                have hp5 := HR.out.1
                obtain ⟨v0, g0⟩ : ∃ v, p[0]? = some v := ⟨p[0]'(by omega), Array.getElem?_eq_getElem _⟩
                obtain ⟨v1, g1⟩ : ∃ v, p[1]? = some v := ⟨p[1]'(by omega), Array.getElem?_eq_getElem _⟩
                obtain ⟨v2, g2⟩ : ∃ v, p[2]? = some v := ⟨p[2]'(by omega), Array.getElem?_eq_getElem _⟩
                obtain ⟨v3, g3⟩ : ∃ v, p[3]? = some v := ⟨p[3]'(by omega), Array.getElem?_eq_getElem _⟩
                obtain ⟨v4, g4⟩ : ∃ v, p[4]? = some v := ⟨p[4]'(by omega), Array.getElem?_eq_getElem _⟩
                have Hcp := hide (copy5 hp5 HN.out.1 k0 k1 k2 k3 k4)
                clear hM1 hde hp5
                go_wp2
                go_roundw
                case rel => exact ⟨i + 1, _, _, _, by omega, by go_num, rfl, by rw [Hcp.out]; exact HRx.out, HN.out⟩
                case measure => simp [intOf] <;> omega
        · have hie : i = x := by omega
          obtain ⟨e, hee⟩ : ∃ e, e = y + L - x := ⟨_, rfl⟩
          have eI : (y : Int) - (x : Int) + (L : Int) = (e : Int) := by omega
          have he5 : (e : Int) < 5 := by omega
          have hix : ¬ (i : Int) + 1 ≤ (x : Int) := by omega
          have hpe : p[e]? = some (.int .i64 ((min (D f g x y) (L + 1) : Nat) : Int)) := by
            rw [HR.out.2 e (by omega), hee, hie, band_last hxy]
          clear hie
          have Hee := hide hee
          clear hee
          obtain ⟨V, hV⟩ : ∃ V, V = min (D f g x y) (L + 1) := ⟨_, rfl⟩
          rw [← hV] at hpe
          have HV := hide hV
          clear hV
          go_wp2
          go_ret
          exact ⟨by rw [← HV.out]; rfl, below_drewN (((Below.refl _ _).alloc (Nat.le_refl _) _).alloc (by simp) _) _⟩

theorem zzdist_any (L x y ca cb : Nat) (ao bo : Option Addr) (f g : Nat → Int) (w : World) (hL : L ≤ 2) (hx : x ≤ 65536) (hy : y ≤ 65536) (hxy : x ≤ y + L) (hyx : y ≤ x + L) (ha : View w ao x ca f) (hb : View w bo y cb g) :
    Calls Try.prog 12 #[.slice ao x ca, .slice bo y cb, .int .i64 L] w fun e w' => e = .returned (.int .i64 ((min (D f g x y) (L + 1) : Nat) : Int)) ∧ Below w.heap.size w w' := by
  have C := hide (dist_any L x y ca cb ao bo f g w hL hx hy hxy hyx ha hb)
  clear ha hb
  generalize min (D f g x y) (L + 1) = V at *
  go_enter Try.func12, Try.ntmps12
  go_wp2_with (first | (go_at_call 26; refine C.out.mono ?_; rintro e w1 ⟨rfl, hb1⟩))
  go_ret
  exact ⟨rfl, hb1⟩
end Go.Proofs.Qxb6603091a
