import Derived.Test.Qxb6603091aWithin
import Derived.Deep.RegionWith
namespace Go.Proofs.Qxb6603091a
open Go.RowKit
set_option linter.unusedVariables false

def WithinSaid (k : Nat) : Prop := ∀ (x y ca cb : Nat) (ao bo : Option Addr) (F G : Nat → Int) (w : World), x ≤ 65536 → y ≤ 65536 → View w ao x ca (fun i => F (x - 1 - i)) → View w bo y cb (fun i => G (y - 1 - i)) →
    Calls Try.prog 27 #[.slice ao x ca, .slice bo y cb, .int .i64 k] w fun e w' => e = .returned (.bool (decide (D F G x y ≤ k))) ∧ ∃ nq, w' = w.drewN nq

/-- A slice from index 1 on. -/
theorem View.tail {w : World} {B off n cap : Nat} {F : Nat → Int} (h : ∀ i, i < n → w.cell? ⟨B, off + i, none⟩ = some (.int .i32 (F (n - 1 - i)))) (hn : 0 < n) (hc : n ≤ cap) :
    View w (if cap = 1 then some ⟨B, off, none⟩ else some ⟨B, off + 1, none⟩) (n - 1) (cap - 1) (fun i => F (n - 1 - 1 - i)) := by
  by_cases h1 : cap = 1
  · rw [if_pos h1]
    exact .inr ⟨B, off, rfl, by omega, fun i hi => by omega⟩
  · rw [if_neg h1]
    refine .inr ⟨B, off + 1, rfl, by omega, fun i hi => ?_⟩
    have := h (i + 1) (by omega)
    rw [show off + 1 + i = off + (i + 1) by omega, this, show n - 1 - (i + 1) = n - 1 - 1 - i by omega]

theorem quiet_at {P : Program} {f : FuncId} {args : Array Value} {w : World} {a n : Nat} {v : Value}
    (h : Calls P f args (w.drewN (a + n)) fun e w' => e = .returned v ∧ ∃ m, w' = (w.drewN (a + n)).drewN m) : Calls P f args (w.drewN (a + n)) fun e w'' => e = .returned v ∧ ∃ m, w'' = w.drewN (a + m) :=
  h.mono fun _ _ ⟨he, m, hm⟩ => ⟨he, n + m, by rw [hm, World.drewN_drewN, Nat.add_assoc]⟩

set_option maxRecDepth 100000 in
set_option maxHeartbeats 4000000 in
theorem within_xy (k x y ca cb : Nat) (B off B2 off2 : Nat) (F G : Nat → Int) (w : World) (hk : k ≤ 2) (hx : x ≤ 65536) (hy : y ≤ 65536) (hx0 : 0 < x) (hy0 : 0 < y) (hca : x ≤ ca) (hcb : y ≤ cb)
    (hA : Hid (∀ i, i < x → w.cell? ⟨B, off + i, none⟩ = some (.int .i32 (F (x - 1 - i))))) (hB : Hid (∀ i, i < y → w.cell? ⟨B2, off2 + i, none⟩ = some (.int .i32 (G (y - 1 - i)))))
    (ih : Hid (∀ k', k' < k → WithinSaid k')) :
    Calls Try.prog 27 #[.slice (some ⟨B, off, none⟩) x ca, .slice (some ⟨B2, off2, none⟩) y cb, .int .i64 k] w fun e w' => e = .returned (.bool (decide (D F G x y ≤ k))) ∧ ∃ nq, w' = w.drewN nq := by
  go_enter Try.func27, Try.ntmps27
  go_wp2
  go_loopw [7] (fun v wr => ∃ q : Nat, q ≤ x ∧ q ≤ y ∧ v = .int .i64 q ∧ (∃ nq, wr = w.drewN nq) ∧ D F G x y = D F G (x - q) (y - q)) (fun v _ => x - (intOf v).toNat)
  case atStart => exact ⟨0, Nat.zero_le _, Nat.zero_le _, rfl, ⟨0, rfl⟩, rfl⟩
  case round =>
    obtain ⟨q, hqx, hqy, rfl, hw, hD⟩ := hrel
    have Hw := hide hw
    have HD := hide hD
    clear hw hD
    have hcA : Hid (∀ i, i < x → wr.cell? ⟨B, off + i, none⟩ = some (.int .i32 (F (x - 1 - i)))) := by obtain ⟨nq, rfl⟩ := Hw.out; exact hA.out
    have hcB : Hid (∀ i, i < y → wr.cell? ⟨B2, off2 + i, none⟩ = some (.int .i32 (G (y - 1 - i)))) := by obtain ⟨nq, rfl⟩ := Hw.out; exact hB.out
    by_cases hqx' : q < x
    · by_cases hqy' : q < y
      · have h1 := hcA.out q hqx'
        have h2 := hcB.out q hqy'
        have h3 : (q : Int) < (x : Int) := by omega
        have h4 : (q : Int) < (y : Int) := by omega
        by_cases he : F (x - 1 - q) = G (y - 1 - q)
        · have he' : (F (x - 1 - q) == G (y - 1 - q)) = true := by simp [he]
          have He : Hid (D F G (x - q) (y - q) = D F G (x - (q + 1)) (y - (q + 1))) := by
            have e1 : x - q = x - (q + 1) + 1 := by omega
            have e2 : y - q = y - (q + 1) + 1 := by omega
            show D F G (x - q) (y - q) = _
            rw [e1, e2]
            exact D_same F G (by rw [show x - (q + 1) = x - 1 - q by omega, show y - (q + 1) = y - 1 - q by omega]; exact he)
          clear he
          go_wp2
          go_quiet (fail)
          go_wp2
          go_roundw
          case rel => exact ⟨q + 1, by omega, by omega, by go_num, by obtain ⟨n0, e⟩ := Hw.out; exact ⟨n0 + nq, by rw [e, World.drewN_drewN]⟩, by rw [HD.out, He.out]⟩
          case measure => simp [intOf] <;> omega
        · have he' : (F (x - 1 - q) == G (y - 1 - q)) = false := by simp [he]
          have hcq : ¬ ca = q := by omega
          have hcq2 : ¬ cb = q := by omega
          have hxq : ¬ x = q := by omega
          have hyq : ¬ y = q := by omega
          have HE : Hid (D F G (x - q) (y - q) = min (min (D F G (x - q - 1) (y - q - 1)) (D F G (x - q - 1) (y - q))) (D F G (x - q) (y - q - 1)) + 1) := by
            have e1 : x - q = x - q - 1 + 1 := by omega
            have e2 : y - q = y - q - 1 + 1 := by omega
            show D F G (x - q) (y - q) = _
            have h := D_diff F G (i := x - q - 1) (j := y - q - 1) (by rw [show x - q - 1 = x - 1 - q by omega, show y - q - 1 = y - 1 - q by omega]; exact he)
            rw [← e1, ← e2] at h
            exact h
          clear he
          have hxx : ((x : Int) - (q : Int) == 0) = false := by simp; omega
          have hyy : ((y : Int) - (q : Int) == 0) = false := by simp; omega
          cases k with
          | zero =>
            go_wp2
            go_quiet (fail)
            go_wp2
            go_ret
            exact ⟨ret_bool (by rw [HD.out, HE.out]; simp), by obtain ⟨n0, e⟩ := Hw.out; exact ⟨n0 + nq, by rw [e, World.drewN_drewN]⟩⟩
          | succ k =>
            have hvA : ∀ i, i < x - q → wr.cell? ⟨B, off + q + i, none⟩ = some (.int .i32 (F (x - q - 1 - i))) := fun i hi => by
              rw [show off + q + i = off + (q + i) by omega, hcA.out (q + i) (by omega), show x - 1 - (q + i) = x - q - 1 - i by omega]
            have hvB : ∀ i, i < y - q → wr.cell? ⟨B2, off2 + q + i, none⟩ = some (.int .i32 (G (y - q - 1 - i))) := fun i hi => by
              rw [show off2 + q + i = off2 + (q + i) by omega, hcB.out (q + i) (by omega), show y - 1 - (q + i) = y - q - 1 - i by omega]
            have tA := View.tail hvA (by omega) (show x - q ≤ ca - q by omega)
            have tB := View.tail hvB (by omega) (show y - q ≤ cb - q by omega)
            have wA : View wr (some ⟨B, off + q, none⟩) (x - q) (ca - q) (fun i => F (x - q - 1 - i)) := .inr ⟨B, off + q, rfl, by omega, hvA⟩
            have wB : View wr (some ⟨B2, off2 + q, none⟩) (y - q) (cb - q) (fun i => G (y - q - 1 - i)) := .inr ⟨B2, off2 + q, rfl, by omega, hvB⟩
            have C1 := hide (fun n => ih.out k (by omega) _ _ _ _ _ _ F G (wr.drewN n) (show x - q - 1 ≤ 65536 by omega) (show y - q - 1 ≤ 65536 by omega) (tA.drewN n) (tB.drewN n))
            have C2 := hide (fun n => ih.out k (by omega) _ _ _ _ _ _ F G (wr.drewN n) (show x - q - 1 ≤ 65536 by omega) (show y - q ≤ 65536 by omega) (tA.drewN n) (wB.drewN n))
            have C3 := hide (fun n => ih.out k (by omega) _ _ _ _ _ _ F G (wr.drewN n) (show x - q ≤ 65536 by omega) (show y - q - 1 ≤ 65536 by omega) (wA.drewN n) (tB.drewN n))
            have HV : Hid (decide (D F G x y ≤ k + 1) = (decide (D F G (x - q - 1) (y - q - 1) ≤ k) || decide (D F G (x - q - 1) (y - q) ≤ k) || decide (D F G (x - q) (y - q - 1) ≤ k))) := by
              show decide (D F G x y ≤ k + 1) = _
              rw [HD.out, HE.out, Bool.eq_iff_iff]
              simp only [decide_eq_true_eq, Bool.or_eq_true]
              omega
            clear hvA hvB tA tB wA wB
            generalize decide (D F G (x - q - 1) (y - q - 1) ≤ k) = b1 at *
            generalize decide (D F G (x - q - 1) (y - q) ≤ k) = b2 at *
            generalize decide (D F G (x - q) (y - q - 1) ≤ k) = b3 at *
            have hk0 : ¬ (k : Int) + 1 ≤ 0 := by omega
            cases b1
            · cases b2
              · go_wp2
                go_quiet (fail)
                go_wp2
                go_quiet (first
                  | (go_at_call_of 27 (Value.slice (some ⟨B2, off2 + q, none⟩) (y - q) (cb - q)); refine quiet_at (C2.out _))
                  | (go_at_call_of 27 (Value.slice (some ⟨B, off + q, none⟩) (x - q) (ca - q)); refine quiet_at (C3.out _))
                  | (go_at_call 27; refine quiet_at (C1.out _)))
                go_wp2
                all_goals
                  go_ret
                  exact ⟨ret_bool (by rw [HV.out]; rfl), by obtain ⟨n0, e⟩ := Hw.out; exact ⟨_, by rw [e, World.drewN_drewN]⟩⟩
              · go_wp2
                go_quiet (fail)
                go_wp2
                go_quiet (first
                  | (go_at_call_of 27 (Value.slice (some ⟨B2, off2 + q, none⟩) (y - q) (cb - q)); refine quiet_at (C2.out _))
                  | (go_at_call_of 27 (Value.slice (some ⟨B, off + q, none⟩) (x - q) (ca - q)); refine quiet_at (C3.out _))
                  | (go_at_call 27; refine quiet_at (C1.out _)))
                go_wp2
                all_goals
                  go_ret
                  exact ⟨ret_bool (by rw [HV.out]; rfl), by obtain ⟨n0, e⟩ := Hw.out; exact ⟨_, by rw [e, World.drewN_drewN]⟩⟩
            · go_wp2
              go_quiet (fail)
              go_wp2
              go_quiet (first
                | (go_at_call_of 27 (Value.slice (some ⟨B2, off2 + q, none⟩) (y - q) (cb - q)); refine quiet_at (C2.out _))
                | (go_at_call_of 27 (Value.slice (some ⟨B, off + q, none⟩) (x - q) (ca - q)); refine quiet_at (C3.out _))
                | (go_at_call 27; refine quiet_at (C1.out _)))
              go_wp2
              all_goals
                go_ret
                exact ⟨ret_bool (by rw [HV.out]; rfl), by obtain ⟨n0, e⟩ := Hw.out; exact ⟨_, by rw [e, World.drewN_drewN]⟩⟩
      · -- b is used up
        obtain rfl : y = q := by omega
        have hxq : ¬ x = y := by omega
        have hcq : ¬ ca = y := by omega
        have hxx : ((x : Int) - (y : Int) == 0) = false := by simp; omega
        have hd1 : decide ((y : Int) < (y : Int)) = false := by simp
        have HV : Hid (D F G x y = x - y) := by
          show D F G x y = x - y
          rw [HD.out, Nat.sub_self, D_left]
        by_cases hcb' : cb = y
        all_goals
          go_wp2
          go_quiet (fail)
          go_wp2
          all_goals
            go_ret
            exact ⟨ret_bool (by rw [HV.out]; first | rfl | exact decide_eq_decide.2 (by omega)), by obtain ⟨n0, e⟩ := Hw.out; exact ⟨_, by rw [e, World.drewN_drewN]⟩⟩
    · -- a is used up
      obtain rfl : x = q := by omega
      have hd1 : decide ((x : Int) < (x : Int)) = false := by simp
      have HV : Hid (D F G x y = y - x) := by
        show D F G x y = y - x
        rw [HD.out, Nat.sub_self, D_zero]
      by_cases hca' : ca = x
      all_goals
        by_cases hcb' : cb = x
        all_goals
          go_wp2
          go_quiet (fail)
          go_wp2
          all_goals
            go_ret
            exact ⟨ret_bool (by rw [HV.out]; first | rfl | exact decide_eq_decide.2 (by omega)), by obtain ⟨n0, e⟩ := Hw.out; exact ⟨_, by rw [e, World.drewN_drewN]⟩⟩

theorem within_any (k : Nat) : k ≤ 2 → WithinSaid k := by
  induction k using Nat.strongRecOn with
  | ind k ih =>
    intro hk x y ca cb ao bo F G w hx hy ha hb
    by_cases hx0 : x = 0
    · subst hx0
      exact within_x0 k y ca cb ao bo F G w hy hk ha hb
    · by_cases hy0 : y = 0
      · subst hy0
        exact within_y0 k x ca cb ao bo F G w (by omega) hx hk ha hb
      · obtain ⟨B, off, rfl, hca, hcA⟩ := ha.addr (by omega)
        obtain ⟨B2, off2, rfl, hcb, hcB⟩ := hb.addr (by omega)
        exact within_xy k x y ca cb B off B2 off2 F G w hk hx hy (by omega) (by omega) hca hcb hcA hcB (fun k' hk' => ih k' hk' (by omega))
end Go.Proofs.Qxb6603091a
