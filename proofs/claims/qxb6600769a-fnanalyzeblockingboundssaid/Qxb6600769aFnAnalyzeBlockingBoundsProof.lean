/- The statement Rows.FnAnalyzeBlockingBoundsSaid, proved. The frame is the guide's shell at this function; the walk is our own. -/
import Derived.Test.Qxb6600769aRows
import Derived.Test.Qxb6600769aPlain
import Derived.WalkKit
import Derived.ProofKit
import Derived.OpenShut
import Derived.ShutString
namespace Go.Proofs.Qxb6600769a.fnAnalyzeBlockingBounds
open Go.ChangeShapes Go.WideShapes Go.ChangeAt Go.RowKit
open Go.ChangeMaps (open_string shut_string)
set_option linter.unusedVariables false      -- a walk need not use every 'w<i>' (that an integer argument fits its kind)

theorem own : ownKnob Try.prog.godebug = none := by kernel_rfl

set_option maxHeartbeats 2000000 in
theorem walk (a0 : Int) (a1 : Int) (a2 : Bool) (a3 : Int) (a4 : Int) (a5 : Bool) (a6 : Int) (a7 : Int) (w : World) :
    Calls Try.prog 7 #[.int .i64 a0, .int .i64 a1, .bool a2, .int .i64 a3, .int .i64 a4, .bool a5, .int .i64 a6, .int .i64 a7] w fun e w' => e = .returned (.bool true) ∧ Below w.heap.size w w' := by
  cases hd : designOK 536870912 a0 a1 a2 a3 a4 a5 a6 a7
  · go_enter Try.func7, Try.ntmps7
    go_wp2_with (first | (go_at_call 10; refine (designOK_any _ _ _ _ _ _ _ _ _ (by omega) (by omega) _).mono ?_; rintro e w' ⟨rfl, rfl⟩))
    go_ret
    exact ⟨rfl, Below.refl _ _⟩
  · have hF := fits_of hd
    have hI := isect_blocks hF
    have hC := fun w => analyze_any 1 a0 a1 a2 a3 a4 a5 a6 a7 w rfl
    rw [isect_eq (by omega) hF, bbOf_eq a2 a3 a4 (by omega) hF hF.a1 hF.a2 hF.a3 hF.a4, bbOf_eq a5 a6 a7 (by omega) hF hF.e1 hF.e2 hF.e3 hF.e4] at hC
    obtain ⟨o1, o2, o3, o4⟩ := oneRule _ _ _ _ hF.a1 hF.a2 hF.a3 hF.a4
    obtain ⟨u1, u2, u3, u4⟩ := oneRule _ _ _ _ hF.e1 hF.e2 hF.e3 hF.e4
    rw [cs_prod] at o2 o4 u2 u4
    have hrc := hF.rc
    have e1 : nodesOf a0 a1 = a0 * a1 := w64 (by omega) (by omega)
    have e2 : wrap64 (a3 * a4) = a3 * a4 := w64 (by omega) (by omega)
    have e3 : wrap64 (a6 * a7) = a6 * a7 := w64 (by omega) (by omega)
    rw [e1, e2, e3] at hC
    clear e1 e2 e3 hF
    change 1 ≤ bbP a0 a1 a2 a3 a4 at o3
    change bbP a0 a1 a2 a3 a4 ≤ a0 * a1 - a3 * a4 + 1 at o4
    change 1 ≤ bbP a0 a1 a5 a6 a7 at u3
    change bbP a0 a1 a5 a6 a7 ≤ a0 * a1 - a6 * a7 + 1 at u4
    generalize bbP a0 a1 a2 a3 a4 = k1 at *
    generalize bbP a0 a1 a5 a6 a7 = k2 at *
    generalize isectP a0 a1 a2 a3 a4 a5 a6 a7 = I at *
    generalize a0 * a1 = N at *
    generalize a3 * a4 = q1 at *
    generalize a6 * a7 = q2 at *
    have H : Hid (∀ w : World, Calls Try.prog 15 #[.agg #[.int .u8 1, .int .i64 a0, .int .i64 a1, .bool a2, .int .i64 a3, .int .i64 a4, .bool a5, .int .i64 a6, .int .i64 a7, .bool false]] w fun e w' => e = .returned (.agg #[.int .u8 1, .int .i64 N, .int .i64 q1, .int .i64 q2, .bool I, .int .i64 k1, .int .i64 k2]) ∧ Below w.heap.size w w') := hC
    clear hC
    cases I
    · clear hI
      go_enter Try.func7, Try.ntmps7
      go_wp2_with (first
        | (go_at_call 10; refine (designOK_any _ _ _ _ _ _ _ _ _ (by omega) (by omega) _).mono ?_; rintro e w' ⟨rfl, rfl⟩)
        | (go_at_call 11; refine (zzdesign_any _ _ _ _ _ _ _ _ _ _).mono ?_; rintro e w' ⟨rfl, hb1⟩)
        | (go_at_call 15; refine (H.out _).mono ?_; rintro e w' ⟨rfl, hb2⟩))
      go_ret
      exact ⟨rfl, (below_call hb2 hb1 hb1.size).alloc (Nat.le_trans hb1.size hb2.size) _⟩
    · obtain ⟨i1, i2⟩ := hI rfl
      clear hI
      go_enter Try.func7, Try.ntmps7
      go_wp2_with (first
        | (go_at_call 10; refine (designOK_any _ _ _ _ _ _ _ _ _ (by omega) (by omega) _).mono ?_; rintro e w' ⟨rfl, rfl⟩)
        | (go_at_call 11; refine (zzdesign_any _ _ _ _ _ _ _ _ _ _).mono ?_; rintro e w' ⟨rfl, hb1⟩)
        | (go_at_call 15; refine (H.out _).mono ?_; rintro e w' ⟨rfl, hb2⟩))
      go_ret
      exact ⟨rfl, (below_call hb2 hb1 hb1.size).alloc (Nat.le_trans hb1.size hb2.size) _⟩

/-! ### THE ROW's STEP: WRITTEN OUT: LEAVE IT -/
set_option maxRecDepth 100000 in
theorem lifted (os : Os) (started : os.Started) (H : Type) (enc : TypeId × Value → H) :
    ReturnsInHanded {} Try.checked os 7 .any (Rows.fnAnalyzeBlockingBoundsSpec.pre6 enc Try.prog Try.f7 Rows.fnAnalyzeBlockingBoundsRow.domain false) (Rows.fnAnalyzeBlockingBoundsSpec.post enc Try.prog Try.f7 false true false false) := by
  refine returnsInHanded_of_change (C := Try.checked) own started (by kernel_rfl) Try.func7
    (ChangeSpec.witness6 (enc := enc) (C := Try.checked) false ⟨#[], #[.int .i64 0, .int .i64 0, .bool false, .int .i64 0, .int .i64 0, .bool false, .int .i64 0, .int .i64 0], []⟩ 8 (by kernel_rfl) (by kernel_rfl) (by kernel_rfl) (by kernel_rfl)) ?_
  intro W base args ds gs before hval0 hW hcnd _
  have hval : ∀ (j : Nat) t v, Try.f7.params[j]? = some t → args[j]? = some v → Value.okWide Try.prog W .any base t v := hval0
  have hW' := hW
  obtain ⟨p, q, hA0, hV, rfl, hfz, hnd⟩ := hW
  have hA : DataW.TrodAll enc Try.prog W 0 (fun _ => true) true Try.f7.params.toList args.toList ds p := hA0
  rw [Try.params7] at hA hval
  obtain ⟨v0, vs0, d0, ds0, p0, q0, hargs, rfl, rfl, h0, r0⟩ := trodAll_cons hA
  obtain ⟨v1, vs1, d1, ds1, p1, q1, rfl, rfl, rfl, h1, r1⟩ := trodAll_cons r0
  obtain ⟨v2, vs2, d2, ds2, p2, q2, rfl, rfl, rfl, h2, r2⟩ := trodAll_cons r1
  obtain ⟨v3, vs3, d3, ds3, p3, q3, rfl, rfl, rfl, h3, r3⟩ := trodAll_cons r2
  obtain ⟨v4, vs4, d4, ds4, p4, q4, rfl, rfl, rfl, h4, r4⟩ := trodAll_cons r3
  obtain ⟨v5, vs5, d5, ds5, p5, q5, rfl, rfl, rfl, h5, r5⟩ := trodAll_cons r4
  obtain ⟨v6, vs6, d6, ds6, p6, q6, rfl, rfl, rfl, h6, r6⟩ := trodAll_cons r5
  obtain ⟨v7, vs7, d7, ds7, p7, q7, rfl, rfl, rfl, h7, r7⟩ := trodAll_cons r6
  obtain ⟨rfl, rfl, rfl⟩ := trodAll_nil r7
  obtain rfl : args = #[v0, v1, v2, v3, v4, v5, v6, v7] := by cases args; simp_all
  obtain ⟨rfl, rfl⟩ := trodVars_none hV
  obtain ⟨a0, rfl, rfl, rfl, w0⟩ := open_int Try.underlying3 (hval 0 3 v0 rfl rfl) h0
  obtain ⟨a1, rfl, rfl, rfl, w1⟩ := open_int Try.underlying3 (hval 1 3 v1 rfl rfl) h1
  obtain ⟨a2, rfl, rfl, rfl⟩ := open_bool Try.underlying4 (hval 2 4 v2 rfl rfl) h2
  obtain ⟨a3, rfl, rfl, rfl, w3⟩ := open_int Try.underlying3 (hval 3 3 v3 rfl rfl) h3
  obtain ⟨a4, rfl, rfl, rfl, w4⟩ := open_int Try.underlying3 (hval 4 3 v4 rfl rfl) h4
  obtain ⟨a5, rfl, rfl, rfl⟩ := open_bool Try.underlying4 (hval 5 4 v5 rfl rfl) h5
  obtain ⟨a6, rfl, rfl, rfl, w6⟩ := open_int Try.underlying3 (hval 6 3 v6 rfl rfl) h6
  obtain ⟨a7, rfl, rfl, rfl, w7⟩ := open_int Try.underlying3 (hval 7 3 v7 rfl rfl) h7
  clear hA0 hval0
  simp only [List.append_nil] at hW'
  refine (walk a0 a1 a2 a3 a4 a5 a6 a7 W).mono fun e W' ⟨he, bel⟩ => ?_
  subst he
  exact ⟨_, rfl, _, _, _, [], [], [], hW', trodAll_mk1 (shut_bool Try.underlying4 _), (trodAll_cons_mk (shut_int Try.underlying3 w0) (trodAll_cons_mk (shut_int Try.underlying3 w1) (trodAll_cons_mk (shut_bool Try.underlying4 _) (trodAll_cons_mk (shut_int Try.underlying3 w3) (trodAll_cons_mk (shut_int Try.underlying3 w4) (trodAll_cons_mk (shut_bool Try.underlying4 _) (trodAll_cons_mk (shut_int Try.underlying3 w6) (trodAll_cons_mk (shut_int Try.underlying3 w7) trodAll_mk0)))))))), rfl, bel.frame _, fun h => by cases h⟩

theorem over : Rows.fnAnalyzeBlockingBoundsRow.holds Try.pinned (OpenSpec.ofChange Rows.fnAnalyzeBlockingBoundsSpec) :=
  OpenClaim.holds_of_wide 7 Try.f7 rfl rfl rfl rfl rfl rfl rfl ⟨rfl, rfl, rfl, rfl, rfl⟩ rfl rfl rfl rfl rfl (by kernel_rfl) Try.func7 (by kernel_rfl)
    (of_decide_eq_true (by kernel_rfl)) (by unfold Func.isWrapper; first | (rw [if_pos (by decide +kernel)]; kernel_rfl) | (rw [if_neg (by decide +kernel)]; exact ⟨rfl, rfl⟩))
    (fun os started H enc _ => lifted os started H enc)

/-- ████ THE STATEMENT ████ -/
theorem proved : Rows.FnAnalyzeBlockingBoundsSaid :=
  over
#print axioms proved
end Go.Proofs.Qxb6600769a.fnAnalyzeBlockingBounds
