/- The statement Rows.FnIntersectExactlyWhenNoDisjointQuorumsSaid, proved. The frame is the guide's shell at this function; the walk is our own. -/
import Derived.Test.Qxb6600769aRows
import Derived.Test.Qxb6600769aPair
import Derived.WalkKit
import Derived.ProofKit
import Derived.OpenShut
import Derived.ShutString
namespace Go.Proofs.Qxb6600769a.fnIntersectExactlyWhenNoDisjointQuorums
open Go.ChangeShapes Go.WideShapes Go.ChangeAt Go.RowKit
open Go.ChangeMaps (open_string shut_string)
set_option linter.unusedVariables false      -- a walk need not use every 'w<i>' (that an integer argument fits its kind)

theorem own : ownKnob Try.prog.godebug = none := by kernel_rfl

set_option maxHeartbeats 2000000 in
theorem walk (a0 : Int) (a1 : Int) (a2 : Bool) (a3 : Int) (a4 : Int) (a5 : Bool) (a6 : Int) (a7 : Int) (w : World) :
    Calls Try.prog 3 #[.int .i64 a0, .int .i64 a1, .bool a2, .int .i64 a3, .int .i64 a4, .bool a5, .int .i64 a6, .int .i64 a7] w fun e w' => e = .returned (.bool true) ∧ Below w.heap.size w w' := by
  cases hd : designOK 65536 a0 a1 a2 a3 a4 a5 a6 a7
  · go_enter Try.func3, Try.ntmps3
    go_wp2_with (first | (go_at_call 10; refine (designOK_any _ _ _ _ _ _ _ _ _ (by omega) (by omega) _).mono ?_; rintro e w' ⟨rfl, rfl⟩))
    go_ret
    exact ⟨rfl, Below.refl _ _⟩
  · have hF := fits_of hd
    have hC := fun w => zzintersect_any 1 a0 a1 a2 a3 a4 a5 a6 a7 w
    have hD := fun w => disjoint_any a0 a1 a2 a3 a4 a5 a6 a7 w hF
    rw [isect_eq (lim := 65536) (by omega) hF] at hC
    generalize isectP a0 a1 a2 a3 a4 a5 a6 a7 = I at *
    have HC := hide hC
    have HD := hide hD
    clear hC hD hF
    go_enter Try.func3, Try.ntmps3
    go_wp2_with (first
      | (go_at_call 10; refine (designOK_any _ _ _ _ _ _ _ _ _ (by omega) (by omega) _).mono ?_; rintro e w' ⟨rfl, rfl⟩)
      | (go_at_call 11; refine (zzdesign_any _ _ _ _ _ _ _ _ _ _).mono ?_; rintro e w' ⟨rfl, hb1⟩)
      | (go_at_call 12; refine (HC.out _).mono ?_; rintro e w' ⟨rfl, hb2⟩)
      | (go_at_call 13; refine (HD.out _).mono ?_; rintro e w' ⟨rfl, hb3⟩))
    go_ret
    refine ⟨by cases I <;> rfl, ?_⟩
    have s1 := hb1.size
    have s2 := hb2.size
    have s3 := hb3.size
    simp at s2
    exact below_call hb3 (below_call hb2 (hb1.alloc s1 _) (by simp; omega)) (by omega)

/-! ### THE ROW's STEP: WRITTEN OUT: LEAVE IT -/
set_option maxRecDepth 100000 in
theorem lifted (os : Os) (started : os.Started) (H : Type) (enc : TypeId × Value → H) :
    ReturnsInHanded {} Try.checked os 3 .any (Rows.fnIntersectExactlyWhenNoDisjointQuorumsSpec.pre6 enc Try.prog Try.f3 Rows.fnIntersectExactlyWhenNoDisjointQuorumsRow.domain false) (Rows.fnIntersectExactlyWhenNoDisjointQuorumsSpec.post enc Try.prog Try.f3 false true false false) := by
  refine returnsInHanded_of_change (C := Try.checked) own started (by kernel_rfl) Try.func3
    (ChangeSpec.witness6 (enc := enc) (C := Try.checked) false ⟨#[], #[.int .i64 0, .int .i64 0, .bool false, .int .i64 0, .int .i64 0, .bool false, .int .i64 0, .int .i64 0], []⟩ 8 (by kernel_rfl) (by kernel_rfl) (by kernel_rfl) (by kernel_rfl)) ?_
  intro W base args ds gs before hval0 hW hcnd _
  have hval : ∀ (j : Nat) t v, Try.f3.params[j]? = some t → args[j]? = some v → Value.okWide Try.prog W .any base t v := hval0
  have hW' := hW
  obtain ⟨p, q, hA0, hV, rfl, hfz, hnd⟩ := hW
  have hA : DataW.TrodAll enc Try.prog W 0 (fun _ => true) true Try.f3.params.toList args.toList ds p := hA0
  rw [Try.params3] at hA hval
  obtain ⟨v0, vs0, d0, ds0, p0, q0, hargs, rfl, rfl, h0, r0⟩ := trodAll_cons hA
  obtain ⟨v1, vs1, d1, ds1, p1, q1, rfl, rfl, rfl, h1, r1⟩ := trodAll_cons r0
  obtain ⟨v2, vs2, d2, ds2, p2, q2, rfl, rfl, rfl, h2, r2⟩ := trodAll_cons r1
  obtain ⟨v3, vs3, d3, ds3, p3, q3, rfl, rfl, rfl, h3, r3⟩ := trodAll_cons r2
  obtain ⟨v4, vs4, d4, ds4, p4, q4, rfl, rfl, rfl, h4, r4⟩ := trodAll_cons r3
  obtain ⟨v5, vs5, d5, ds5, p5, q5, rfl, rfl, rfl, h5, r5⟩ := trodAll_cons r4
  obtain ⟨v6, vs6, d6, ds6, p6, q6, rfl, rfl, rfl, h6, r6⟩ := trodAll_cons r5
  obtain ⟨v7, vs7, d7, ds7, p7, q7, rfl, rfl, rfl, h7, r7⟩ := trodAll_cons r6
  obtain ⟨rfl, rfl, rfl⟩ := trodAll_nil r7
  obtain rfl : args = #[v0, v1, v2, v3, v4, v5, v6, v7] := by cases args; simp_all
  obtain ⟨rfl, rfl⟩ := trodVars_none hV
  obtain ⟨a0, rfl, rfl, rfl, w0⟩ := open_int Try.underlying3 (hval 0 3 v0 rfl rfl) h0
  obtain ⟨a1, rfl, rfl, rfl, w1⟩ := open_int Try.underlying3 (hval 1 3 v1 rfl rfl) h1
  obtain ⟨a2, rfl, rfl, rfl⟩ := open_bool Try.underlying4 (hval 2 4 v2 rfl rfl) h2
  obtain ⟨a3, rfl, rfl, rfl, w3⟩ := open_int Try.underlying3 (hval 3 3 v3 rfl rfl) h3
  obtain ⟨a4, rfl, rfl, rfl, w4⟩ := open_int Try.underlying3 (hval 4 3 v4 rfl rfl) h4
  obtain ⟨a5, rfl, rfl, rfl⟩ := open_bool Try.underlying4 (hval 5 4 v5 rfl rfl) h5
  obtain ⟨a6, rfl, rfl, rfl, w6⟩ := open_int Try.underlying3 (hval 6 3 v6 rfl rfl) h6
  obtain ⟨a7, rfl, rfl, rfl, w7⟩ := open_int Try.underlying3 (hval 7 3 v7 rfl rfl) h7
  clear hA0 hval0
  simp only [List.append_nil] at hW'
  refine (walk a0 a1 a2 a3 a4 a5 a6 a7 W).mono fun e W' ⟨he, bel⟩ => ?_
  subst he
  exact ⟨_, rfl, _, _, _, [], [], [], hW', trodAll_mk1 (shut_bool Try.underlying4 _), (trodAll_cons_mk (shut_int Try.underlying3 w0) (trodAll_cons_mk (shut_int Try.underlying3 w1) (trodAll_cons_mk (shut_bool Try.underlying4 _) (trodAll_cons_mk (shut_int Try.underlying3 w3) (trodAll_cons_mk (shut_int Try.underlying3 w4) (trodAll_cons_mk (shut_bool Try.underlying4 _) (trodAll_cons_mk (shut_int Try.underlying3 w6) (trodAll_cons_mk (shut_int Try.underlying3 w7) trodAll_mk0)))))))), rfl, bel.frame _, fun h => by cases h⟩

theorem over : Rows.fnIntersectExactlyWhenNoDisjointQuorumsRow.holds Try.pinned (OpenSpec.ofChange Rows.fnIntersectExactlyWhenNoDisjointQuorumsSpec) :=
  OpenClaim.holds_of_wide 3 Try.f3 rfl rfl rfl rfl rfl rfl rfl ⟨rfl, rfl, rfl, rfl, rfl⟩ rfl rfl rfl rfl rfl (by kernel_rfl) Try.func3 (by kernel_rfl)
    (of_decide_eq_true (by kernel_rfl)) (by unfold Func.isWrapper; first | (rw [if_pos (by decide +kernel)]; kernel_rfl) | (rw [if_neg (by decide +kernel)]; exact ⟨rfl, rfl⟩))
    (fun os started H enc _ => lifted os started H enc)

/-- ████ THE STATEMENT ████ -/
theorem proved : Rows.FnIntersectExactlyWhenNoDisjointQuorumsSaid :=
  over
#print axioms proved
end Go.Proofs.Qxb6600769a.fnIntersectExactlyWhenNoDisjointQuorums
