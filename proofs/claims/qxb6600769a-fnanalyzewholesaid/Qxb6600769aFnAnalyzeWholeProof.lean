/- The statement Rows.FnAnalyzeWholeSaid, proved. The frame is the guide's shell at this function; the walk is our own. -/
import Derived.Test.Qxb6600769aRows
import Derived.Test.Qxb6600769aWhole
import Derived.WalkKit
import Derived.ProofKit
import Derived.OpenShut
import Derived.ShutString
namespace Go.Proofs.Qxb6600769a.fnAnalyzeWhole
open Go.ChangeShapes Go.WideShapes Go.ChangeAt Go.RowKit
open Go.ChangeMaps (open_string shut_string)
set_option linter.unusedVariables false      -- a walk need not use every 'w<i>' (that an integer argument fits its kind)

theorem own : ownKnob Try.prog.godebug = none := by kernel_rfl

set_option maxHeartbeats 4000000 in
theorem walk (a0 : Int) (a1 : Int) (a2 : Int) (a3 : Bool) (a4 : Int) (a5 : Int) (a6 : Bool) (a7 : Int) (a8 : Int) (w : World) :
    Calls Try.prog 6 #[.int .u8 a0, .int .i64 a1, .int .i64 a2, .bool a3, .int .i64 a4, .int .i64 a5, .bool a6, .int .i64 a7, .int .i64 a8] w fun e w' => e = .returned (.bool true) ∧ Below w.heap.size w w' := by
  by_cases h0 : a0 = 0
  · subst h0
    exact whole_zero a1 a2 a3 a4 a5 a6 a7 a8 w
  have hs : (a0 == 0) = false := by simp [h0]
  have hss : (a0 == a0) = true := by simp
  clear h0
  cases hd : designOK 65536 a1 a2 a3 a4 a5 a6 a7 a8
  · go_enter Try.func6, Try.ntmps6
    go_wp2_with (first | (go_at_call 10; refine (designOK_any _ _ _ _ _ _ _ _ _ (by omega) (by omega) _).mono ?_; rintro e w1 ⟨rfl, hw1⟩; subst w1))
    go_ret
    exact ⟨rfl, Below.refl _ _⟩
  · have hF := fits_of hd
    have hC := fun w => analyze_any a0 a1 a2 a3 a4 a5 a6 a7 a8 w hs
    rw [isect_eq (lim := 65536) (by omega) hF, bbOf_eq a3 a4 a5 (by omega) hF hF.a1 hF.a2 hF.a3 hF.a4, bbOf_eq a6 a7 a8 (by omega) hF hF.e1 hF.e2 hF.e3 hF.e4] at hC
    obtain ⟨o1, o2, o3, o4⟩ := oneRule _ _ _ _ hF.a1 hF.a2 hF.a3 hF.a4
    obtain ⟨u1, u2, u3, u4⟩ := oneRule _ _ _ _ hF.e1 hF.e2 hF.e3 hF.e4
    rw [cs_prod] at o2 o4 u2 u4
    have hrc := hF.rc
    have e1 : nodesOf a1 a2 = a1 * a2 := w64 (by omega) (by omega)
    have e2 : wrap64 (a4 * a5) = a4 * a5 := w64 (by omega) (by omega)
    have e3 : wrap64 (a7 * a8) = a7 * a8 := w64 (by omega) (by omega)
    rw [e1, e2, e3] at hC
    have hN0 : 0 ≤ a1 * a2 := by omega
    have hD := fun w => disjoint_any a1 a2 a3 a4 a5 a6 a7 a8 w hF
    have hS1 := fun w => small_any a1 a2 a3 a4 a5 w hF.r1 hF.c1 hF.rl hF.cl hF.rc hF.a1 hF.a2 hF.a3 hF.a4
    have hS2 := fun w => small_any a1 a2 a6 a7 a8 w hF.r1 hF.c1 hF.rl hF.cl hF.rc hF.e1 hF.e2 hF.e3 hF.e4
    have hB1 := fun w => block_any a1 a2 a3 a4 a5 w hF.r1 hF.c1 hF.rl hF.cl hF.rc hF.a1 hF.a2 hF.a3 hF.a4
    have hB2 := fun w => block_any a1 a2 a6 a7 a8 w hF.r1 hF.c1 hF.rl hF.cl hF.rc hF.e1 hF.e2 hF.e3 hF.e4
    have g1 := hF.r1; have g2 := hF.c1; have g3 := hF.rl; have g4 := hF.cl
    clear e1 e2 e3 hF o1 o2 o3 o4 u1 u2 u3 u4
    generalize bbP a1 a2 a3 a4 a5 = k1 at *
    generalize bbP a1 a2 a6 a7 a8 = k2 at *
    generalize isectP a1 a2 a3 a4 a5 a6 a7 a8 = I at *
    generalize a4 * a5 = q1 at *
    generalize a7 * a8 = q2 at *
    have HC := hide hC
    have HD := hide hD
    have HS1 := hide hS1
    have HS2 := hide hS2
    have HB1 := hide hB1
    have HB2 := hide hB2
    clear hC hD hS1 hS2 hB1 hB2
    have x1 : (q1 == q1) = true := by simp
    have x2 : (q2 == q2) = true := by simp
    have x3 : (k1 == k1) = true := by simp
    have x4 : (k2 == k2) = true := by simp
    have x5 : (I == !!I) = true := by cases I <;> rfl
    go_enter Try.func6, Try.ntmps6
    go_wp2_with (first
      | (go_at_call 10; refine (designOK_any _ _ _ _ _ _ _ _ _ (by omega) (by omega) _).mono ?_; rintro e w1 ⟨rfl, hw1⟩; subst w1)
      | (go_at_call 11; refine (zzdesign_any _ _ _ _ _ _ _ _ _ _).mono ?_; rintro e wa ⟨rfl, hb1⟩)
      | (go_at_call 15; refine (HC.out _).mono ?_; rintro e wb ⟨rfl, hb2⟩))
    have hwr : IntKind.i64.wrap (a1 * a2) = a1 * a2 := by rw [wrapEq]; exact w64 (by omega) (by omega)
    have x0 : (a1 * a2 == a1 * a2) = true := by simp
    simp only [List.append]
    go_region_held3 (fun w' => w'.cell? ⟨wb.heap.size, 0, none⟩ = some (.int .u8 a0) ∧ w'.cell? ⟨wb.heap.size, 1, none⟩ = some (.int .i64 (a1 * a2)) ∧ w'.cell? ⟨wb.heap.size, 2, none⟩ = some (.int .i64 q1) ∧
        w'.cell? ⟨wb.heap.size, 3, none⟩ = some (.int .i64 q2) ∧ w'.cell? ⟨wb.heap.size, 4, none⟩ = some (.bool I) ∧ w'.cell? ⟨wb.heap.size, 5, none⟩ = some (.int .i64 k1) ∧ w'.cell? ⟨wb.heap.size, 6, none⟩ = some (.int .i64 k2))
      (first | (have hk := fun o => hc wb.heap.size o (by first | omega | (simp; omega) | simp); simp only [hk]; assumption) | go_keep)
      (first
        | (go_at_call_of 16 (Value.int .i64 a4); refine (HS1.out _).mono ?_; rintro e w' ⟨rfl, hb3⟩; obtain ⟨hc, hf⟩ := bcell hb3; have hz : wb.heap.size < w'.heap.size := by (have := hb3.size; first | omega | (simp at this; omega)))
        | (go_at_call_of 16 (Value.int .i64 a7); refine (HS2.out _).mono ?_; rintro e w' ⟨rfl, hb4⟩; obtain ⟨hc, hf⟩ := bcell hb4; have hz : wb.heap.size < w'.heap.size := by (have := hb4.size; first | omega | (simp at this; omega)))
        | (go_at_call 13; refine (HD.out _).mono ?_; rintro e w' ⟨rfl, hb5⟩; obtain ⟨hc, hf⟩ := bcell hb5; have hz : wb.heap.size < w'.heap.size := by (have := hb5.size; first | omega | (simp at this; omega)))
        | (go_at_call_of 17 (Value.int .i64 a4); refine (HB1.out _).mono ?_; rintro e w' ⟨rfl, hb6⟩; obtain ⟨hc, hf⟩ := bcell hb6; have hz : wb.heap.size < w'.heap.size := by (have := hb6.size; first | omega | (simp at this; omega)))
        | (go_at_call_of 17 (Value.int .i64 a7); refine (HB2.out _).mono ?_; rintro e w' ⟨rfl, hb7⟩; obtain ⟨hc, hf⟩ := bcell hb7; have hz : wb.heap.size < w'.heap.size := by (have := hb7.size; first | omega | (simp at this; omega))))
    have hz0 : wa.heap.size ≤ wb.heap.size := hb2.size
    have hbA : Below w.heap.size w (wb.alloc (.cells #[.int .u8 a0, .int .i64 (a1 * a2), .int .i64 q1, .int .i64 q2, .bool I, .int .i64 k1, .int .i64 k2] 34)).drew := ((below_call hb2 hb1 hb1.size).alloc (Nat.le_trans hb1.size hz0) _).drew
    have hs1 := hb1.size
    have hbel := below_call hb7 (below_call hb6 (below_call hb5 (below_call hb4 (below_call hb3 hbA (by simp; omega)) (by omega)) (by omega)) (by omega)) (by omega)
    clear hbA
    go_wp2
    go_ret
    exact ⟨rfl, hbel⟩

/-! ### THE ROW's STEP: WRITTEN OUT: LEAVE IT -/
set_option maxRecDepth 100000 in
theorem lifted (os : Os) (started : os.Started) (H : Type) (enc : TypeId × Value → H) :
    ReturnsInHanded {} Try.checked os 6 .any (Rows.fnAnalyzeWholeSpec.pre6 enc Try.prog Try.f6 Rows.fnAnalyzeWholeRow.domain false) (Rows.fnAnalyzeWholeSpec.post enc Try.prog Try.f6 false true false false) := by
  refine returnsInHanded_of_change (C := Try.checked) own started (by kernel_rfl) Try.func6
    (ChangeSpec.witness6 (enc := enc) (C := Try.checked) false ⟨#[], #[.int .u8 0, .int .i64 0, .int .i64 0, .bool false, .int .i64 0, .int .i64 0, .bool false, .int .i64 0, .int .i64 0], []⟩ 8 (by kernel_rfl) (by kernel_rfl) (by kernel_rfl) (by kernel_rfl)) ?_
  intro W base args ds gs before hval0 hW hcnd _
  have hval : ∀ (j : Nat) t v, Try.f6.params[j]? = some t → args[j]? = some v → Value.okWide Try.prog W .any base t v := hval0
  have hW' := hW
  obtain ⟨p, q, hA0, hV, rfl, hfz, hnd⟩ := hW
  have hA : DataW.TrodAll enc Try.prog W 0 (fun _ => true) true Try.f6.params.toList args.toList ds p := hA0
  rw [Try.params6] at hA hval
  obtain ⟨v0, vs0, d0, ds0, p0, q0, hargs, rfl, rfl, h0, r0⟩ := trodAll_cons hA
  obtain ⟨v1, vs1, d1, ds1, p1, q1, rfl, rfl, rfl, h1, r1⟩ := trodAll_cons r0
  obtain ⟨v2, vs2, d2, ds2, p2, q2, rfl, rfl, rfl, h2, r2⟩ := trodAll_cons r1
  obtain ⟨v3, vs3, d3, ds3, p3, q3, rfl, rfl, rfl, h3, r3⟩ := trodAll_cons r2
  obtain ⟨v4, vs4, d4, ds4, p4, q4, rfl, rfl, rfl, h4, r4⟩ := trodAll_cons r3
  obtain ⟨v5, vs5, d5, ds5, p5, q5, rfl, rfl, rfl, h5, r5⟩ := trodAll_cons r4
  obtain ⟨v6, vs6, d6, ds6, p6, q6, rfl, rfl, rfl, h6, r6⟩ := trodAll_cons r5
  obtain ⟨v7, vs7, d7, ds7, p7, q7, rfl, rfl, rfl, h7, r7⟩ := trodAll_cons r6
  obtain ⟨v8, vs8, d8, ds8, p8, q8, rfl, rfl, rfl, h8, r8⟩ := trodAll_cons r7
  obtain ⟨rfl, rfl, rfl⟩ := trodAll_nil r8
  obtain rfl : args = #[v0, v1, v2, v3, v4, v5, v6, v7, v8] := by cases args; simp_all
  obtain ⟨rfl, rfl⟩ := trodVars_none hV
  obtain ⟨a0, rfl, rfl, rfl, w0⟩ := open_int Try.underlying5 (hval 0 5 v0 rfl rfl) h0
  obtain ⟨a1, rfl, rfl, rfl, w1⟩ := open_int Try.underlying3 (hval 1 3 v1 rfl rfl) h1
  obtain ⟨a2, rfl, rfl, rfl, w2⟩ := open_int Try.underlying3 (hval 2 3 v2 rfl rfl) h2
  obtain ⟨a3, rfl, rfl, rfl⟩ := open_bool Try.underlying4 (hval 3 4 v3 rfl rfl) h3
  obtain ⟨a4, rfl, rfl, rfl, w4⟩ := open_int Try.underlying3 (hval 4 3 v4 rfl rfl) h4
  obtain ⟨a5, rfl, rfl, rfl, w5⟩ := open_int Try.underlying3 (hval 5 3 v5 rfl rfl) h5
  obtain ⟨a6, rfl, rfl, rfl⟩ := open_bool Try.underlying4 (hval 6 4 v6 rfl rfl) h6
  obtain ⟨a7, rfl, rfl, rfl, w7⟩ := open_int Try.underlying3 (hval 7 3 v7 rfl rfl) h7
  obtain ⟨a8, rfl, rfl, rfl, w8⟩ := open_int Try.underlying3 (hval 8 3 v8 rfl rfl) h8
  clear hA0 hval0
  simp only [List.append_nil] at hW'
  refine (walk a0 a1 a2 a3 a4 a5 a6 a7 a8 W).mono fun e W' ⟨he, bel⟩ => ?_
  subst he
  exact ⟨_, rfl, _, _, _, [], [], [], hW', trodAll_mk1 (shut_bool Try.underlying4 _), (trodAll_cons_mk (shut_int Try.underlying5 w0) (trodAll_cons_mk (shut_int Try.underlying3 w1) (trodAll_cons_mk (shut_int Try.underlying3 w2) (trodAll_cons_mk (shut_bool Try.underlying4 _) (trodAll_cons_mk (shut_int Try.underlying3 w4) (trodAll_cons_mk (shut_int Try.underlying3 w5) (trodAll_cons_mk (shut_bool Try.underlying4 _) (trodAll_cons_mk (shut_int Try.underlying3 w7) (trodAll_cons_mk (shut_int Try.underlying3 w8) trodAll_mk0))))))))), rfl, bel.frame _, fun h => by cases h⟩

theorem over : Rows.fnAnalyzeWholeRow.holds Try.pinned (OpenSpec.ofChange Rows.fnAnalyzeWholeSpec) :=
  OpenClaim.holds_of_wide 6 Try.f6 rfl rfl rfl rfl rfl rfl rfl ⟨rfl, rfl, rfl, rfl, rfl⟩ rfl rfl rfl rfl rfl (by kernel_rfl) Try.func6 (by kernel_rfl)
    (of_decide_eq_true (by kernel_rfl)) (by unfold Func.isWrapper; first | (rw [if_pos (by decide +kernel)]; kernel_rfl) | (rw [if_neg (by decide +kernel)]; exact ⟨rfl, rfl⟩))
    (fun os started H enc _ => lifted os started H enc)

/-- ████ THE STATEMENT ████ -/
theorem proved : Rows.FnAnalyzeWholeSaid :=
  over
#print axioms proved
end Go.Proofs.Qxb6600769a.fnAnalyzeWhole
