import Derived.Test.Qxb6600769aFin
import Derived.Deep.RegionWith
namespace Go.Proofs.Qxb6600769a.Ses
open Go.RowKit Go.Maps
set_option linter.unusedVariables false

def TrueOut8 (w : World) (e : Ending) (w' : World) : Prop := e = .returned (.bool true) ∧ Below w.heap.size w w'

/-- One step, in a box of its own. -/
abbrev stCells (p : Bool) (s v : Int) (A : Option Addr) (L C : Nat) : Obj := .cells #[.bool p, .int .u64 s, .int .u64 v, .slice A L C] 48

/-- What stands at the head of a round. -/
structure Head (W : World) (tb i : Nat) (v : Value) (wr : World) : Prop where
  ex : ∃ (N : Nat) (T : DataW Value) (S : Int → Option Sess) (oa : Option Addr) (n c : Nat) (M : Nat → Mod), v = .slice oa n c ∧ N ≤ 2 * i ∧ n ≤ i ∧ Inv wr tb N T S ∧ ModInv wr tb (.slice oa n c) n M ∧ Link W S n i M ∧ Below tb W wr

theorem box_kept {w w' : World} {tb N : Nat} {T : DataW Value} {S : Int → Option Sess} {cs : Array Value} {o : Obj} (h : Inv ((w.alloc (.cells cs 48)).alloc o) tb N T S) (hK : Keep (Own tb S) ((w.alloc (.cells cs 48)).alloc o) w') : w'.heap[w.heap.size]? = some (.cells cs 48 (0, 0)) := by
  have h1 : ((w.alloc (.cells cs 48)).alloc o).heap[w.heap.size]? = some (.cells cs 48 (0, 0)) := (Below.heap_alloc _ _ _ (by simp)).trans (heap_new _ _)
  exact (hK.block _ (lt_of_blk h1) (h.not_own h1 (by decide))).trans h1
theorem Below.settled {w2 wr w' : World} {tb N : Nat} {T : DataW Value} {S : Int → Option Sess} {o o' : Obj} (hB : Below tb w2 wr) (htb : tb ≤ wr.heap.size) (h : Inv ((wr.alloc o).alloc o') tb N T S) (hK : Keep (Own tb S) ((wr.alloc o).alloc o') w') : Below tb w2 w' :=
  ((hB.alloc htb o).alloc (by simp; omega) o').trans (hK.below (by simp; omega) (fun i hi => h.ge hi))

set_option maxRecDepth 100000 in
set_option maxHeartbeats 2000000 in
theorem main8 (w : World) (n c : Nat) (oa : Option Addr) (pu : Nat → Bool) (se va : Nat → Int) (A : Nat → Option Addr) (L C : Nat → Nat) (ha : ArgSteps w oa n c pu se va A L C)
    (hU : ∀ i, i < n → U64 (se i) ∧ U64 (va i)) (hn : n ≤ maxLen) (hL : ∀ i, i < n → L i ≤ maxLen) :
    Calls Try.prog 8 #[.slice oa n c] w (TrueOut8 w) := by
  obtain ⟨b, o, hoa, hS⟩ := ha.in
  have c18 := bytes8 w b o n c oa pu se va A L C hoa hS hn hL
  have c19 := stepsFit w b o n c oa pu se va A L C hoa hS hL
  have Ha := hide ha
  have HU := hide hU
  clear ha hoa hS hU
  go_enter Try.func8, Try.ntmps8
  go_wp2_with fail
  refine c18.mono ?_
  rintro e w1 ⟨r, rfl, _, rfl⟩
  cases r
  · go_wp2
    go_ret
    exact ⟨rfl, Below.refl _ _⟩
  go_wp2_with fail
  refine c19.mono ?_
  rintro e w1 ⟨r, rfl, hr, rfl⟩
  cases r
  · go_wp2
    go_ret
    exact ⟨rfl, Below.refl _ _⟩
  obtain ⟨hn4, hL4⟩ := hr rfl
  clear c18 c19 hr
  go_wp2_with fail
  refine (cloneStepsB w1 n c oa pu se va A L C Ha.out hn4 hL4).mono ?_
  rintro e w2 ⟨oa', A', rfl, hoa', hS', hF', hB'⟩
  go_wp2_with fail
  refine (newSessions w2).mono ?_
  rintro e w3 ⟨rfl, rfl, hI0⟩
  have hcells := cells48
  have hcells57 := cells57
  have HI0 := hide hI0
  have HB' := hide hB'
  have Hoa' := hide hoa'
  have hob : ∀ i, i < n → ∀ W, Below w2.heap.size w2 W → oa' = some ⟨w1.heap.size, 0, none⟩ ∧ StepsIn W w1.heap.size 0 n pu se va A' L L := fun i hi W hW => ⟨(hoa' (by omega)).1, hS'.of_block (hW.block _ (hoa' (by omega)).2)⟩
  have Hob := hide hob
  have hdat : ∀ i, i < n → DataOK w2 (.slice (A' i) (L i) (L i)) := fun i hi => ⟨A' i, L i, rfl, (hF' i hi).in, hL4 i hi⟩
  have Hdat := hide hdat
  clear hob hdat hI0 hS' hB' hF' hoa' hL4 hL Ha
  go_wp2_with fail
  go_loopw [4, 5] (fun v j wr => ∃ (i : Nat), j = Value.int .i64 (i : Int) ∧ i ≤ n ∧ Head w2 w2.heap.size i v wr) (fun _ j _ => n - (intOf j).toNat)
  case atStart => exact ⟨0, rfl, by omega, ⟨0, _, _, none, 0, 0, fun _ => ⟨0, 0, 0, none, 0, none, 0, 0, []⟩, rfl, by omega, by omega, HI0.out, ⟨.inl ⟨rfl, rfl⟩, fun i hi => by omega, fun i j hi => by omega⟩, ⟨fun i hi => by omega, fun k s h => (by cases h), fun i j hi => by omega, fun i hi => by omega, fun i hi => by omega⟩, (Below.refl _ _).alloc (Nat.le_refl _) _⟩⟩
  case round =>
    obtain ⟨i, rfl, hi, ⟨N, T, S, ob, k, cb, M, rfl, hN, hk, hI, hM, hLk, hB⟩⟩ := hrel
    obtain ⟨wo, hwo⟩ : ∃ wo, wo = wr := ⟨wr, rfl⟩
    subst hwo
    by_cases hin : (i : Int) < n
    · obtain ⟨rfl, hSt⟩ := Hob.out i (by omega) wo hB
      have s0 := hSt.c0 i (by omega)
      have s1 := hSt.c1 i (by omega)
      have s2 := hSt.c2 i (by omega)
      have s3 := hSt.c3 i (by omega)
      simp only [Nat.zero_add] at s0 s1 s2 s3
      obtain ⟨hse, hva⟩ := HU.out i (by omega)
      have HI := hide hI
      have HM := hide hM
      have HL := hide hLk
      have HB := hide hB
      have hfine : Hid (∀ s, S (se i) = some s → 0 ≤ s.mark ∧ s.swept ≤ N + 1 ∧ ∀ K, Agree K s.res → Maps.size s.res = K.length) := fun s hs => ⟨(hI.sess _ s hs).2.2.1.nonneg, Nat.le_succ_of_le (hI.sess _ s hs).2.2.2, fun K hK => hK.size (hI.sess _ s hs).2.1⟩
      clear hI hM hLk hB hSt
      cases hpu : pu i
      · rw [hpu] at s0
        go_wp2_with fail
        have hIa := (HI.out.alloc (stCells false (se i) (va i) (A' i) (L i) (L i))).alloc (cmdCells (se i) (va i))
        have HIa := hide hIa
        clear hIa
        refine (zsettle _ w2.heap.size N T S (se i) (va i) HIa.out hse hva (by omega)).mono ?_
        rintro e w4 ⟨s', T', rfl, hAf, hI4, hK4, hO4⟩
        have hM4 : ModInv w4 w2.heap.size (.slice ob k cb) k M := ((HM.out.alloc _).alloc _).settle HIa.out hK4
        have hB4 : Below w2.heap.size w2 w4 := Below.settled HB.out HB.out.size HIa.out hK4
        have hbx := box_kept HIa.out hK4
        have x0 := cell_of hbx 0
        have x1 := cell_of hbx 1
        have x2 := cell_of hbx 2
        have x3 := cell_of hbx 3
        obtain ⟨g, hg, h6⟩ := hM4.rowAt
        have c23 := find_any w4 ob g k cb (fun j => (M j).id) (se i) hg (fun j hj => (h6 j hj).c0) (by omega)
        have HI4 := hide hI4
        have HM4 := hide hM4
        have HB4 := hide hB4
        have Hbx := hide hbx
        have HAf := hide hAf
        have Hg := hide hg
        have H6 := hide h6
        have C23 := hide c23
        clear hI4 hM4 hB4 hbx hAf hK4 hO4 HIa hg h6 c23 HI HM HB s0 s1 s2 s3
        go_wp2_with fail
        refine C23.out.mono ?_
        rintro e w5 ⟨r, rfl, hw5, hr⟩
        subst w5
        clear C23
        rcases hr with ⟨rfl, hno⟩ | ⟨kk, hkk, rfl, hid⟩
        · have Hno := hide hno
          clear hno
          go_wp2_with fail
          go_loopw [10] (fun jj wq => ∃ (j : Nat), jj = Value.int .i64 (j : Int) ∧ j ≤ k ∧ wq = w4) (fun jj _ => k - (intOf jj).toNat)
          case atStart => exact ⟨0, rfl, by omega, rfl⟩
          case round =>
            obtain ⟨j, rfl, hj, hwr⟩ := hrel
            subst wr
            by_cases hjk : (j : Int) < k
            · obtain rfl := Hg.out (by omega)
              have y1 := (H6.out j (by omega)).c1
              obtain ⟨s1, hs1, hf1⟩ := HL.out.to j (by omega)
              have hne1 : (M j).id ≠ se i := Hno.out j (by omega)
              have hs1' : upd S (se i) s' (M j).id = some s1 := (upd_other hne1).trans hs1
              have hpe : (binOp .eql 51 (.pointer (some ⟨(M j).sb, 0, none⟩)) (.pointer (some ⟨s'.sb, 0, none⟩))).run Try.prog w4 = .ok (.bool false) w4 := ptr_eql_other (by rw [hf1.sb]; exact (HI4.out.apart _ _ _ _ hs1' (upd_same _ _ _) hne1).1) (by rw [hf1.sb]; exact (HI4.out.sess _ _ hs1').1) (HI4.out.sess _ _ (upd_same _ _ _)).1
              clear hs1 hf1 hne1 hs1'
              go_wp2
              go_roundw
              case rel => exact ⟨j + 1, by go_num, by omega, by first | trivial | rfl⟩
              case measure => simp [intOf]; omega
            · obtain rfl : k = j := by omega
              obtain ⟨i0, hi0, hz0, hz1, hz2⟩ := info_parts info57
              obtain ⟨xs, hown, hxl, hx6⟩ := HM4.out.owns
              have Hown := hide hown
              have Hx6 := hide hx6
              clear hown hx6
              go_wp2_with (first
                | (at_builtin; refine wpList_append_own_at _ rfl _ _ 44 rfl w2.heap.size 57 i0 (.agg #[.int .u64 0, .pointer none, .int .u64 0, .slice none 0 0, .slice none 0 0, .int .i64 0]) 6 80 Try.underlying44 hi0 hz0 hz1 hz2 rfl (by decide) _ _ _ rfl (Hown.out.alloc _) ⟨w4.heap.size, 0, none⟩ 1 1 (⟨se i, s'.sb, 0, none, 0, none, 0, 0, []⟩ : Mod).cells rfl rfl (cells_new w4 _ _) (by intro u hu; simp [Mod.cells] at hu; rcases hu with rfl | rfl | rfl | rfl | rfl | rfl <;> rfl) (by unfold maxLen; omega) (by omega) (by have := HB4.out.size; simp; omega) ?_; intro v5 w5 hown5 hgrow5 hnil5 hat5
                   obtain ⟨g5, c5, rfl⟩ := row_shape hown5
                   have hgr5 := (World.grownBy_alloc w4 (.cells #[.int .u64 (se i), .pointer (some ⟨s'.sb, 0, none⟩), .int .u64 0, .slice none 0 0, .slice none 0 0, .int .i64 0] 57) (Value.slice ob k cb).ownBlock).trans hgrow5
                   have hM5 := HM4.out.push hxl Hx6.out (se i) 0 s'.sb 0 hown5 hgr5
                   have hI5 := HI4.out.push HM4.out hgr5
                   have hB5 := HM4.out.push_below hgr5 HB4.out.size HB4.out
                   have hbx5 := HM4.out.push_box hgr5 Hbx.out
                   obtain ⟨s0, hRd, _⟩ := ready_new HL.out Hno.out HAf.out hva.nonneg hI5 hM5 hB5
                   clear x0 x1 x2 x3
                   have x0 := cell_of hbx5 0
                   have x1 := cell_of hbx5 1
                   have x2 := cell_of hbx5 2
                   have x3 := cell_of hbx5 3
                   have HRd := hide hRd
                   have Hbx5 := hide hbx5
                   obtain ⟨MM, hMM⟩ : ∃ MM, MM = setM M k ⟨se i, s'.sb, 0, none, 0, none, 0, 0, []⟩ := ⟨_, rfl⟩
                   rw [← hMM] at HRd
                   clear hMM hM5 hI5 hB5 hbx5 hRd hgr5 hown5 hgrow5 hnil5 hat5 Hown Hx6 hxl hi0 hz0 hz1 hz2 HM4 HI4 HB4 Hbx Hno HAf HL Hg H6 hfine))
              obtain ⟨cs, hgb, h6k, hbg⟩ := HRd.out.mods.get HRd.out.lt
              have y2 := (h6k.at hgb).c2
              have hfm := HRd.out.fit.mark
              clear hgb h6k hbg
              by_cases hgt : (MM k).mark < va i
              · have hgt' : decide ((MM k).mark < va i) = true := by simpa using hgt
                try go_wp2_with fail
                go_quiet (fail)
                refine gen_then (fun W => Ready w2 W w2.heap.size (N + 1) T' S (se i) (va i) s' (.slice (some ⟨g5, 0, none⟩) (k + 1) c5) (k + 1) i MM k s0 ∧ W.heap[wo.heap.size]? = some (stCells false (se i) (va i) (A' i) (L i) (L i))) ⟨HRd.out.drewN _, Hbx5.out⟩ ?_
                rintro W6 ⟨hRd6, hbx6⟩
                obtain ⟨cs, hgb, h6k, hbg⟩ := hRd6.mods.get hRd6.lt
                have hR6 := hRd6.mods.rows _ hRd6.lt
                have ho6 := mark_out hgb h6k hR6 (va i)
                have y2 := (h6k.at hgb).c2
                have f2 := free_of hgb (k * 6 + 2)
                have x2 := cell_of hbx6 2
                have HRd6 := hide hRd6
                have Ho6 := hide ho6
                have HI6 := hide (hRd6.inv.out hR6 ho6)
                have HM6 := hide (hRd6.mods.out hRd6.lt rfl ho6)
                have HB6 := hide (hRd6.below.trans (ho6.below hR6 hRd6.below.size hbg))
                clear hgb h6k hbg hR6 ho6 hRd6 hbx6 Hbx5 HRd x0 x1 x3
                go_wp2_with fail
                refine gen_wp (fun W => Inv W w2.heap.size (N + 1) T' (upd S (se i) s') ∧ ModInv W w2.heap.size (.slice (some ⟨g5, 0, none⟩) (k + 1) c5) (k + 1) (setM MM k { MM k with mark := va i }) ∧ Below w2.heap.size w2 W) ⟨HI6.out, HM6.out, HB6.out⟩ ?_
                rintro W7 ⟨hI7, hM7, hB7⟩
                obtain ⟨cs, hgb, h6k, hbg⟩ := hM7.get HRd6.out.lt
                rw [setM_same] at h6k
                have y3 := (h6k.at hgb).c3
                have y5 := (h6k.at hgb).c5
                simp only [Mod.iv] at y3
                have hlast := HRd6.out.last
                have hsmall := HRd6.out.link.small _ HRd6.out.lt
                have HI7 := hide hI7
                have HM7 := hide hM7
                have HB7 := hide hB7
                clear hgb h6k hbg hI7 hM7 hB7 HI6 HM6 HB6 Ho6 y2 f2 x2
                by_cases hsw : 2 * max ((MM k).last : Int) 64 ≤ ((MM k).K.length : Int)
                · go_quiet ((go_at_call 26; exact Calls.quiet_of_same (maxInt _ _ _)))
                  refine gen_then (fun W => Inv W w2.heap.size (N + 1) T' (upd S (se i) s') ∧ ModInv W w2.heap.size (.slice (some ⟨g5, 0, none⟩) (k + 1) c5) (k + 1) (setM MM k { MM k with mark := va i }) ∧ Below w2.heap.size w2 W) ⟨HI7.out.drewN _, HM7.out.drewN _, below_drewN HB7.out _⟩ ?_
                  rintro W8 ⟨hI8, hM8, hB8⟩
                  obtain ⟨cs, hgb, h6k, hbg⟩ := hM8.get HRd6.out.lt
                  have hR8 := hM8.rows _ HRd6.out.lt
                  rw [setM_same] at h6k hR8
                  have c27 := sweep_model W8 g5 (k * 6) w2.heap.size { MM k with mark := va i } cs hgb h6k hR8 (by show (MM k).K.length ≤ _; omega) hB8.size (fun p hp => by obtain ⟨A1, L1, e1, _⟩ := HRd6.out.link.bytes _ HRd6.out.lt p hp; exact ⟨A1, L1, L1, e1⟩)
                  have C27 := hide c27
                  have HI8 := hide hI8
                  have HM8 := hide hM8
                  have HB8 := hide hB8
                  have HR8 := hide hR8
                  have Hbg := hide hbg
                  clear c27 hI8 hM8 hB8 hR8 hbg hgb h6k HI7 HM7 HB7 y3 y5
                  go_wp2_with fail
                  refine C27.out.mono ?_
                  rintro e w8 ⟨rfl, m', i1, i2, i3, i4, i5, hout⟩
                  have hM9 := HM8.out.out HRd6.out.lt rfl (by rw [setM_same]; exact hout)
                  rw [setM_setM] at hM9
                  have hF := HRd6.out.fin_sweep (m' := m') (by rw [← hfm]; exact hgt) (by omega) (HI8.out.out HR8.out hout) hM9 (HB8.out.trans (hout.below HR8.out HB8.out.size Hbg.out)) i1 i2 i3 i4 i5
                  have HF := hide hF
                  clear hF hM9 hout i1 i2 i3 i4 i5 HI8 HM8 HB8 HR8 C27 HRd6
                  go_wp2_with fail
                  refine (HF.out.agrees (by omega) (Nat.le_refl _)).mono ?_
                  rintro e w9 ⟨rfl, q9, hw9⟩
                  subst w9
                  go_wp2
                  go_roundw
                  case rel => exact ⟨i + 1, by go_num, by omega, ⟨N + 1, _, _, _, _, _, _, rfl, by omega, by omega, HF.out.inv.drewN _, HF.out.mods.drewN _, HF.out.link, below_drewN HF.out.below _⟩⟩
                  case measure => simp [intOf]; omega
                · have hsw' : ((MM k).K.length : Int) < 2 * max ((MM k).last : Int) 64 := by omega
                  go_quiet ((go_at_call 26; exact Calls.quiet_of_same (maxInt _ _ _)))
                  refine gen_then (fun W => Fin w2 W w2.heap.size (N + 1) T' S (se i) (.slice (some ⟨g5, 0, none⟩) (k + 1) c5) (k + 1) (i + 1) MM k s' { MM k with mark := va i }) (HRd6.out.fin_raise (by rw [← hfm]; exact hgt) (by omega) (HI7.out.drewN _) (HM7.out.drewN _) (below_drewN HB7.out _)) ?_
                  intro W8 hF
                  have HF := hide hF
                  clear hF HI7 HM7 HB7 y3 y5 HRd6
                  go_wp2_with fail
                  refine (HF.out.agrees (by omega) (Nat.le_refl _)).mono ?_
                  rintro e w9 ⟨rfl, q9, hw9⟩
                  subst w9
                  go_wp2
                  go_roundw
                  case rel => exact ⟨i + 1, by go_num, by omega, ⟨N + 1, _, _, _, _, _, _, rfl, by omega, by omega, HF.out.inv.drewN _, HF.out.mods.drewN _, HF.out.link, below_drewN HF.out.below _⟩⟩
                  case measure => simp [intOf]; omega
              · have hgt' : decide ((MM k).mark < va i) = false := by simpa using hgt
                try go_wp2_with fail
                go_quiet (fail)
                refine gen_then (fun W => Fin w2 W w2.heap.size (N + 1) T' S (se i) (.slice (some ⟨g5, 0, none⟩) (k + 1) c5) (k + 1) (i + 1) MM k s' (MM k)) ((HRd.out.drewN _).fin_same (by rw [← hfm]; omega)) ?_
                intro W8 hF
                have HF := hide hF
                clear hF HRd y2 x0 x1 x2 x3 Hbx5
                go_wp2_with fail
                refine (HF.out.agrees (by omega) (Nat.le_refl _)).mono ?_
                rintro e w9 ⟨rfl, q9, hw9⟩
                subst w9
                go_wp2
                go_roundw
                case rel => exact ⟨i + 1, by go_num, by omega, ⟨N + 1, _, _, _, _, _, _, rfl, by omega, by omega, HF.out.inv.drewN _, HF.out.mods.drewN _, HF.out.link, below_drewN HF.out.below _⟩⟩
                case measure => simp [intOf]; omega
        · have hI0 := hfine.out
          obtain rfl := Hg.out (by omega)
          obtain ⟨s0, hRd, hsb⟩ := ready_found hI0 HL.out hkk hid HAf.out HI4.out HM4.out HB4.out
          have y1 := (H6.out kk hkk).c1
          rw [hsb] at y1
          have hpp := ptr_neq_same
          obtain ⟨w5, hw5⟩ : ∃ w5, w5 = w4 := ⟨w4, rfl⟩
          subst w4
          have HRd := hide hRd
          have Hbx5 := hide Hbx.out
          clear hI0 hRd hsb HM4 HI4 HB4 Hbx HAf HL Hg H6 hfine hid
          obtain ⟨cs, hgb, h6k, hbg⟩ := HRd.out.mods.get HRd.out.lt
          have y2 := (h6k.at hgb).c2
          have hfm := HRd.out.fit.mark
          clear hgb h6k hbg
          by_cases hgt : (M kk).mark < va i
          · have hgt' : decide ((M kk).mark < va i) = true := by simpa using hgt
            try go_wp2_with fail
            go_quiet (fail)
            refine gen_then (fun W => Ready w2 W w2.heap.size (N + 1) T' S (se i) (va i) s' (.slice (some ⟨g, 0, none⟩) k cb) k i M kk s0 ∧ W.heap[wo.heap.size]? = some (stCells false (se i) (va i) (A' i) (L i) (L i))) ⟨HRd.out.drewN _, Hbx5.out⟩ ?_
            rintro W6 ⟨hRd6, hbx6⟩
            obtain ⟨cs, hgb, h6k, hbg⟩ := hRd6.mods.get hRd6.lt
            have hR6 := hRd6.mods.rows _ hRd6.lt
            have ho6 := mark_out hgb h6k hR6 (va i)
            have y2 := (h6k.at hgb).c2
            have f2 := free_of hgb (kk * 6 + 2)
            have x2 := cell_of hbx6 2
            have HRd6 := hide hRd6
            have Ho6 := hide ho6
            have HI6 := hide (hRd6.inv.out hR6 ho6)
            have HM6 := hide (hRd6.mods.out hRd6.lt rfl ho6)
            have HB6 := hide (hRd6.below.trans (ho6.below hR6 hRd6.below.size hbg))
            clear hgb h6k hbg hR6 ho6 hRd6 hbx6 Hbx5 HRd x0 x1 x3
            go_wp2_with fail
            refine gen_wp (fun W => Inv W w2.heap.size (N + 1) T' (upd S (se i) s') ∧ ModInv W w2.heap.size (.slice (some ⟨g, 0, none⟩) k cb) k (setM M kk { M kk with mark := va i }) ∧ Below w2.heap.size w2 W) ⟨HI6.out, HM6.out, HB6.out⟩ ?_
            rintro W7 ⟨hI7, hM7, hB7⟩
            obtain ⟨cs, hgb, h6k, hbg⟩ := hM7.get HRd6.out.lt
            rw [setM_same] at h6k
            have y3 := (h6k.at hgb).c3
            have y5 := (h6k.at hgb).c5
            simp only [Mod.iv] at y3
            have hlast := HRd6.out.last
            have hsmall := HRd6.out.link.small _ HRd6.out.lt
            have HI7 := hide hI7
            have HM7 := hide hM7
            have HB7 := hide hB7
            clear hgb h6k hbg hI7 hM7 hB7 HI6 HM6 HB6 Ho6 y2 f2 x2
            by_cases hsw : 2 * max ((M kk).last : Int) 64 ≤ ((M kk).K.length : Int)
            · go_quiet ((go_at_call 26; exact Calls.quiet_of_same (maxInt _ _ _)))
              refine gen_then (fun W => Inv W w2.heap.size (N + 1) T' (upd S (se i) s') ∧ ModInv W w2.heap.size (.slice (some ⟨g, 0, none⟩) k cb) k (setM M kk { M kk with mark := va i }) ∧ Below w2.heap.size w2 W) ⟨HI7.out.drewN _, HM7.out.drewN _, below_drewN HB7.out _⟩ ?_
              rintro W8 ⟨hI8, hM8, hB8⟩
              obtain ⟨cs, hgb, h6k, hbg⟩ := hM8.get HRd6.out.lt
              have hR8 := hM8.rows _ HRd6.out.lt
              rw [setM_same] at h6k hR8
              have c27 := sweep_model W8 g (kk * 6) w2.heap.size { M kk with mark := va i } cs hgb h6k hR8 (by show (M kk).K.length ≤ _; omega) hB8.size (fun p hp => by obtain ⟨A1, L1, e1, _⟩ := HRd6.out.link.bytes _ HRd6.out.lt p hp; exact ⟨A1, L1, L1, e1⟩)
              have C27 := hide c27
              have HI8 := hide hI8
              have HM8 := hide hM8
              have HB8 := hide hB8
              have HR8 := hide hR8
              have Hbg := hide hbg
              clear c27 hI8 hM8 hB8 hR8 hbg hgb h6k HI7 HM7 HB7 y3 y5
              go_wp2_with fail
              refine C27.out.mono ?_
              rintro e w8 ⟨rfl, m', i1, i2, i3, i4, i5, hout⟩
              have hM9 := HM8.out.out HRd6.out.lt rfl (by rw [setM_same]; exact hout)
              rw [setM_setM] at hM9
              have hF := HRd6.out.fin_sweep (m' := m') (by rw [← hfm]; exact hgt) (by omega) (HI8.out.out HR8.out hout) hM9 (HB8.out.trans (hout.below HR8.out HB8.out.size Hbg.out)) i1 i2 i3 i4 i5
              have HF := hide hF
              clear hF hM9 hout i1 i2 i3 i4 i5 HI8 HM8 HB8 HR8 C27 HRd6
              go_wp2_with fail
              refine (HF.out.agrees (by omega) (Nat.le_refl _)).mono ?_
              rintro e w9 ⟨rfl, q9, hw9⟩
              subst w9
              go_wp2
              go_roundw
              case rel => exact ⟨i + 1, by go_num, by omega, ⟨N + 1, _, _, _, _, _, _, rfl, by omega, by omega, HF.out.inv.drewN _, HF.out.mods.drewN _, HF.out.link, below_drewN HF.out.below _⟩⟩
              case measure => simp [intOf]; omega
            · have hsw' : ((M kk).K.length : Int) < 2 * max ((M kk).last : Int) 64 := by omega
              go_quiet ((go_at_call 26; exact Calls.quiet_of_same (maxInt _ _ _)))
              refine gen_then (fun W => Fin w2 W w2.heap.size (N + 1) T' S (se i) (.slice (some ⟨g, 0, none⟩) k cb) k (i + 1) M kk s' { M kk with mark := va i }) (HRd6.out.fin_raise (by rw [← hfm]; exact hgt) (by omega) (HI7.out.drewN _) (HM7.out.drewN _) (below_drewN HB7.out _)) ?_
              intro W8 hF
              have HF := hide hF
              clear hF HI7 HM7 HB7 y3 y5 HRd6
              go_wp2_with fail
              refine (HF.out.agrees (by omega) (Nat.le_refl _)).mono ?_
              rintro e w9 ⟨rfl, q9, hw9⟩
              subst w9
              go_wp2
              go_roundw
              case rel => exact ⟨i + 1, by go_num, by omega, ⟨N + 1, _, _, _, _, _, _, rfl, by omega, by omega, HF.out.inv.drewN _, HF.out.mods.drewN _, HF.out.link, below_drewN HF.out.below _⟩⟩
              case measure => simp [intOf]; omega
          · have hgt' : decide ((M kk).mark < va i) = false := by simpa using hgt
            try go_wp2_with fail
            go_quiet (fail)
            refine gen_then (fun W => Fin w2 W w2.heap.size (N + 1) T' S (se i) (.slice (some ⟨g, 0, none⟩) k cb) k (i + 1) M kk s' (M kk)) ((HRd.out.drewN _).fin_same (by rw [← hfm]; omega)) ?_
            intro W8 hF
            have HF := hide hF
            clear hF HRd y2 x0 x1 x2 x3 Hbx5
            go_wp2_with fail
            refine (HF.out.agrees (by omega) (Nat.le_refl _)).mono ?_
            rintro e w9 ⟨rfl, q9, hw9⟩
            subst w9
            go_wp2
            go_roundw
            case rel => exact ⟨i + 1, by go_num, by omega, ⟨N + 1, _, _, _, _, _, _, rfl, by omega, by omega, HF.out.inv.drewN _, HF.out.mods.drewN _, HF.out.link, below_drewN HF.out.below _⟩⟩
            case measure => simp [intOf]; omega
      · rw [hpu] at s0
        go_wp2_with fail
        have hIa := (HI.out.alloc (stCells true (se i) (va i) (A' i) (L i) (L i))).alloc (cmdCells (se i) 0)
        have HIa := hide hIa
        clear hIa
        refine (zsettle _ w2.heap.size N T S (se i) 0 HIa.out hse U64.zero (by omega)).mono ?_
        rintro e w4 ⟨s', T', rfl, hAf, hI4, hK4, hO4⟩
        have hM4 : ModInv w4 w2.heap.size (.slice ob k cb) k M := ((HM.out.alloc _).alloc _).settle HIa.out hK4
        have hB4 : Below w2.heap.size w2 w4 := Below.settled HB.out HB.out.size HIa.out hK4
        have hbx := box_kept HIa.out hK4
        have x0 := cell_of hbx 0
        have x1 := cell_of hbx 1
        have x2 := cell_of hbx 2
        have x3 := cell_of hbx 3
        obtain ⟨g, hg, h6⟩ := hM4.rowAt
        have c23 := find_any w4 ob g k cb (fun j => (M j).id) (se i) hg (fun j hj => (h6 j hj).c0) (by omega)
        have HI4 := hide hI4
        have HM4 := hide hM4
        have HB4 := hide hB4
        have Hbx := hide hbx
        have HAf := hide hAf
        have Hg := hide hg
        have H6 := hide h6
        have C23 := hide c23
        clear hI4 hM4 hB4 hbx hAf hK4 hO4 HIa hg h6 c23 HI HM HB s0 s1 s2 s3
        go_wp2_with fail
        refine C23.out.mono ?_
        rintro e w5 ⟨r, rfl, hw5, hr⟩
        subst w5
        clear C23
        rcases hr with ⟨rfl, hno⟩ | ⟨kk, hkk, rfl, hid⟩
        · have Hno := hide hno
          clear hno
          go_wp2_with fail
          go_loopw [10] (fun jj wq => ∃ (j : Nat), jj = Value.int .i64 (j : Int) ∧ j ≤ k ∧ wq = w4) (fun jj _ => k - (intOf jj).toNat)
          case atStart => exact ⟨0, rfl, by omega, rfl⟩
          case round =>
            obtain ⟨j, rfl, hj, hwr⟩ := hrel
            subst wr
            by_cases hjk : (j : Int) < k
            · obtain rfl := Hg.out (by omega)
              have y1 := (H6.out j (by omega)).c1
              obtain ⟨s1, hs1, hf1⟩ := HL.out.to j (by omega)
              have hne1 : (M j).id ≠ se i := Hno.out j (by omega)
              have hs1' : upd S (se i) s' (M j).id = some s1 := (upd_other hne1).trans hs1
              have hpe : (binOp .eql 51 (.pointer (some ⟨(M j).sb, 0, none⟩)) (.pointer (some ⟨s'.sb, 0, none⟩))).run Try.prog w4 = .ok (.bool false) w4 := ptr_eql_other (by rw [hf1.sb]; exact (HI4.out.apart _ _ _ _ hs1' (upd_same _ _ _) hne1).1) (by rw [hf1.sb]; exact (HI4.out.sess _ _ hs1').1) (HI4.out.sess _ _ (upd_same _ _ _)).1
              clear hs1 hf1 hne1 hs1'
              go_wp2
              go_roundw
              case rel => exact ⟨j + 1, by go_num, by omega, by first | trivial | rfl⟩
              case measure => simp [intOf]; omega
            · obtain rfl : k = j := by omega
              obtain ⟨i0, hi0, hz0, hz1, hz2⟩ := info_parts info57
              obtain ⟨xs, hown, hxl, hx6⟩ := HM4.out.owns
              have Hown := hide hown
              have Hx6 := hide hx6
              clear hown hx6
              go_wp2_with (first
                | (at_builtin; refine wpList_append_own_at _ rfl _ _ 44 rfl w2.heap.size 57 i0 (.agg #[.int .u64 0, .pointer none, .int .u64 0, .slice none 0 0, .slice none 0 0, .int .i64 0]) 6 80 Try.underlying44 hi0 hz0 hz1 hz2 rfl (by decide) _ _ _ rfl (Hown.out.alloc _) ⟨w4.heap.size, 0, none⟩ 1 1 (⟨se i, s'.sb, 0, none, 0, none, 0, 0, []⟩ : Mod).cells rfl rfl (cells_new w4 _ _) (by intro u hu; simp [Mod.cells] at hu; rcases hu with rfl | rfl | rfl | rfl | rfl | rfl <;> rfl) (by unfold maxLen; omega) (by omega) (by have := HB4.out.size; simp; omega) ?_; intro v5 w5 hown5 hgrow5 hnil5 hat5
                   obtain ⟨g5, c5, rfl⟩ := row_shape hown5
                   have hgr5 := (World.grownBy_alloc w4 (.cells #[.int .u64 (se i), .pointer (some ⟨s'.sb, 0, none⟩), .int .u64 0, .slice none 0 0, .slice none 0 0, .int .i64 0] 57) (Value.slice ob k cb).ownBlock).trans hgrow5
                   have hM5 := HM4.out.push hxl Hx6.out (se i) 0 s'.sb 0 hown5 hgr5
                   have hI5 := HI4.out.push HM4.out hgr5
                   have hB5 := HM4.out.push_below hgr5 HB4.out.size HB4.out
                   have hbx5 := HM4.out.push_box hgr5 Hbx.out
                   obtain ⟨s0, hRd, _⟩ := ready_new HL.out Hno.out HAf.out (Int.le_refl _) hI5 hM5 hB5
                   clear x0 x1 x2 x3
                   have x0 := cell_of hbx5 0
                   have x1 := cell_of hbx5 1
                   have x2 := cell_of hbx5 2
                   have x3 := cell_of hbx5 3
                   have HRd := hide hRd
                   have Hbx5 := hide hbx5
                   obtain ⟨MM, hMM⟩ : ∃ MM, MM = setM M k ⟨se i, s'.sb, 0, none, 0, none, 0, 0, []⟩ := ⟨_, rfl⟩
                   rw [← hMM] at HRd
                   clear hMM hM5 hI5 hB5 hbx5 hRd hgr5 hown5 hgrow5 hnil5 hat5 Hown Hx6 hxl hi0 hz0 hz1 hz2 HM4 HI4 HB4 Hbx Hno HAf HL Hg H6 hfine))
              obtain ⟨cs, hgb, h6k, hbg⟩ := HRd.out.mods.get HRd.out.lt
              have hR5 := HRd.out.mods.rows _ HRd.out.lt
              have hsmall := HRd.out.link.small _ HRd.out.lt
              have C24 := hide (put_any w5 g5 (k * 6) w2.heap.size (MM k) cs (va i) (A' i) (L i) (L i) hgb h6k hR5 (by omega) HRd.out.below.size)
              have HR5 := hide hR5
              have Hbg := hide hbg
              clear hgb h6k hR5 hbg
              try go_wp2_with fail
              refine C24.out.mono ?_
              rintro e w6 ⟨rfl, m', i1, i2, i3, i4, i5, hout⟩
              have hI6 := HRd.out.inv.out HR5.out hout
              have hM6 := HRd.out.mods.out HRd.out.lt rfl hout
              have hB6 := HRd.out.below.trans (hout.below HR5.out HRd.out.below.size Hbg.out)
              have hbx6 := hout.box HR5.out Hbx5.out
              have C25 := hide (zput w6 w2.heap.size (N + 1) T' (upd S (se i) s') (se i) (va i) (.slice (A' i) (L i) (L i)) s' hI6 (upd_same _ _ _) hva (by omega))
              have x2 := cell_of hbx6 2
              have x3 := cell_of hbx6 3
              have HI6 := hide hI6
              have HM6 := hide hM6
              have HB6 := hide hB6
              have H5 := hide i5
              clear hI6 hM6 hB6 hbx6 hout i5 C24 HR5 Hbg x0 x1 Hbx5
              go_wp2_with fail
              refine C25.out.mono ?_
              rintro e w7 ⟨rfl, hI7, hK7⟩
              rw [upd_upd] at hI7
              have hM7 := HM6.out.settle HI6.out hK7
              have hB7 := HB6.out.trans (hK7.below (B := w2.heap.size) HB6.out.size (fun j hj => HI6.out.ge hj))
              have HF := hide (HRd.out.fin_put (m' := m') hva hI7 hM7 hB7 i1 i2 i3 i4 (Hdat.out i (by omega)) H5.out)
              clear hI7 hM7 hB7 hK7 HI6 HM6 HB6 C25 HRd H5 x2 x3 i1 i2 i3 i4
              go_wp2_with fail
              refine (HF.out.agrees (by omega) (Nat.le_refl _)).mono ?_
              rintro e w9 ⟨rfl, q9, hw9⟩
              subst w9
              go_wp2
              go_roundw
              case rel => exact ⟨i + 1, by go_num, by omega, ⟨N + 2, _, _, _, _, _, _, rfl, by omega, by omega, HF.out.inv.drewN _, HF.out.mods.drewN _, HF.out.link, below_drewN HF.out.below _⟩⟩
              case measure => simp [intOf]; omega
        · have hI0 := hfine.out
          obtain rfl := Hg.out (by omega)
          obtain ⟨s0, hRd, hsb⟩ := ready_found hI0 HL.out hkk hid HAf.out HI4.out HM4.out HB4.out
          have y1 := (H6.out kk hkk).c1
          rw [hsb] at y1
          have hpp := ptr_neq_same
          obtain ⟨w5, hw5⟩ : ∃ w5, w5 = w4 := ⟨w4, rfl⟩
          subst w4
          have HRd := hide hRd
          have Hbx5 := hide Hbx.out
          clear hI0 hRd hsb HM4 HI4 HB4 Hbx HAf HL Hg H6 hfine hid
          obtain ⟨cs, hgb, h6k, hbg⟩ := HRd.out.mods.get HRd.out.lt
          have hR5 := HRd.out.mods.rows _ HRd.out.lt
          have hsmall := HRd.out.link.small _ HRd.out.lt
          have C24 := hide (put_any w5 g (kk * 6) w2.heap.size (M kk) cs (va i) (A' i) (L i) (L i) hgb h6k hR5 (by omega) HRd.out.below.size)
          have HR5 := hide hR5
          have Hbg := hide hbg
          clear hgb h6k hR5 hbg
          try go_wp2_with fail
          refine C24.out.mono ?_
          rintro e w6 ⟨rfl, m', i1, i2, i3, i4, i5, hout⟩
          have hI6 := HRd.out.inv.out HR5.out hout
          have hM6 := HRd.out.mods.out HRd.out.lt rfl hout
          have hB6 := HRd.out.below.trans (hout.below HR5.out HRd.out.below.size Hbg.out)
          have hbx6 := hout.box HR5.out Hbx5.out
          have C25 := hide (zput w6 w2.heap.size (N + 1) T' (upd S (se i) s') (se i) (va i) (.slice (A' i) (L i) (L i)) s' hI6 (upd_same _ _ _) hva (by omega))
          have x2 := cell_of hbx6 2
          have x3 := cell_of hbx6 3
          have HI6 := hide hI6
          have HM6 := hide hM6
          have HB6 := hide hB6
          have H5 := hide i5
          clear hI6 hM6 hB6 hbx6 hout i5 C24 HR5 Hbg x0 x1 Hbx5
          go_wp2_with fail
          refine C25.out.mono ?_
          rintro e w7 ⟨rfl, hI7, hK7⟩
          rw [upd_upd] at hI7
          have hM7 := HM6.out.settle HI6.out hK7
          have hB7 := HB6.out.trans (hK7.below (B := w2.heap.size) HB6.out.size (fun j hj => HI6.out.ge hj))
          have HF := hide (HRd.out.fin_put (m' := m') hva hI7 hM7 hB7 i1 i2 i3 i4 (Hdat.out i (by omega)) H5.out)
          clear hI7 hM7 hB7 hK7 HI6 HM6 HB6 C25 HRd H5 x2 x3 i1 i2 i3 i4
          go_wp2_with fail
          refine (HF.out.agrees (by omega) (Nat.le_refl _)).mono ?_
          rintro e w9 ⟨rfl, q9, hw9⟩
          subst w9
          go_wp2
          go_roundw
          case rel => exact ⟨i + 1, by go_num, by omega, ⟨N + 2, _, _, _, _, _, _, rfl, by omega, by omega, HF.out.inv.drewN _, HF.out.mods.drewN _, HF.out.link, below_drewN HF.out.below _⟩⟩
          case measure => simp [intOf]; omega
    · go_wp2
      go_ret
      exact ⟨rfl, HB'.out.trans (hB.mono HB'.out.size)⟩
end Go.Proofs.Qxb6600769a.Ses
