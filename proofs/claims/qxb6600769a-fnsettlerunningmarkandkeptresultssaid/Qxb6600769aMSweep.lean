import Derived.Test.Qxb6600769aPut
namespace Go.Proofs.Qxb6600769a.Ses
open Go.RowKit Go.Maps
set_option linter.unusedVariables false

theorem Rows2.drewN {w : World} {B : Nat} {m : Mod} (h : Rows2 w B m) (n : Nat) : Rows2 (w.drewN n) B m := ⟨row_other h.ir fun _ _ => rfl, row_other h.dr fun _ _ => rfl⟩
theorem row_base {w : World} {B B' s n : Nat} {e : TypeId} {v : Value} {xs : List Value} (h : w.ownsRow B e s v n xs) (hB : B' ≤ B) : w.ownsRow B' e s v n xs := by
  obtain ⟨hl, h1 | ⟨g, cap, cur, hv, hb, hr⟩⟩ := h
  · exact ⟨hl, .inl h1⟩
  · exact ⟨hl, .inr ⟨g, cap, cur, hv, by omega, hr⟩⟩

theorem Keep.cell {w w' : World} (h : Keep (fun _ => False) w w') {a : Addr} {v : Value} (hc : w.cell? a = some v) : w'.cell? a = some v :=
  (World.cell?_of_block (h.block a.block (World.block_lt_of_cell? w a hc) (fun f => f))).trans hc

abbrev keptOf (m : Mod) (i : Nat) : List (Int × Value) := (m.K.take i).filter fun p => decide (m.mark ≤ p.1)

/-- The sweep as far as it has come: the new rows lie above the old memory. -/
structure Swept (w : World) (m : Mod) (i : Nat) (mm : Mod) (wr : World) : Prop where
  K : mm.K = keptOf m i
  rows : Rows2 wr w.heap.size mm
  keep : Keep (fun _ => False) w wr

def SweepOut (w : World) (g o B : Nat) (m : Mod) (e : Ending) (w' : World) : Prop :=
  e = .returned (.tuple #[]) ∧ ∃ m' : Mod, m'.id = m.id ∧ m'.sb = m.sb ∧ m'.mark = m.mark ∧ m'.K = m.K.filter (fun p => decide (m.mark ≤ p.1)) ∧ m'.last = m'.K.length ∧ ModOut w g o B m m' w'

set_option maxRecDepth 100000 in
set_option maxHeartbeats 1000000 in
theorem sweep_model (w : World) (g o B : Nat) (m : Mod) (cs : Array Value) (hg : w.heap[g]? = some (.cells cs 57 (0, 0))) (h6 : Six cs o m) (hR : Rows2 w B m) (hn : m.K.length ≤ 100000) (hB : B ≤ w.heap.size) (hD : ∀ p ∈ m.K, ∃ A L C, p.2 = .slice A L C) :
    Calls Try.prog 27 #[.pointer (some ⟨g, o, none⟩)] w (SweepOut w g o B m) := by
  have h45 := cells45m
  have h46 := cells46m
  obtain ⟨i0, hi0, hz0, hz1, hz2⟩ := info_parts info45
  obtain ⟨j0, hj0, hy0, hy1, hy2⟩ := info_parts info46
  have HI0 := hide (And.intro hi0 (And.intro hz0 (And.intro hz1 hz2)))
  have HJ0 := hide (And.intro hj0 (And.intro hy0 (And.intro hy1 hy2)))
  clear hi0 hz0 hz1 hz2 hj0 hy0 hy1 hy2
  have Hg := hide hg
  have H6 := hide h6
  have HR := hide hR
  have HD := hide hD
  clear hg h6 hR hD
  go_enter Try.func27, Try.ntmps27
  go_wp2
  go_loopw [2, 3, 4] (fun u v j wr => ∃ (i : Nat) (mm : Mod), j = Value.int .i64 (i : Int) ∧ i ≤ m.K.length ∧ u = mm.iv ∧ v = mm.dv ∧ Swept w m i mm wr) (fun _ _ j _ => m.K.length - (intOf j).toNat)
  case atStart => exact ⟨0, ⟨0, 0, 0, none, 0, none, 0, 0, []⟩, rfl, by omega, rfl, rfl, rfl, ⟨World.ownsRow_nil .., World.ownsRow_nil ..⟩, Keep.refl _ _⟩
  case round =>
    obtain ⟨i, mm, rfl, hi, rfl, rfl, hS⟩ := hrel
    have hgr : wr.heap[g]? = some (.cells cs 57 (0, 0)) := (hS.keep.block g (lt_of_blk Hg.out) (fun h => h)).trans Hg.out
    have c2 := (H6.out.at hgr).c2
    have c3 := (H6.out.at hgr).c3
    have c4 := (H6.out.at hgr).c4
    have HS := hide hS
    have Hgr := hide hgr
    clear hS hgr
    by_cases hin : (i : Int) < m.K.length
    · have hlt : i < m.K.length := by omega
      obtain ⟨gi, hia, _, ⟨curi, hgi⟩, hci⟩ := row_at HR.out.ir (by omega)
      obtain ⟨gd, hda, _, ⟨curd, hgd⟩, hcd⟩ := row_at HR.out.dr (by omega)
      have hKi : m.K[i]? = some m.K[i] := List.getElem?_eq_getElem hlt
      have hbi := HS.out.keep.block gi (lt_of_blk hgi) (fun h => h)
      have hbd := HS.out.keep.block gd (lt_of_blk hgd) (fun h => h)
      obtain ⟨A, L, C, hsh⟩ := HD.out m.K[i] (List.mem_of_getElem? hKi)
      have bi : Hid (w.cell? ⟨gi, i, none⟩ = some (.int .u64 m.K[i].1)) := hci i _ (by simp [hKi])
      have bd : Hid (w.cell? ⟨gd, i, none⟩ = some (.slice A L C)) := hcd i _ (by simp [hKi, hsh])
      have di := HS.out.keep.cell bi.out
      have dd := HS.out.keep.cell bd.out
      have b3 := (H6.out.at Hg.out).c3
      have b4 := (H6.out.at Hg.out).c4
      simp only [Mod.iv, hia] at c3 b3
      simp only [Mod.dv, hda] at c4 b4
      replace b3 := hide b3
      replace b4 := hide b4
      clear hci hcd hgi hgd hbi hbd hia hda
      by_cases hge : m.mark ≤ m.K[i].1
      · go_wp2_with fail
        go_quiet (fail)
        refine gen_then (fun W => Swept w m i mm W) ⟨HS.out.K, HS.out.rows.drewN _, HS.out.keep.drewN _⟩ ?_
        intro W hSW
        have x3 : W.cell? ⟨g, o + 3, none⟩ = some (.slice (some ⟨gi, 0, none⟩) m.K.length m.ic) := hSW.keep.cell b3.out
        have x4 : W.cell? ⟨g, o + 4, none⟩ = some (.slice (some ⟨gd, 0, none⟩) m.K.length m.dc) := hSW.keep.cell b4.out
        have xi : W.cell? ⟨gi, i, none⟩ = some (.int .u64 m.K[i].1) := hSW.keep.cell bi.out
        have HW := hide hSW
        clear hSW c2 c3 c4 di dd HS Hgr
        have hlen : mm.K.length ≤ m.K.length := by
          rw [HW.out.K]
          exact Nat.le_trans (List.length_filter_le ..) (by rw [List.length_take]; omega)
        have hW := HW.out.keep.size
        have tok1 : True := trivial
        go_wp2_with (first
          | (at_builtin; have _t := tok1; refine wpList_append_own_at _ rfl _ _ 54 rfl w.heap.size 45 i0 (.int .u64 0) 1 8 Try.underlying54 HI0.out.1 HI0.out.2.1 HI0.out.2.2.1 HI0.out.2.2.2 rfl (by decide) _ _ _ rfl (HW.out.rows.ir.alloc _) ⟨W.heap.size, 0, none⟩ 1 1 [.int .u64 m.K[i].1] rfl rfl (cell_one_new _ _ _) (by intro u hu; simp at hu; subst hu; rfl) (by unfold maxLen; omega) (by omega) (by simp; omega) ?_; intro v1 w1 hown1 hgrow1 hnil1 hat1; clear tok1
             obtain ⟨g1, q1, rfl⟩ := row_shape hown1
             have hK1 : Keep (fun j => mm.iv.ownBlock = some j) W w1 := ((Keep.refl _ _).alloc _).grown hgrow1 (fun j hj => .inl hj)
             have hK1w : Keep (fun _ => False) w w1 := HW.out.keep.trans hK1 (fun j hj h => by have := (HW.out.rows.ir.lt j h).1; omega)
             have hd1 : w1.ownsRow w.heap.size 46 1 mm.dv mm.K.length (mm.K.map fun p => p.2) := row_other HW.out.rows.dr (fun b hb => by obtain ⟨cd, hcd⟩ := row_kind HW.out.rows.dr hb; exact hK1.block b (lt_of_blk hcd) (fun e => by obtain ⟨ci, hci⟩ := row_kind HW.out.rows.ir e; exact kinds_ne hci hcd (by decide) rfl))
             have x3 : w1.cell? ⟨g, o + 3, none⟩ = some (.slice (some ⟨gi, 0, none⟩) m.K.length m.ic) := hK1w.cell b3.out
             have x4 : w1.cell? ⟨g, o + 4, none⟩ = some (.slice (some ⟨gd, 0, none⟩) m.K.length m.dc) := hK1w.cell b4.out
             have xd : w1.cell? ⟨gd, i, none⟩ = some (.slice A L C) := hK1w.cell bd.out
             have HD1 := hide hd1
             have HO1 := hide hown1
             have HK1w := hide hK1w
             have hsz1 := hK1w.size
             have tok2 : True := trivial
             clear hd1 hown1 hK1 hK1w hgrow1 hnil1 hat1)
          | (at_builtin; have _t := tok2; refine wpList_append_own_at _ rfl _ _ 55 rfl w.heap.size 46 j0 (.slice none 0 0) 1 24 Try.underlying55 HJ0.out.1 HJ0.out.2.1 HJ0.out.2.2.1 HJ0.out.2.2.2 rfl (by decide) _ _ _ rfl (HD1.out.alloc _) ⟨w1.heap.size, 0, none⟩ 1 1 [.slice A L C] rfl rfl (cell_one_new _ _ _) (by intro u hu; simp at hu; subst hu; rfl) (by unfold maxLen; omega) (by omega) (by simp; omega) ?_; intro v2 w2 hown2 hgrow2 hnil2 hat2; clear tok2
             obtain ⟨g2, q2, rfl⟩ := row_shape hown2
             have hK2 : Keep (fun j => mm.dv.ownBlock = some j) w1 w2 := ((Keep.refl _ _).alloc _).grown hgrow2 (fun j hj => .inl hj)
             have HK2 := hide hK2
             have HO2 := hide hown2
             clear hK2 hown2 hgrow2 hnil2 hat2)
          | go_in)
        go_roundw
        case rel =>
          have hKs : keptOf m (i + 1) = keptOf m i ++ [m.K[i]] := by
            rw [keptOf, keptOf, List.take_add_one, hKi, Option.toList, List.filter_append]
            simp [hge]
          have hl2 : (mm.K ++ [m.K[i]]).length = mm.K.length + 1 := by simp
          refine ⟨i + 1, { mm with ia := some ⟨g1, 0, none⟩, ic := q1, da := some ⟨g2, 0, none⟩, dc := q2, K := mm.K ++ [m.K[i]] }, by go_num, by omega, by simp only [Mod.iv, hl2], by simp only [Mod.dv, hl2], ?_, ⟨?_, ?_⟩, ?_⟩
          · rw [hKs, ← HW.out.K]
          · simp only [Mod.iv, hl2, List.map_append, List.map_cons, List.map_nil]
            refine row_other HO1.out (fun b hb => ?_)
            obtain ⟨ci, hci⟩ := row_kind HO1.out hb
            exact HK2.out.block b (lt_of_blk hci) (fun e => by
              obtain ⟨cd, hcd⟩ := row_kind HD1.out e
              exact kinds_ne hcd hci (by decide) rfl)
          · simp only [Mod.dv, hl2, List.map_append, List.map_cons, List.map_nil, hsh]
            exact HO2.out
          · exact HK1w.out.trans HK2.out (fun j hj h => by have := (HD1.out.lt j h).1; omega)
        case measure => simp [intOf]; omega
      · go_wp2_with fail
        go_quiet (fail)
        go_wp2
        go_roundw
        case rel =>
          refine ⟨i + 1, mm, by go_num, by omega, rfl, rfl, ?_, HS.out.rows.drewN _, HS.out.keep.drewN _⟩
          rw [HS.out.K, keptOf, keptOf, List.take_add_one, hKi, Option.toList, List.filter_append]
          simp [hge]
        case measure => simp [intOf]; omega
    · have f3 := free_of Hgr.out (o + 3)
      have f4 := free_of Hgr.out (o + 4)
      have f5 := free_of Hgr.out (o + 5)
      have c5 := (H6.out.at Hgr.out).c5
      go_wp2
      go_end0
      obtain rfl : i = m.K.length := by omega
      have hKf : keptOf m m.K.length = m.K.filter fun p => decide (m.mark ≤ p.1) := by rw [keptOf, List.take_length]
      have hs3 : o + 3 < cs.size := (Array.getElem?_eq_some_iff.1 H6.out.c3).1
      have hs4 : o + 4 < cs.size := (Array.getElem?_eq_some_iff.1 H6.out.c4).1
      have hs5 : o + 5 < cs.size := (Array.getElem?_eq_some_iff.1 H6.out.c5).1
      refine ⟨rfl, { mm with id := m.id, sb := m.sb, mark := m.mark, last := mm.K.length }, rfl, rfl, rfl, HS.out.K.trans hKf, rfl, ?_, ⟨?_, ?_⟩, ⟨cs, _, Hg.out, setCell_blk (setCell_blk (setCell_blk Hgr.out (o + 3) _) (o + 4) _) (o + 5) _, by simp, ?_, fun j hj => ?_⟩, fun b hb => .inr ?_, fun b hb => .inr ?_⟩
      · exact (((HS.out.keep.mono (fun _ _ f => f.elim)).setCell (p := ⟨g, o + 3, none⟩) (.inl (.inl rfl)) _).setCell (p := ⟨g, o + 4, none⟩) (.inl (.inl rfl)) _).setCell (p := ⟨g, o + 5, none⟩) (.inl (.inl rfl)) _
      · refine row_other (row_base HS.out.rows.ir hB) (fun b hb => ?_)
        obtain ⟨ci, hci⟩ := row_kind HS.out.rows.ir hb
        have hne : b ≠ g := kinds_ne hci Hgr.out (by decide)
        rw [Below.heap_setCell _ _ _ _ hne, Below.heap_setCell _ _ _ _ hne, Below.heap_setCell _ _ _ _ hne]
      · refine row_other (row_base HS.out.rows.dr hB) (fun b hb => ?_)
        obtain ⟨ci, hci⟩ := row_kind HS.out.rows.dr hb
        have hne : b ≠ g := kinds_ne hci Hgr.out (by decide)
        rw [Below.heap_setCell _ _ _ _ hne, Below.heap_setCell _ _ _ _ hne, Below.heap_setCell _ _ _ _ hne]
      · refine ⟨?_, ?_, ?_, ?_, ?_, ?_⟩
        · rw [Array.getElem?_setIfInBounds_ne (by omega), Array.getElem?_setIfInBounds_ne (by omega), Array.getElem?_setIfInBounds_ne (by omega)]; exact H6.out.c0
        · rw [Array.getElem?_setIfInBounds_ne (by omega), Array.getElem?_setIfInBounds_ne (by omega), Array.getElem?_setIfInBounds_ne (by omega)]; exact H6.out.c1
        · rw [Array.getElem?_setIfInBounds_ne (by omega), Array.getElem?_setIfInBounds_ne (by omega), Array.getElem?_setIfInBounds_ne (by omega)]; exact H6.out.c2
        · rw [Array.getElem?_setIfInBounds_ne (by omega), Array.getElem?_setIfInBounds_ne (by omega), Array.getElem?_setIfInBounds_self_of_lt hs3]
        · rw [Array.getElem?_setIfInBounds_ne (by omega), Array.getElem?_setIfInBounds_self_of_lt (by simpa using hs4)]
        · rw [Array.getElem?_setIfInBounds_self_of_lt (by simpa using hs5)]
      · rw [Array.getElem?_setIfInBounds_ne (by omega), Array.getElem?_setIfInBounds_ne (by omega), Array.getElem?_setIfInBounds_ne (by omega)]
      · exact (HS.out.rows.ir.lt b hb).1
      · exact (HS.out.rows.dr.lt b hb).1
end Go.Proofs.Qxb6600769a.Ses
