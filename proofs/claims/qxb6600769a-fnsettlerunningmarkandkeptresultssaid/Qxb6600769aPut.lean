import Derived.Test.Qxb6600769aMods
namespace Go.Proofs.Qxb6600769a.Ses
open Go.RowKit Go.Maps
set_option linter.unusedVariables false

theorem row_shape {w : World} {B s n : Nat} {e : TypeId} {v : Value} {xs : List Value} (h : w.ownsRow B e s v (n + 1) xs) : ∃ g c, v = .slice (some ⟨g, 0, none⟩) (n + 1) c := by
  obtain ⟨hl, ⟨_, h1⟩ | ⟨g, cap, cur, hv, _⟩⟩ := h
  · omega
  · exact ⟨g, cap, hv⟩

def PutOut (w : World) (g o B : Nat) (m : Mod) (k : Int) (v : Value) (e : Ending) (w' : World) : Prop :=
  e = .returned (.tuple #[]) ∧ ∃ m' : Mod, m'.id = m.id ∧ m'.sb = m.sb ∧ m'.mark = m.mark ∧ m'.last = m.last ∧
    ((∃ j u, m.K[j]? = some (k, u) ∧ m'.K = m.K.set j (k, v)) ∨ ((∀ p ∈ m.K, p.1 ≠ k) ∧ m'.K = m.K ++ [(k, v)])) ∧ ModOut w g o B m m' w'

set_option maxRecDepth 100000 in
set_option maxHeartbeats 1000000 in
theorem put_any (w : World) (g o B : Nat) (m : Mod) (cs : Array Value) (k : Int) (A : Option Addr) (L C : Nat) (hg : w.heap[g]? = some (.cells cs 57 (0, 0))) (h6 : Six cs o m) (hR : Rows2 w B m) (hn : m.K.length ≤ 100000) (hB : B ≤ w.heap.size) :
    Calls Try.prog 24 #[.pointer (some ⟨g, o, none⟩), .int .u64 k, .slice A L C] w (PutOut w g o B m k (.slice A L C)) := by
  have h45 := cells45m
  have h46 := cells46m
  have c3 := (h6.at hg).c3
  have c4 := (h6.at hg).c4
  go_enter Try.func24, Try.ntmps24
  go_wp2
  go_loopw [6] (fun j wr => ∃ (i : Nat), j = Value.int .i64 (i : Int) ∧ i ≤ m.K.length ∧ (∀ l p, l < i → m.K[l]? = some p → p.1 ≠ k) ∧ wr = w) (fun j _ => m.K.length - (intOf j).toNat)
  case atStart => exact ⟨0, rfl, by omega, fun l p hl => by omega, rfl⟩
  case round =>
    obtain ⟨i, rfl, hi, hall, rfl⟩ := hrel
    have Hall := hide hall
    clear hall
    by_cases hin : (i : Int) < m.K.length
    · have hlt : i < m.K.length := by omega
      obtain ⟨gi, hia, _, ⟨curi, hgi⟩, hci⟩ := row_at hR.ir (by omega)
      obtain ⟨gd, hda, _, ⟨curd, hgd⟩, hcd⟩ := row_at hR.dr (by omega)
      have hKi : m.K[i]? = some m.K[i] := List.getElem?_eq_getElem hlt
      have di := hci i (.int .u64 m.K[i].1) (by simp [hKi])
      have dd := hcd i m.K[i].2 (by simp [hKi])
      have fd : wr.frozen? ⟨gd, i, none⟩ = false := free_of hgd i
      have HR := hide hR
      have Hg := hide hg
      have Hgd := hide hgd
      have Hgi := hide hgi
      have H6 := hide h6
      have Hda := hide hda
      have Hia := hide hia
      clear hR hci hcd hg hgi hgd
      simp only [Mod.iv, hia] at c3
      simp only [Mod.dv, hda] at c4
      clear hia hda h6
      by_cases hk : m.K[i].1 = k
      · have hk' : (m.K[i].1 == k) = true := by simpa using hk
        go_wp2
        go_end0
        have hgne : g ≠ gd := kinds_ne Hg.out Hgd.out (by decide)
        have hine : gi ≠ gd := kinds_ne Hgi.out Hgd.out (by decide)
        refine ⟨rfl, { m with K := m.K.set i (k, .slice A L C) }, rfl, rfl, rfl, rfl, .inl ⟨i, m.K[i].2, by rw [hKi, ← hk], rfl⟩, (Keep.refl _ _).setCell (p := ⟨gd, i, none⟩) (.inl (.inr (.inr (by simp [Mod.dv, Hda.out, Value.ownBlock])))) _, ⟨?_, ?_⟩, ⟨cs, cs, Hg.out, ?_, rfl, ?_, fun _ _ => rfl⟩, fun b hb => .inl ?_, fun b hb => .inl ?_⟩
        · have e1 : (m.K.set i (k, .slice A L C)).map (fun p => Value.int .u64 p.1) = m.K.map fun p => Value.int .u64 p.1 := by
            apply List.ext_getElem?
            intro j
            by_cases e : j = i
            · subst e; simp [hlt, hk]
            · simp [List.getElem?_set_ne (fun h => e h.symm)]
          have := HR.out.ir
          simp only [Mod.iv, List.length_set, e1] at this ⊢
          exact row_other this (fun b hb => Below.heap_setCell _ _ _ _ (by rw [Hia.out] at hb; cases hb; exact hine))
        · have := HR.out.dr
          simp only [Mod.dv, List.length_set, Hda.out] at this ⊢
          have e1 : (m.K.set i (k, .slice A L C)).map (fun p => p.2) = (m.K.map fun p => p.2).set i (.slice A L C) := List.map_set ..
          rw [e1]
          exact row_set this i _
        · exact (Below.heap_setCell _ _ _ _ hgne).trans Hg.out
        · exact ⟨H6.out.c0, H6.out.c1, H6.out.c2, by simpa [Mod.iv] using H6.out.c3, by simpa [Mod.dv] using H6.out.c4, H6.out.c5⟩
        · simpa [Mod.iv, Value.ownBlock, Hia.out] using hb
        · simpa [Mod.dv, Value.ownBlock, Hda.out] using hb
      · have hk' : (m.K[i].1 == k) = false := by simpa using hk
        go_wp2
        go_roundw
        case rel => exact ⟨i + 1, by go_num, by omega, fun l p hl hp => (by
          by_cases e : l = i
          · subst e; rw [hKi] at hp; cases hp; exact hk
          · exact Hall.out l p (by omega) hp), by first | trivial | rfl⟩
        case measure => simp [intOf]; omega
    · have hno : Hid (∀ p ∈ m.K, p.1 ≠ k) := fun p hp => (by
        obtain ⟨j, hj⟩ := List.getElem?_of_mem hp
        exact Hall.out j p (by have := (List.getElem?_eq_some_iff.1 hj).1; omega) hj)
      obtain ⟨i0, hi0, hz0, hz1, hz2⟩ := info_parts info45
      obtain ⟨j0, hj0, hy0, hy1, hy2⟩ := info_parts info46
      have f3 := free_of hg (o + 3)
      have Hg := hide hg
      have H6 := hide h6
      have HR := hide hR
      clear hg h6 hR Hall
      have tok1 : True := trivial
      go_wp2_with (first
        | (at_builtin; have _t := tok1; refine wpList_append_own_at _ rfl _ _ 54 rfl B 45 i0 (.int .u64 0) 1 8 Try.underlying54 hi0 hz0 hz1 hz2 rfl (by decide) _ _ _ rfl (HR.out.ir.alloc _) ⟨wr.heap.size, 0, none⟩ 1 1 [.int .u64 k] rfl rfl (cell_one_new _ _ _) (by intro u hu; simp at hu; subst hu; rfl) (by unfold maxLen; omega) (by omega) (by simp; omega) ?_; intro v1 w1 hown1 hgrow1 hnil1 hat1; clear tok1
           obtain ⟨g1, q1, rfl⟩ := row_shape hown1
           have hK1 : Keep (fun j => m.iv.ownBlock = some j) wr w1 := ((Keep.refl _ _).alloc _).grown hgrow1 (fun j hj => .inl hj)
           have hg1 : w1.heap[g]? = some (.cells cs 57 (0, 0)) := (hK1.block g (lt_of_blk Hg.out) (fun e => by obtain ⟨ci, hci⟩ := row_kind HR.out.ir e; exact kinds_ne hci Hg.out (by decide) rfl)).trans Hg.out
           have hd1 : w1.ownsRow B 46 1 m.dv m.K.length (m.K.map fun p => p.2) := row_other HR.out.dr (fun b hb => by obtain ⟨cd, hcd⟩ := row_kind HR.out.dr hb; exact hK1.block b (lt_of_blk hcd) (fun e => by obtain ⟨ci, hci⟩ := row_kind HR.out.ir e; exact kinds_ne hci hcd (by decide) rfl))
           have hlt1 := (hown1.lt g1 rfl).2
           have x3 := ((H6.out.at hg1)).c3
           have x4 := ((H6.out.at hg1)).c4
           have y3 := free_of hg1 (o + 3)
           have y4 := free_of hg1 (o + 4)
           have hne1 : ∀ v b, m.dv.ownBlock = some b → (w1.setCell ⟨g, o + 3, none⟩ v).heap[b]? = w1.heap[b]? := fun v b hb => Below.heap_setCell _ _ _ _ (fun e => by obtain ⟨cd, hcd⟩ := row_kind hd1 hb; exact kinds_ne hcd hg1 (by decide) e)
           have HD1 := hide (row_other hd1 (hne1 (.slice (some ⟨g1, 0, none⟩) (m.K.length + 1) q1)))
           have hcn := cell_one_new (w1.setCell ⟨g, o + 3, none⟩ (.slice (some ⟨g1, 0, none⟩) (m.K.length + 1) q1)) (.slice A L C) 46
           have hsz : (w1.setCell ⟨g, o + 3, none⟩ (.slice (some ⟨g1, 0, none⟩) (m.K.length + 1) q1)).heap.size = w1.heap.size := by simp [World.setCell]
           rw [hsz] at hcn
           have Hcn := hide hcn
           have hle1 := hK1.size
           have Hle1 := hide hle1
           have tok2 : True := trivial
           have HO1 := hide hown1
           have Hg1 := hide hg1
           have HK1 := hide hK1
           have Hat1 := hide hat1
           clear hd1 hown1 hg1 hK1 hgrow1 hnil1 hat1 c3 c4 f3 hne1 hcn hsz hle1)
        | (at_builtin; have _t := tok2; refine wpList_append_own_at _ rfl _ _ 55 rfl B 46 j0 (.slice none 0 0) 1 24 Try.underlying55 hj0 hy0 hy1 hy2 rfl (by decide) _ _ _ rfl (HD1.out.alloc _) ⟨w1.heap.size, 0, none⟩ 1 1 [.slice A L C] rfl rfl Hcn.out (by intro u hu; simp at hu; subst hu; rfl) (by unfold maxLen; omega) (by omega) (by have := Hle1.out; simp [World.setCell]; omega) ?_; intro v2 w2 hown2 hgrow2 hnil2 hat2; clear tok2
           obtain ⟨g2, q2, rfl⟩ := row_shape hown2
           have hK2 : Keep (fun j => m.dv.ownBlock = some j) (w1.setCell ⟨g, o + 3, none⟩ (.slice (some ⟨g1, 0, none⟩) (m.K.length + 1) q1)) w2 := ((Keep.refl _ _).alloc _).grown hgrow2 (fun j hj => .inl hj)
           have hg2 := (hK2.block g (by have := lt_of_blk Hg1.out; simpa [World.setCell] using this) (fun e => by obtain ⟨ci, hci⟩ := row_kind HD1.out e; exact kinds_ne hci (setCell_blk Hg1.out (o + 3) _) (by decide) rfl)).trans (setCell_blk Hg1.out (o + 3) _)
           have z4 : w2.cell? ⟨g, o + 4, none⟩ = some m.dv := by rw [cell_of hg2, Array.getElem?_setIfInBounds_ne (by omega)]; exact H6.out.c4
           have t4 := free_of hg2 (o + 4)
           have HK2 := hide hK2
           have Hg2 := hide hg2
           have HO2 := hide hown2
           have Hat2 := hide hat2
           clear hK2 hg2 hown2 hat2 hgrow2 hnil2 x3 x4 y3 y4)
        | go_in)
      go_end0
      have hs3 : o + 3 < cs.size := (Array.getElem?_eq_some_iff.1 H6.out.c3).1
      have hs4 : o + 4 < cs.size := (Array.getElem?_eq_some_iff.1 H6.out.c4).1
      have hlen : (m.K ++ [(k, Value.slice A L C)]).length = m.K.length + 1 := by simp
      have hlt1 := Hle1.out
      obtain ⟨ci1, hci1⟩ := row_kind HO1.out (b := g1) rfl
      obtain ⟨ci2, hci2⟩ := row_kind HO2.out (b := g2) rfl
      have hne1 : g1 ≠ g := kinds_ne hci1 Hg1.out (by decide)
      have hne2 : g2 ≠ g := kinds_ne hci2 Hg2.out (by decide)
      have hset : ∀ p v, (w1.setCell p v).heap.size = w1.heap.size := fun p v => by simp [World.setCell]
      refine ⟨rfl, { m with ia := some ⟨g1, 0, none⟩, ic := q1, da := some ⟨g2, 0, none⟩, dc := q2, K := m.K ++ [(k, .slice A L C)] }, rfl, rfl, rfl, rfl, .inr ⟨hno.out, rfl⟩, ?_, ⟨?_, ?_⟩, ⟨cs, _, Hg.out, setCell_blk Hg2.out (o + 4) _, by simp, ?_, fun j hj => ?_⟩, fun b hb => ?_, fun b hb => ?_⟩
      · exact (((HK1.out.mono (fun i _ h => .inr (.inl h))).setCell (p := ⟨g, o + 3, none⟩) (.inl (.inl rfl)) _).trans HK2.out (fun i _ h => .inr (.inr h))).setCell (p := ⟨g, o + 4, none⟩) (.inl (.inl rfl)) _
      · simp only [Mod.iv, hlen, List.map_append, List.map_cons, List.map_nil]
        refine row_other HO1.out (fun b hb => ?_)
        cases hb
        rw [Below.heap_setCell _ _ _ _ hne1, HK2.out.block g1 (by rw [hset]; exact lt_of_blk hci1) (fun e => by
          obtain ⟨cd, hcd⟩ := row_kind HD1.out e
          exact kinds_ne hcd ((Below.heap_setCell _ _ _ _ hne1).trans hci1) (by decide) rfl), Below.heap_setCell _ _ _ _ hne1]
      · simp only [Mod.dv, hlen, List.map_append, List.map_cons, List.map_nil]
        refine row_other HO2.out (fun b hb => ?_)
        cases hb
        exact Below.heap_setCell _ _ _ _ hne2
      · refine ⟨?_, ?_, ?_, ?_, ?_, ?_⟩
        · rw [Array.getElem?_setIfInBounds_ne (by omega), Array.getElem?_setIfInBounds_ne (by omega)]; exact H6.out.c0
        · rw [Array.getElem?_setIfInBounds_ne (by omega), Array.getElem?_setIfInBounds_ne (by omega)]; exact H6.out.c1
        · rw [Array.getElem?_setIfInBounds_ne (by omega), Array.getElem?_setIfInBounds_ne (by omega)]; exact H6.out.c2
        · rw [Array.getElem?_setIfInBounds_ne (by omega), Array.getElem?_setIfInBounds_self_of_lt hs3]; simp only [Mod.iv, hlen]
        · rw [Array.getElem?_setIfInBounds_self_of_lt (by simpa using hs4)]; simp only [Mod.dv, hlen]
        · rw [Array.getElem?_setIfInBounds_ne (by omega), Array.getElem?_setIfInBounds_ne (by omega)]; exact H6.out.c5
      · rw [Array.getElem?_setIfInBounds_ne (by omega), Array.getElem?_setIfInBounds_ne (by omega)]
      · rcases Hat1.out with h | h
        · exact .inl (h.symm.trans hb)
        · cases hb
          cases h
          exact .inr (by simp)
      · rcases Hat2.out with h | h
        · exact .inl (h.symm.trans hb)
        · cases hb
          cases h
          exact .inr (by simp [World.setCell]; omega)
end Go.Proofs.Qxb6600769a.Ses
