import Derived.Test.Qxb6600769aClone
namespace Go.Proofs.Qxb6600769a.Ses
open Go.RowKit Go.Maps
set_option linter.unusedVariables false

/-- The bytes of a slice lie in memory, from block B on. -/
def BytesFrom (w : World) (B : Nat) (A : Option Addr) (L C : Nat) : Prop := (A = none ∧ L = 0 ∧ C = 0) ∨ ∃ b o, A = some ⟨b, o, none⟩ ∧ B ≤ b ∧ b < w.heap.size ∧ ∀ i, i < L → ∃ v, w.cell? ⟨b, o + i, none⟩ = some (.int .u8 v)

theorem BytesFrom.in {w : World} {B : Nat} {A : Option Addr} {L C : Nat} (h : BytesFrom w B A L C) : BytesIn w A L C := by
  rcases h with h | ⟨b, o, e, _, hb, hc⟩
  · exact .inl h
  · exact .inr ⟨_, e, fun _ => ⟨b, o, rfl, hb, hc⟩⟩
theorem BytesFrom.keep {w w' : World} {B B' : Nat} {A : Option Addr} {L C : Nat} (h : BytesFrom w B A L C) (hB : B' ≤ B) (hs : w.heap.size ≤ w'.heap.size) (hk : ∀ i, B ≤ i → i < w.heap.size → w'.heap[i]? = w.heap[i]?) : BytesFrom w' B' A L C := by
  rcases h with h | ⟨b, o, e, hb0, hb, hc⟩
  · exact .inl h
  · refine .inr ⟨b, o, e, by omega, by omega, fun i hi => ?_⟩
    obtain ⟨v, hv⟩ := hc i hi
    exact ⟨v, by rw [← hv]; simp [World.cell?, hk b hb0 hb]⟩

def BytesOutB (w : World) (L : Nat) (e : Ending) (w' : World) : Prop := ∃ A', e = .returned (.slice A' L L) ∧ BytesFrom w' w.heap.size A' L L ∧ Below w.heap.size w w'

set_option maxRecDepth 100000 in
set_option maxHeartbeats 1000000 in
theorem cloneBytesB (w : World) (A : Option Addr) (L c : Nat) (h : BytesIn w A L c) (hL : L ≤ 1048576) :
    Calls Try.prog 40 #[.slice A L c] w (BytesOutB w L) := by
  have hcells := cells5
  have hnil : ∀ W a n c, (binOp .eql 46 (.slice a n c) (.slice none 0 0)).run Try.prog W = _ := fun W a n c => Lib.run_eql_slice_nil W 46 5 a n c 0 0 Try.underlying46
  go_enter Try.func40, Try.ntmps40
  rcases h with ⟨rfl, rfl, rfl⟩ | ⟨a, rfl, hex⟩
  · go_wp2
    go_ret
    exact ⟨none, rfl, .inl ⟨rfl, rfl, rfl⟩, Below.refl _ _⟩
  · have hz := run_zeros L (by omega) w
    go_wp2
    go_loopw [4] (fun j wr => ∃ (i : Nat) (cs : Array Value), j = Value.int .i64 (i : Int) ∧ i ≤ L ∧ wr = w.alloc (.cells cs 5) ∧ cs.size = L ∧ ∀ l, l < i → ∃ x, cs[l]? = some (.int .u8 x)) (fun j _ => L - (intOf j).toNat)
    case atStart => exact ⟨0, _, rfl, by omega, rfl, size_madeCells _ _, fun l hl => by omega⟩
    case round =>
      obtain ⟨i, cs, rfl, hi, rfl, hcs, hall⟩ := hrel
      by_cases hin : (i : Int) < L
      · obtain ⟨b, o, rfl, hbl, hb⟩ := hex (by omega)
        obtain ⟨v, hv⟩ := hb i (by omega)
        have hv' : (w.alloc (.cells cs 5)).cell? ⟨b, o + i, none⟩ = some (.int .u8 v) := (World.cell?_alloc_past _ _ _ hbl).trans hv
        have hci : cs[i]? = some cs[i] := Array.getElem?_eq_getElem (by omega)
        go_wp2
        go_roundw
        case rel => exact ⟨i + 1, _, by go_num, by omega, by first | trivial | rfl, by simpa using hcs, fun l hl => (by
          by_cases e : l = i
          · subst e; exact ⟨v, by rw [Array.getElem?_setIfInBounds_self_of_lt (by omega)]⟩
          · rw [Array.getElem?_setIfInBounds_ne (fun h => e h.symm)]; exact hall l (by omega))⟩
        case measure => simp [intOf]; omega
      · go_wp2
        go_ret
        exact ⟨_, rfl, .inr ⟨w.heap.size, 0, rfl, Nat.le_refl _, (by simp), fun l hl => (by
          obtain ⟨x, hx⟩ := hall l (by omega)
          exact ⟨x, by rw [Nat.zero_add, World.cell?_alloc_new]; exact hx⟩)⟩, (Below.refl _ _).alloc (Nat.le_refl _) _⟩

def CloneOutB (w : World) (n : Nat) (pu : Nat → Bool) (se va : Nat → Int) (L : Nat → Nat) (e : Ending) (w' : World) : Prop :=
  ∃ oa' A', e = .returned (.slice oa' n n) ∧ (0 < n → oa' = some ⟨w.heap.size, 0, none⟩ ∧ w.heap.size < w'.heap.size) ∧ StepsIn w' w.heap.size 0 n pu se va A' L L ∧ (∀ i, i < n → BytesFrom w' (w.heap.size + 1) (A' i) (L i) (L i)) ∧ Below w.heap.size w w'

set_option maxRecDepth 100000 in
set_option maxHeartbeats 1000000 in
theorem cloneStepsB (w : World) (n c : Nat) (oa : Option Addr) (pu : Nat → Bool) (se va : Nat → Int) (A : Nat → Option Addr) (L C : Nat → Nat) (ha : ArgSteps w oa n c pu se va A L C) (hn : n ≤ 4096) (hL : ∀ i, i < n → L i ≤ 1048576) :
    Calls Try.prog 20 #[.slice oa n c] w (CloneOutB w n pu se va L) := by
  have hcells := cells48
  have hnil : ∀ W a n c, (binOp .eql 38 (.slice a n c) (.slice none 0 0)).run Try.prog W = _ := fun W a n c => Lib.run_eql_slice_nil W 38 48 a n c 0 0 Try.underlying38
  have hz := run_zeros4 n (by omega) w
  obtain ⟨⟨rfl, rfl, rfl⟩ | ⟨a, rfl, hex⟩, hB⟩ := ha
  · go_enter Try.func20, Try.ntmps20
    go_wp2
    go_ret
    exact ⟨none, A, rfl, fun h => (by omega), StepsIn.none .., fun i hi => (by omega), Below.refl _ _⟩
  go_enter Try.func20, Try.ntmps20
  go_wp2
  go_loopw [4] (fun j wr => ∃ (i : Nat) (cs : Array Value) (A' : Nat → Option Addr), j = Value.int .i64 (i : Int) ∧ i ≤ n ∧ wr.heap[w.heap.size]? = some (.cells cs 48 (0, 0)) ∧ cs.size = n * 4 ∧ StepsArr cs i pu se va A' L L ∧ (∀ l, l < i → BytesFrom wr (w.heap.size + 1) (A' l) (L l) (L l)) ∧ Below w.heap.size w wr) (fun j _ => n - (intOf j).toNat)
  case atStart =>
    refine ⟨0, zeros4 n, fun _ => none, rfl, by omega, heap_new _ _, size_madeCells _ _, ⟨fun i hi => ?_, fun i hi => ?_, fun i hi => ?_, fun i hi => ?_⟩, fun i hi => ?_, (Below.refl _ _).alloc (Nat.le_refl _) _⟩ <;> omega
  case round =>
    obtain ⟨i, cs, A', rfl, hi, hblk, hcs, hS, hF, hW⟩ := hrel
    by_cases hin : (i : Int) < n
    · obtain ⟨b, o, rfl, hbl, h⟩ := hex (by omega)
      have hsb := h.of_block (hW.block _ hbl)
      have s0 := hsb.c0 i (by omega)
      have s1 := hsb.c1 i (by omega)
      have s2 := hsb.c2 i (by omega)
      have s3 := hsb.c3 i (by omega)
      have d0 : wr.cell? ⟨w.heap.size, i * 4, none⟩ = some cs[i * 4] := (cell_of hblk _).trans (Array.getElem?_eq_getElem (by omega))
      have d1 : wr.cell? ⟨w.heap.size, i * 4 + 1, none⟩ = some cs[i * 4 + 1] := (cell_of hblk _).trans (Array.getElem?_eq_getElem (by omega))
      have d2 : wr.cell? ⟨w.heap.size, i * 4 + 2, none⟩ = some cs[i * 4 + 2] := (cell_of hblk _).trans (Array.getElem?_eq_getElem (by omega))
      have d3 : wr.cell? ⟨w.heap.size, i * 4 + 3, none⟩ = some cs[i * 4 + 3] := (cell_of hblk _).trans (Array.getElem?_eq_getElem (by omega))
      have f0 := free_of hblk (i * 4)
      have f1 := free_of hblk (i * 4 + 1)
      have f2 := free_of hblk (i * 4 + 2)
      have f3 := free_of hblk (i * 4 + 3)
      have HS := hide hS
      clear hS hsb
      have hW4 := (((hW.setCell (p := ⟨w.heap.size, i * 4, none⟩) (Nat.le_refl _) (.bool (pu i))).setCell (p := ⟨w.heap.size, i * 4 + 1, none⟩) (Nat.le_refl _) (.int .u64 (se i))).setCell (p := ⟨w.heap.size, i * 4 + 2, none⟩) (Nat.le_refl _) (.int .u64 (va i))).setCell (p := ⟨w.heap.size, i * 4 + 3, none⟩) (Nat.le_refl _) (.slice (A i) (L i) (C i))
      have hb4 := setCell_blk (setCell_blk (setCell_blk (setCell_blk hblk (i * 4) (.bool (pu i))) (i * 4 + 1) (.int .u64 (se i))) (i * 4 + 2) (.int .u64 (va i))) (i * 4 + 3) (.slice (A i) (L i) (C i))
      have HW4 := hide hW4
      have Hb4 := hide hb4
      have hlt4 := (Array.getElem?_eq_some_iff.1 hb4).1
      have HL4 := hide hlt4
      clear hW4 hb4 hlt4
      go_wp2_with (first | (go_at_call 40; refine (cloneBytesB _ _ _ _ ((hB i (by omega)).below HW4.out) (hL i (by omega))).mono ?_; rintro e w2 ⟨a2, rfl, hF2, hw2⟩; have hb5 := (hw2.block _ HL4.out).trans Hb4.out; have e3 := (cell_of hb5 (i * 4 + 3)).trans (Array.getElem?_eq_getElem (by simp [hcs]; omega)); have f5 := free_of hb5 (i * 4 + 3)))
      go_roundw
      case rel =>
        refine ⟨i + 1, _, _, by go_num, by omega, setCell_blk hb5 _ _, by simpa using hcs, HS.out.next (by omega) hcs _ a2, fun l hl => ?_, ?_⟩
        · by_cases e : l = i
          · subst e
            rw [if_pos rfl]
            exact hF2.keep HL4.out (by simp [World.setCell]) (fun j hj hj2 => Below.heap_setCell _ _ _ _ (by have := HL4.out; show j ≠ w.heap.size; omega))
          · rw [if_neg e]
            refine (hF l (by omega)).keep (Nat.le_refl _) ?_ (fun j hj hj2 => ?_)
            · exact Nat.le_trans (Nat.le_trans (by simp [World.setCell]) hw2.size) (by simp [World.setCell])
            · rw [Below.heap_setCell _ _ _ _ (show j ≠ w.heap.size by omega), hw2.block j (by simpa [World.setCell] using hj2), Below.heap_setCell _ _ _ _ (show j ≠ w.heap.size by omega), Below.heap_setCell _ _ _ _ (show j ≠ w.heap.size by omega), Below.heap_setCell _ _ _ _ (show j ≠ w.heap.size by omega), Below.heap_setCell _ _ _ _ (show j ≠ w.heap.size by omega)]
        exact (HW4.out.trans (hw2.mono (Nat.le_of_lt HL4.out))).setCell (p := ⟨w.heap.size, i * 4 + 3, none⟩) (Nat.le_refl _) _
      case measure => simp [intOf]; omega
    · go_wp2
      go_ret
      obtain rfl : n = i := by omega
      exact ⟨_, A', rfl, fun _ => ⟨rfl, (Array.getElem?_eq_some_iff.1 hblk).1⟩, hS.at hblk, hF, hW⟩
end Go.Proofs.Qxb6600769a.Ses
