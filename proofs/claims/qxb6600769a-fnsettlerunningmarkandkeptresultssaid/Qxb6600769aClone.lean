import Derived.Test.Qxb6600769aSteps
namespace Go.Proofs.Qxb6600769a.Ses
open Go.RowKit Go.Maps
set_option linter.unusedVariables false

/-- The bytes of a slice lie in memory. -/
def BytesIn (w : World) (A : Option Addr) (L C : Nat) : Prop := (A = none ∧ L = 0 ∧ C = 0) ∨ ∃ a, A = some a ∧ (0 < L → ∃ b o, a = ⟨b, o, none⟩ ∧ b < w.heap.size ∧ ∀ i, i < L → ∃ v, w.cell? ⟨b, o + i, none⟩ = some (.int .u8 v))

theorem cells5 : Try.prog.cellsOf 5 = 1 := by kernel_rfl
def zeros (n : Nat) : Array Value := madeCells #[.int .u8 0] n
theorem info5 : (Try.prog.info? 5).map (fun i => (i.zero, i.size, i.bytes)) = some (some (.int .u8 0), 1, 1) := by kernel_rfl
theorem run_zeros (n : Nat) (h : n ≤ 1000000000) (w : World) :
    (Instr.makeSlice 46 (.int .i64 (n : Int)) (.int .i64 (n : Int))).run Try.prog w = .ok (.slice (some ⟨w.heap.size, 0, none⟩) n n) (w.alloc (.cells (zeros n) 5)) := by
  obtain ⟨i0, hi, hz0, hz1, hz2⟩ := info_parts info5
  have hr := run_make (P := Try.prog) w 46 5 i0 (.int .u8 0) Try.underlying46 hi hz0 .i64 .i64 (n : Int) (n : Int) (by omega) (by omega) (by rw [hz2]; omega) (by omega)
  rw [hr, hz1, Int.toNat_natCast, Nat.mul_one]
  rfl
abbrev step0 : Value := .agg #[.bool false, .int .u64 0, .int .u64 0, .slice none 0 0]
def zeros4 (n : Nat) : Array Value := madeCells step0.cells (n * 4)
theorem info48 : (Try.prog.info? 48).map (fun i => (i.zero, i.size, i.bytes)) = some (some step0, 4, 48) := by kernel_rfl
theorem run_zeros4 (n : Nat) (h : n ≤ 1000000000) (w : World) :
    (Instr.makeSlice 38 (.int .i64 (n : Int)) (.int .i64 (n : Int))).run Try.prog w = .ok (.slice (some ⟨w.heap.size, 0, none⟩) n n) (w.alloc (.cells (zeros4 n) 48)) := by
  obtain ⟨i0, hi, hz0, hz1, hz2⟩ := info_parts info48
  have hr := run_make (P := Try.prog) w 38 48 i0 step0 Try.underlying38 hi hz0 .i64 .i64 (n : Int) (n : Int) (by omega) (by omega) (by rw [hz2]; omega) (by omega)
  rw [hr, hz1, Int.toNat_natCast]
  rfl

/-- A slice of L bytes comes back, in new memory. -/
def BytesOut (w : World) (L : Nat) (e : Ending) (w' : World) : Prop := ∃ A', e = .returned (.slice A' L L) ∧ Below w.heap.size w w'

set_option maxRecDepth 100000 in
set_option maxHeartbeats 1000000 in
theorem cloneBytes (w : World) (A : Option Addr) (L c : Nat) (h : BytesIn w A L c) (hL : L ≤ 1048576) :
    Calls Try.prog 40 #[.slice A L c] w (BytesOut w L) := by
  have hcells := cells5
  have hnil : ∀ W a n c, (binOp .eql 46 (.slice a n c) (.slice none 0 0)).run Try.prog W = _ := fun W a n c => Lib.run_eql_slice_nil W 46 5 a n c 0 0 Try.underlying46
  go_enter Try.func40, Try.ntmps40
  rcases h with ⟨rfl, rfl, rfl⟩ | ⟨a, rfl, hex⟩
  · go_wp2
    go_ret
    exact ⟨none, rfl, Below.refl _ _⟩
  · have hz := run_zeros L (by omega) w
    go_wp2
    go_loopw [4] (fun j wr => ∃ (i : Nat) (cs : Array Value), j = Value.int .i64 (i : Int) ∧ i ≤ L ∧ wr = w.alloc (.cells cs 5) ∧ cs.size = L) (fun j _ => L - (intOf j).toNat)
    case atStart => exact ⟨0, _, rfl, by omega, rfl, size_madeCells _ _⟩
    case round =>
      obtain ⟨i, cs, rfl, hi, rfl, hcs⟩ := hrel
      by_cases hin : (i : Int) < L
      · obtain ⟨b, o, rfl, hbl, hb⟩ := hex (by omega)
        obtain ⟨v, hv⟩ := hb i (by omega)
        have hv' : (w.alloc (.cells cs 5)).cell? ⟨b, o + i, none⟩ = some (.int .u8 v) := (World.cell?_alloc_past _ _ _ hbl).trans hv
        have hci : cs[i]? = some cs[i] := Array.getElem?_eq_getElem (by omega)
        go_wp2
        go_roundw
        case rel => exact ⟨i + 1, _, by go_num, by omega, by first | trivial | rfl, by simpa using hcs⟩
        case measure => simp [intOf]; omega
      · go_wp2
        go_ret
        exact ⟨_, rfl, (Below.refl _ _).alloc (Nat.le_refl _) _⟩

/-- The same, of the block's cells. -/
structure StepsArr (cs : Array Value) (n : Nat) (pu : Nat → Bool) (se va : Nat → Int) (A : Nat → Option Addr) (L C : Nat → Nat) : Prop where
  c0 : ∀ i, i < n → cs[i * 4]? = some (.bool (pu i))
  c1 : ∀ i, i < n → cs[i * 4 + 1]? = some (.int .u64 (se i))
  c2 : ∀ i, i < n → cs[i * 4 + 2]? = some (.int .u64 (va i))
  c3 : ∀ i, i < n → cs[i * 4 + 3]? = some (.slice (A i) (L i) (C i))

theorem StepsArr.at {w : World} {b n : Nat} {cs : Array Value} {t : TypeId} {fr : Nat × Nat} {pu : Nat → Bool} {se va : Nat → Int} {A : Nat → Option Addr} {L C : Nat → Nat} (h : StepsArr cs n pu se va A L C) (hb : w.heap[b]? = some (.cells cs t fr)) : StepsIn w b 0 n pu se va A L C := by
  refine ⟨fun i hi => ?_, fun i hi => ?_, fun i hi => ?_, fun i hi => ?_⟩ <;> rw [Nat.zero_add, cell_of hb]
  · exact h.c0 i hi
  · exact h.c1 i hi
  · exact h.c2 i hi
  · exact h.c3 i hi

theorem StepsArr.next {cs : Array Value} {n i : Nat} {pu : Nat → Bool} {se va : Nat → Int} {A : Nat → Option Addr} {L : Nat → Nat} (h : StepsArr cs i pu se va A L L) (hi : i < n) (hcs : cs.size = n * 4) (v : Value) (a : Option Addr) :
    StepsArr (((((cs.setIfInBounds (i * 4) (.bool (pu i))).setIfInBounds (i * 4 + 1) (.int .u64 (se i))).setIfInBounds (i * 4 + 2) (.int .u64 (va i))).setIfInBounds (i * 4 + 3) v).setIfInBounds (i * 4 + 3) (.slice a (L i) (L i))) (i + 1) pu se va (fun j => if j = i then a else A j) L L := by
  refine ⟨fun j hj => ?_, fun j hj => ?_, fun j hj => ?_, fun j hj => ?_⟩
  all_goals
    simp only [Array.getElem?_setIfInBounds, Array.size_setIfInBounds, hcs]
    by_cases e : j = i
    · subst e
      simp (disch := omega) only [if_pos, if_neg]
      try rfl
    · have hj' : j < i := by omega
      simp (disch := omega) only [if_neg]
      first | exact h.c0 j hj' | exact h.c1 j hj' | exact h.c2 j hj' | exact h.c3 j hj'

theorem BytesIn.below {w w' : World} {A : Option Addr} {L C : Nat} (h : BytesIn w A L C) (hB : Below w.heap.size w w') : BytesIn w' A L C := by
  rcases h with h | ⟨a, e, hex⟩
  · exact .inl h
  · refine .inr ⟨a, e, fun h0 => ?_⟩
    obtain ⟨b, o, e, hb, hc⟩ := hex h0
    refine ⟨b, o, e, Nat.lt_of_lt_of_le hb hB.size, fun i hi => ?_⟩
    obtain ⟨v, hv⟩ := hc i hi
    exact ⟨v, by rw [← hv]; simp [World.cell?, hB.block b hb]⟩

/-- The argument: nil, or n steps in memory. -/
def ArgSteps (w : World) (oa : Option Addr) (n c : Nat) (pu : Nat → Bool) (se va : Nat → Int) (A : Nat → Option Addr) (L C : Nat → Nat) : Prop :=
  ((oa = none ∧ n = 0 ∧ c = 0) ∨ ∃ a, oa = some a ∧ (0 < n → ∃ b o, a = ⟨b, o, none⟩ ∧ b < w.heap.size ∧ StepsIn w b o n pu se va A L C)) ∧ ∀ i, i < n → BytesIn w (A i) (L i) (C i)

theorem StepsIn.none (w : World) (b o : Nat) (pu : Nat → Bool) (se va : Nat → Int) (A : Nat → Option Addr) (L C : Nat → Nat) : StepsIn w b o 0 pu se va A L C :=
  ⟨fun i hi => by omega, fun i hi => by omega, fun i hi => by omega, fun i hi => by omega⟩

theorem ArgSteps.in {w : World} {oa : Option Addr} {n c : Nat} {pu : Nat → Bool} {se va : Nat → Int} {A : Nat → Option Addr} {L C : Nat → Nat} (h : ArgSteps w oa n c pu se va A L C) : ∃ b o, (0 < n → oa = some ⟨b, o, Option.none⟩) ∧ StepsIn w b o n pu se va A L C := by
  rcases h.1 with ⟨_, rfl, _⟩ | ⟨a, e, hex⟩
  · exact ⟨0, 0, fun h => by omega, StepsIn.none ..⟩
  · by_cases h0 : 0 < n
    · obtain ⟨b, o, rfl, _, hS⟩ := hex h0
      exact ⟨b, o, fun _ => e, hS⟩
    · obtain rfl : n = 0 := by omega
      exact ⟨0, 0, fun h => by omega, StepsIn.none ..⟩

def CloneOut (w : World) (n : Nat) (pu : Nat → Bool) (se va : Nat → Int) (L : Nat → Nat) (e : Ending) (w' : World) : Prop :=
  ∃ oa' A', e = .returned (.slice oa' n n) ∧ (0 < n → oa' = some ⟨w.heap.size, 0, none⟩ ∧ w.heap.size < w'.heap.size) ∧ StepsIn w' w.heap.size 0 n pu se va A' L L ∧ Below w.heap.size w w'

set_option maxRecDepth 100000 in
set_option maxHeartbeats 1000000 in
theorem cloneSteps (w : World) (n c : Nat) (oa : Option Addr) (pu : Nat → Bool) (se va : Nat → Int) (A : Nat → Option Addr) (L C : Nat → Nat) (ha : ArgSteps w oa n c pu se va A L C) (hn : n ≤ 4096) (hL : ∀ i, i < n → L i ≤ 1048576) :
    Calls Try.prog 20 #[.slice oa n c] w (CloneOut w n pu se va L) := by
  have hcells := cells48
  have hnil : ∀ W a n c, (binOp .eql 38 (.slice a n c) (.slice none 0 0)).run Try.prog W = _ := fun W a n c => Lib.run_eql_slice_nil W 38 48 a n c 0 0 Try.underlying38
  have hz := run_zeros4 n (by omega) w
  obtain ⟨⟨rfl, rfl, rfl⟩ | ⟨a, rfl, hex⟩, hB⟩ := ha
  · go_enter Try.func20, Try.ntmps20
    go_wp2
    go_ret
    exact ⟨none, A, rfl, fun h => (by omega), StepsIn.none .., Below.refl _ _⟩
  go_enter Try.func20, Try.ntmps20
  go_wp2
  go_loopw [4] (fun j wr => ∃ (i : Nat) (cs : Array Value) (A' : Nat → Option Addr), j = Value.int .i64 (i : Int) ∧ i ≤ n ∧ wr.heap[w.heap.size]? = some (.cells cs 48 (0, 0)) ∧ cs.size = n * 4 ∧ StepsArr cs i pu se va A' L L ∧ Below w.heap.size w wr) (fun j _ => n - (intOf j).toNat)
  case atStart =>
    refine ⟨0, zeros4 n, fun _ => none, rfl, by omega, heap_new _ _, size_madeCells _ _, ⟨fun i hi => ?_, fun i hi => ?_, fun i hi => ?_, fun i hi => ?_⟩, (Below.refl _ _).alloc (Nat.le_refl _) _⟩ <;> omega
  case round =>
    obtain ⟨i, cs, A', rfl, hi, hblk, hcs, hS, hW⟩ := hrel
    by_cases hin : (i : Int) < n
    · obtain ⟨b, o, rfl, hbl, h⟩ := hex (by omega)
      have hsb := h.of_block (hW.block _ hbl)
      have s0 := hsb.c0 i (by omega)
      have s1 := hsb.c1 i (by omega)
      have s2 := hsb.c2 i (by omega)
      have s3 := hsb.c3 i (by omega)
      have d0 : wr.cell? ⟨w.heap.size, i * 4, none⟩ = some cs[i * 4] := (cell_of hblk _).trans (Array.getElem?_eq_getElem (by omega))
      have d1 : wr.cell? ⟨w.heap.size, i * 4 + 1, none⟩ = some cs[i * 4 + 1] := (cell_of hblk _).trans (Array.getElem?_eq_getElem (by omega))
      have d2 : wr.cell? ⟨w.heap.size, i * 4 + 2, none⟩ = some cs[i * 4 + 2] := (cell_of hblk _).trans (Array.getElem?_eq_getElem (by omega))
      have d3 : wr.cell? ⟨w.heap.size, i * 4 + 3, none⟩ = some cs[i * 4 + 3] := (cell_of hblk _).trans (Array.getElem?_eq_getElem (by omega))
      have f0 := free_of hblk (i * 4)
      have f1 := free_of hblk (i * 4 + 1)
      have f2 := free_of hblk (i * 4 + 2)
      have f3 := free_of hblk (i * 4 + 3)
      have HS := hide hS
      clear hS hsb
      have hW4 := (((hW.setCell (p := ⟨w.heap.size, i * 4, none⟩) (Nat.le_refl _) (.bool (pu i))).setCell (p := ⟨w.heap.size, i * 4 + 1, none⟩) (Nat.le_refl _) (.int .u64 (se i))).setCell (p := ⟨w.heap.size, i * 4 + 2, none⟩) (Nat.le_refl _) (.int .u64 (va i))).setCell (p := ⟨w.heap.size, i * 4 + 3, none⟩) (Nat.le_refl _) (.slice (A i) (L i) (C i))
      have hb4 := setCell_blk (setCell_blk (setCell_blk (setCell_blk hblk (i * 4) (.bool (pu i))) (i * 4 + 1) (.int .u64 (se i))) (i * 4 + 2) (.int .u64 (va i))) (i * 4 + 3) (.slice (A i) (L i) (C i))
      have HW4 := hide hW4
      have Hb4 := hide hb4
      have hlt4 := (Array.getElem?_eq_some_iff.1 hb4).1
      have HL4 := hide hlt4
      clear hW4 hb4 hlt4
      go_wp2_with (first | (go_at_call 40; refine (cloneBytes _ _ _ _ ((hB i (by omega)).below HW4.out) (hL i (by omega))).mono ?_; rintro e w2 ⟨a2, rfl, hw2⟩; have hb5 := (hw2.block _ HL4.out).trans Hb4.out; have e3 := (cell_of hb5 (i * 4 + 3)).trans (Array.getElem?_eq_getElem (by simp [hcs]; omega)); have f5 := free_of hb5 (i * 4 + 3)))
      go_roundw
      case rel =>
        refine ⟨i + 1, _, _, by go_num, by omega, setCell_blk hb5 _ _, by simpa using hcs, HS.out.next (by omega) hcs _ a2, ?_⟩
        exact (HW4.out.trans (hw2.mono (Nat.le_of_lt HL4.out))).setCell (p := ⟨w.heap.size, i * 4 + 3, none⟩) (Nat.le_refl _) _
      case measure => simp [intOf]; omega
    · go_wp2
      go_ret
      obtain rfl : n = i := by omega
      exact ⟨_, A', rfl, fun _ => ⟨rfl, (Array.getElem?_eq_some_iff.1 hblk).1⟩, hS.at hblk, hW⟩
end Go.Proofs.Qxb6600769a.Ses
