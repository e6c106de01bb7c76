import Derived.Test.Qxb6600769aClone
import Derived.Deep.RegionWith
import Derived.Lib.Builder
namespace Go.Proofs.Qxb6600769a.Ses
open Go.RowKit Go.Maps
set_option linter.unusedVariables false

def TrueOut (w : World) (e : Ending) (w' : World) : Prop := e = .returned (.bool true) ∧ Below w.heap.size w w'

theorem Inv.own_ge {w : World} {tb N : Nat} {T : DataW Value} {S : Int → Option Sess} (h : Inv w tb N T S) {i : Nat} (hi : Own tb S i) : tb ≤ i := by
  rcases hi with rfl | ⟨k, s, hk, rfl | rfl⟩
  · exact Nat.le_refl _
  · exact (h.low k s hk).1
  · exact (h.low k s hk).2

/-- A block that no session owns. -/
structure Held (w : World) (tb : Nat) (S : Int → Option Sess) (b : Nat) (o : Obj) : Prop where
  blk : w.heap[b]? = some o
  free : ¬ Own tb S b
theorem Held.lt {w : World} {tb : Nat} {S : Int → Option Sess} {b : Nat} {o : Obj} (h : Held w tb S b o) : b < w.heap.size := (Array.getElem?_eq_some_iff.1 h.blk).1
theorem Held.alloc {w : World} {tb : Nat} {S : Int → Option Sess} {b : Nat} {o : Obj} (h : Held w tb S b o) (o' : Obj) : Held (w.alloc o') tb S b o := ⟨(Below.heap_alloc w o' b h.lt).trans h.blk, h.free⟩
theorem Held.new {w : World} {tb N : Nat} {T : DataW Value} {S : Int → Option Sess} (h : Inv w tb N T S) (o : Obj) : Held (w.alloc o) tb S w.heap.size o := ⟨heap_new w o, fun ho => by have := h.own_lt ho; omega⟩
theorem Held.settle {w w' : World} {tb : Nat} {S S' : Int → Option Sess} {b : Nat} {o : Obj} (h : Held w tb S b o) (hK : Keep (Own tb S) w w') (hO : ∀ i, i < w.heap.size → Own tb S' i → Own tb S i) : Held w' tb S' b o :=
  ⟨(hK.block b h.lt h.free).trans h.blk, fun ho => h.free (hO b h.lt ho)⟩

def bools (n : Nat) : Array Value := madeCells #[.bool false] n
theorem info4 : (Try.prog.info? 4).map (fun i => (i.zero, i.size, i.bytes)) = some (some (.bool false), 1, 1) := by kernel_rfl
theorem cells4 : Try.prog.cellsOf 4 = 1 := by kernel_rfl
theorem run_bools (n : Nat) (h : n ≤ 1000000000) (w : World) :
    (Instr.makeSlice 67 (.int .i64 (n : Int)) (.int .i64 (n : Int))).run Try.prog w = .ok (.slice (some ⟨w.heap.size, 0, none⟩) n n) (w.alloc (.cells (bools n) 4)) := by
  obtain ⟨i0, hi, hz0, hz1, hz2⟩ := info_parts info4
  have hr := run_make (P := Try.prog) w 67 4 i0 (.bool false) Try.underlying67 hi hz0 .i64 .i64 (n : Int) (n : Int) (by omega) (by omega) (by rw [hz2]; omega) (by omega)
  rw [hr, hz1, Int.toNat_natCast, Nat.mul_one]
  rfl

theorem has82 : (Try.prog.info? 82).isSome = true := by kernel_rfl
theorem neq_same (W : World) (a : Addr) : (binOp .neq 51 (.pointer (some a)) (.pointer (some a))).run Try.prog W = .ok (.bool false) W := by
  obtain ⟨j, hj⟩ := Option.isSome_iff_exists.1 has82
  exact Lib.run_neq_ptr_same W a Try.underlying51 hj
theorem After.low {s s' : Sess} {m : Int} (h : After (some s) m s') (hm : m ≤ s.mark) : s' = s := by
  rcases h.2 with ⟨_, e⟩ | ⟨hl, _⟩
  · exact e
  · omega
theorem After.mark {s s' : Sess} {m : Int} (h : After (some s) m s') : s'.mark = max s.mark m := by
  rcases h.2 with ⟨hl, e⟩ | ⟨hl, e, _⟩
  · rw [e]; omega
  · rw [e]; omega

set_option maxRecDepth 100000 in
set_option maxHeartbeats 2000000 in
theorem main9 (w : World) (n c : Nat) (oa : Option Addr) (pu : Nat → Bool) (se va : Nat → Int) (A : Nat → Option Addr) (L C : Nat → Nat) (k m k2 : Int) (ha : ArgSteps w oa n c pu se va A L C)
    (hU : ∀ i, i < n → U64 (se i) ∧ U64 (va i)) (hk : U64 k) (hm : U64 m) (hk2 : U64 k2) (hn : n ≤ maxLen) (hL : ∀ i, i < n → L i ≤ maxLen) :
    Calls Try.prog 9 #[.slice oa n c, .int .u64 k, .int .u64 m, .int .u64 k2] w (TrueOut w) := by
  obtain ⟨b, o, hoa, hS⟩ := ha.in
  have c29 := bytes9 w b o n c oa k m k2 pu se va A L C hoa hS hn hL
  have c19 := stepsFit w b o n c oa pu se va A L C hoa hS hL
  have Ha := hide ha
  have HU := hide hU
  clear ha hoa hS hU
  go_enter Try.func9, Try.ntmps9
  go_wp2_with fail
  refine c29.mono ?_
  rintro e w1 ⟨r, rfl, _, rfl⟩
  cases r
  · go_wp2
    go_ret
    exact ⟨rfl, Below.refl _ _⟩
  go_wp2_with fail
  refine c19.mono ?_
  rintro e w1 ⟨r, rfl, hr, rfl⟩
  cases r
  · go_wp2
    go_ret
    exact ⟨rfl, Below.refl _ _⟩
  obtain ⟨hn4, hL4⟩ := hr rfl
  by_cases hkk : k = k2
  · go_wp2
    go_ret
    exact ⟨rfl, Below.refl _ _⟩
  clear c29 c19 hr
  go_wp2_with fail
  refine (cloneSteps w1 n c oa pu se va A L C Ha.out hn4 hL4).mono ?_
  rintro e w2 ⟨oa', A', rfl, hoa', hS', hB'⟩
  go_wp2_with fail
  refine (newSessions w2).mono ?_
  rintro e w3 ⟨rfl, rfl, hI0⟩
  have hkb : (k == k2) = false := by simpa using hkk
  have hcells := cells48
  have HI0 := hide hI0
  have HS' := hide hS'
  have HB' := hide hB'
  have Hoa' := hide hoa'
  clear hI0 hS' hB' hoa' hL4 hL Ha
  go_wp2_with fail
  try simp only [hkb]
  clear hkb
  have hob : ∀ i, i < n → ∀ W, Below w2.heap.size w2 W → oa' = some ⟨w1.heap.size, 0, none⟩ ∧ StepsIn W w1.heap.size 0 n pu se va A' L L := fun i hi W hW => ⟨(Hoa'.out (by omega)).1, HS'.out.of_block (hW.block _ (Hoa'.out (by omega)).2)⟩
  have Hob := hide hob
  clear hob
  go_loopw [10] (fun j wr => ∃ (i N : Nat) (T : DataW Value) (S : Int → Option Sess), j = Value.int .i64 (i : Int) ∧ i ≤ n ∧ N ≤ 2 * i ∧ Inv wr w2.heap.size N T S ∧ Below w2.heap.size w2 wr) (fun j _ => n - (intOf j).toNat)
  case atStart => exact ⟨0, 0, _, _, rfl, by omega, by omega, HI0.out, (Below.refl _ _).alloc (Nat.le_refl _) _⟩
  case round =>
    obtain ⟨i, N, T, S, rfl, hi, hN, hI, hB⟩ := hrel
    by_cases hin : (i : Int) < n
    · obtain ⟨rfl, hSt⟩ := Hob.out i (by omega) wr hB
      have s0 := hSt.c0 i (by omega)
      have s1 := hSt.c1 i (by omega)
      have s2 := hSt.c2 i (by omega)
      simp only [Nat.zero_add] at s0 s1 s2
      have hlt : w1.heap.size < wr.heap.size := Nat.lt_of_lt_of_le (Hoa'.out (by omega)).2 hB.size
      obtain ⟨hse, hva⟩ := HU.out i (by omega)
      have HI := hide hI
      have HB := hide hB
      clear hI hB hSt
      cases hpu : pu i
      · rw [hpu] at s0
        go_wp2_with fail
        refine (zsettle (wr.alloc (cmdCells (se i) (va i))) w2.heap.size N T S (se i) (va i) (HI.out.alloc _) hse hva (by omega)).mono ?_
        rintro e w4 ⟨s', T', rfl, hAf, hI4, hK4, hO4⟩
        have hB4 := (HB.out.alloc HB.out.size (cmdCells (se i) (va i))).trans (hK4.below (B := w2.heap.size) (by simp; have := HB.out.size; omega) (fun i hi => HI.out.own_ge hi))
        have t0 := (Hob.out i (by omega) w4 hB4).2.c0 i (by omega)
        rw [hpu, Nat.zero_add] at t0
        go_wp2
        go_roundw
        case rel => exact ⟨i + 1, N + 1, T', _, by go_num, by omega, by omega, hI4, hB4⟩
        case measure => simp [intOf]; omega
      · rw [hpu] at s0
        go_wp2_with fail
        refine (zsettle (wr.alloc (cmdCells (se i) 0)) w2.heap.size N T S (se i) 0 (HI.out.alloc _) hse U64.zero (by omega)).mono ?_
        rintro e w4 ⟨s', T', rfl, hAf, hI4, hK4, hO4⟩
        have hB4 := (HB.out.alloc HB.out.size (cmdCells (se i) 0)).trans (hK4.below (B := w2.heap.size) (by simp; have := HB.out.size; omega) (fun i hi => HI.out.own_ge hi))
        have hS4 := (Hob.out i (by omega) w4 hB4).2
        have t0 := hS4.c0 i (by omega)
        have t2 := hS4.c2 i (by omega)
        have t3 := hS4.c3 i (by omega)
        rw [hpu] at t0
        simp only [Nat.zero_add] at t0 t2 t3
        clear hS4
        have HI4 := hide hI4
        have HB4 := hide hB4
        clear hI4 hB4 hK4 hO4 hAf
        go_wp2_with fail
        have hI4d : Inv w4.drew w2.heap.size (N + 1) T' (upd S (se i) s') := HI4.out.kept (fun _ _ => rfl)
        have Hz := hide (zput w4.drew w2.heap.size (N + 1) T' (upd S (se i) s') (se i) (va i) (.slice (A' i) (L i) (L i)) s' hI4d (upd_same _ _ _) hva (by omega))
        clear hI4d
        go_region_with (go_at_call 25; refine Hz.out.mono ?_; rintro e w5 ⟨rfl, hI5, hK5⟩)
        all_goals
          have hB5 := HB4.out.drew.trans (hK5.below (B := w2.heap.size) HB4.out.size (fun i hi => HI4.out.own_ge hi))
          have HI5 := hide hI5
          have HB5 := hide hB5
          clear hI5 hB5 hK5
          go_wp2
          go_roundw
          case rel => exact ⟨i + 1, N + 2, T', _, by go_num, by omega, by omega, HI5.out, HB5.out⟩
          case measure => simp [intOf]; omega
    · obtain rfl : n = i := by omega
      have HI := hide hI
      have HB := hide hB
      clear hI hB
      go_wp2_with fail
      refine (zsettle (wr.alloc (cmdCells k2 0)) w2.heap.size N T S k2 0 (HI.out.alloc _) hk2 U64.zero (by omega)).mono ?_
      rintro e w4 ⟨so, T4, rfl, hAf4, hI4, hK4, hO4⟩
      have hB4 := (HB.out.alloc HB.out.size (cmdCells k2 0)).trans (hK4.below (B := w2.heap.size) (by simp; have := HB.out.size; omega) (fun i hi => HI.out.own_ge hi))
      have hH4 := (Held.new HI.out (cmdCells k2 0)).settle hK4 hO4
      have c30 := zsettled w4 _ so (hI4.sess k2 so (upd_same _ _ _))
      have c31 := zheld w4 _ so (hI4.sess k2 so (upd_same _ _ _))
      have HI4 := hide hI4
      have HB4 := hide hB4
      have HH4 := hide hH4
      clear hI4 hB4 hK4 hO4 hAf4 hH4
      go_wp2_with fail
      refine c30.mono ?_
      rintro e w5 ⟨rfl, rfl⟩
      go_wp2_with fail
      refine c31.mono ?_
      rintro e w6 ⟨rfl, rfl⟩
      have hz := run_bools n (by omega) w6
      clear c30 c31
      go_wp2_with fail
      go_loopw [18] (fun j wr => ∃ (i : Nat) (cs : Array Value), j = Value.int .i64 (i : Int) ∧ i ≤ n ∧ wr = w6.alloc (.cells cs 4) ∧ cs.size = n ∧ ∀ l, l < i → pu l = true → se l = k2 → cs[l]? = some (.bool (Maps.has so.res (.int .u64 (va l))))) (fun j _ => n - (intOf j).toNat)
      case atStart => exact ⟨0, _, rfl, by omega, rfl, size_madeCells _ _, fun l hl => by omega⟩
      case round =>
        obtain ⟨i, cs, rfl, hi, rfl, hcs, hall⟩ := hrel
        by_cases hin : (i : Int) < n
        · have hB5 := HB4.out.alloc HB4.out.size (.cells cs 4)
          obtain ⟨rfl, hSt⟩ := Hob.out i (by omega) _ hB5
          have s0 := hSt.c0 i (by omega)
          have s1 := hSt.c1 i (by omega)
          have s2 := hSt.c2 i (by omega)
          have hlt : w1.heap.size < w6.heap.size := Nat.lt_of_lt_of_le (Hoa'.out (by omega)).2 HB4.out.size
          rw [World.cell?_alloc_past _ _ _ hlt] at s0 s1 s2
          simp only [Nat.zero_add] at s0 s1 s2
          obtain ⟨hse, hva⟩ := HU.out i (by omega)
          have c32 := zresult (w6.alloc (.cells cs 4)) _ so (va i) ((HI4.out.alloc _).sess k2 so (upd_same _ _ _)) hva
          have hci : cs[i]? = some cs[i] := Array.getElem?_eq_getElem (by omega)
          have hc4 := cells4
          clear hSt hB5
          have Hall := hide hall
          clear hall
          cases hpu : pu i
          · rw [hpu] at s0
            go_wp2
            go_roundw
            case rel => exact ⟨i + 1, cs, by go_num, by omega, by first | trivial | rfl, hcs, fun l hl h1 h2 => (by
              by_cases e : l = i
              · rw [e, hpu] at h1; cases h1
              · exact Hall.out l (by omega) h1 h2)⟩
            case measure => simp [intOf]; omega
          · rw [hpu] at s0
            by_cases hsk : se i = k2
            · have hsk' : (se i == k2) = true := by simpa using hsk
              go_wp2_with fail
              refine c32.mono ?_
              rintro e w7 ⟨v, rfl, rfl, _⟩
              go_wp2
              go_roundw
              case rel => exact ⟨i + 1, _, by go_num, by omega, by first | trivial | rfl, by simpa using hcs, fun l hl h1 h2 => (by
                by_cases e : l = i
                · subst e; rw [Array.getElem?_setIfInBounds_self_of_lt (by omega)]
                · rw [Array.getElem?_setIfInBounds_ne (fun h => e h.symm)]; exact Hall.out l (by omega) h1 h2)⟩
              case measure => simp [intOf]; omega
            · have hsk' : (se i == k2) = false := by simpa using hsk
              go_wp2
              go_roundw
              case rel => exact ⟨i + 1, cs, by go_num, by omega, by first | trivial | rfl, hcs, fun l hl h1 h2 => (by
                by_cases e : l = i
                · rw [e] at h2; exact absurd h2 hsk
                · exact Hall.out l (by omega) h1 h2)⟩
              case measure => simp [intOf]; omega
        · obtain rfl : n = i := by omega
          have HA := hide hall
          clear hall
          refine gen_wp (fun W => Inv W w2.heap.size (N + 1) T4 (upd S k2 so) ∧ Held W w2.heap.size (upd S k2 so) w6.heap.size (.cells cs 4) ∧ Held W w2.heap.size (upd S k2 so) _ (cmdCells k2 0) ∧ Below w2.heap.size w2 W) ⟨HI4.out.alloc _, Held.new HI4.out _, HH4.out.alloc _, HB4.out.alloc HB4.out.size _⟩ ?_
          rintro W ⟨hI6, hHk, hHp, hB6⟩
          have HI6 := hide hI6
          have HB6 := hide hB6
          have HHk6 := hide hHk
          have HHp6 := hide hHp
          clear hI6 hB6 hHk hHp hz HH4
          go_wp2_with fail
          refine (zsettle (W.alloc (cmdCells k 0)) w2.heap.size (N + 1) T4 (upd S k2 so) k 0 (HI6.out.alloc _) hk U64.zero (by omega)).mono ?_
          rintro e w7 ⟨s7, T7, rfl, hAf7, hI7, hK7, hO7⟩
          have hB7 := (HB6.out.alloc HB6.out.size (cmdCells k 0)).trans (hK7.below (B := w2.heap.size) (by simp; have := HB6.out.size; omega) (fun i hi => HI6.out.own_ge hi))
          have c30 := zsettled w7 _ s7 (hI7.sess k s7 (upd_same _ _ _))
          have HI7 := hide hI7
          have HB7 := hide hB7
          have HHk7 := hide ((HHk6.out.alloc (cmdCells k 0)).settle hK7 hO7)
          have HHp7 := hide ((HHp6.out.alloc (cmdCells k 0)).settle hK7 hO7)
          clear hI7 hB7 hK7 hO7 hAf7 HI6 HB6 HHk6 HHp6
          go_wp2_with fail
          refine c30.mono ?_
          rintro e w8 ⟨rfl, rfl⟩
          clear c30
          go_wp2_with fail
          refine (zsettle (w8.alloc (cmdCells k m)) w2.heap.size (N + 2) T7 _ k m (HI7.out.alloc _) hk hm (by omega)).mono ?_
          rintro e w9 ⟨s9, T9, rfl, hAf9, hI9, hK9, hO9⟩
          rw [upd_same] at hAf9
          have hmk := hAf9.mark
          have hB9 := (HB7.out.alloc HB7.out.size (cmdCells k m)).trans (hK9.below (B := w2.heap.size) (by simp; have := HB7.out.size; omega) (fun i hi => HI7.out.own_ge hi))
          have c30 := zsettled w9 _ s9 (hI9.sess k s9 (upd_same _ _ _))
          have c31 := zheld w9 _ s9 (hI9.sess k s9 (upd_same _ _ _))
          have HI9 := hide hI9
          have HB9 := hide hB9
          have HHk9 := hide ((HHk7.out.alloc (cmdCells k m)).settle hK9 hO9)
          have HHp9 := hide ((HHp7.out.alloc (cmdCells k m)).settle hK9 hO9)
          have HHc9 := hide ((Held.new HI7.out (cmdCells k m)).settle hK9 hO9)
          clear hI9 hB9 hK9 hO9 hAf9 HI7 HB7 HHk7 HHp7
          go_wp2_with fail
          refine c30.mono ?_
          rintro e w10 ⟨rfl, rfl⟩
          go_wp2_with fail
          refine c31.mono ?_
          rintro e w11 ⟨rfl, rfl⟩
          go_wp2_with fail
          refine (maxU64 w11 s7.mark m).mono ?_
          rintro e w12 ⟨rfl, rfl⟩
          rw [← hmk]
          have Hmk := hide hmk
          clear c30 c31 hmk
          have hpp := neq_same
          have x0 : w12.cell? ⟨w8.heap.size, 0, none⟩ = some (.int .u64 0) := cell_of HHc9.out.blk 0
          have x1 : w12.cell? ⟨w8.heap.size, 1, none⟩ = some (.int .u64 k) := cell_of HHc9.out.blk 1
          have x2 : w12.cell? ⟨w8.heap.size, 2, none⟩ = some (.int .u64 m) := cell_of HHc9.out.blk 2
          have x3 : w12.cell? ⟨w8.heap.size, 3, none⟩ = some (.int .i64 0) := cell_of HHc9.out.blk 3
          have x4 : w12.cell? ⟨w8.heap.size, 4, none⟩ = some (.slice none 0 0) := cell_of HHc9.out.blk 4
          go_wp2_with fail
          clear x0 x1 x2 x3 x4
          refine (zsettle w12 w2.heap.size (N + 3) T9 _ k m HI9.out hk hm (by omega)).mono ?_
          rintro e w13 ⟨s13, T13, rfl, hAf13, hI13, hK13, hO13⟩
          rw [upd_same] at hAf13
          obtain rfl := hAf13.low (by have := Hmk.out; omega)
          rw [upd_upd] at hI13 hO13
          have hB13 := HB9.out.trans (hK13.below (B := w2.heap.size) HB9.out.size (fun i hi => HI9.out.own_ge hi))
          have hat := hI13.sess k s13 (upd_same _ _ _)
          have c30 := zsettled w13 _ s13 hat
          have c31 := zheld w13 _ s13 hat
          have HI13 := hide hI13
          have HB13 := hide hB13
          have HHk13 := hide (HHk9.out.settle hK13 hO13)
          have HHp13 := hide (HHp9.out.settle hK13 hO13)
          clear hI13 hB13 hK13 hO13 hAf13 HI9 HB9 HHk9 HHp9 hat
          go_wp2_with fail
          refine c30.mono ?_
          rintro e w14 ⟨rfl, rfl⟩
          go_wp2_with fail
          refine c31.mono ?_
          rintro e w15 ⟨rfl, rfl⟩
          clear c30 c31
          have x0 := cell_of HHp13.out.blk 0
          have x1 := cell_of HHp13.out.blk 1
          have x2 := cell_of HHp13.out.blk 2
          have x3 := cell_of HHp13.out.blk 3
          have x4 := cell_of HHp13.out.blk 4
          go_wp2_with fail
          clear x0 x1 x2 x3 x4
          have hneq : k2 ≠ k := fun e => hkk e.symm
          refine (zsettle w15 w2.heap.size (N + 4) T13 _ k2 0 HI13.out hk2 U64.zero (by omega)).mono ?_
          rintro e w16 ⟨s16, T16, rfl, hAf16, hI16, hK16, hO16⟩
          rw [upd_other hneq, upd_other hneq, upd_same] at hAf16
          obtain rfl := hAf16.low (HI13.out.sess k2 _ ((upd_other hneq).trans ((upd_other hneq).trans (upd_same _ _ _)))).2.2.1.nonneg
          have hB16 := HB13.out.trans (hK16.below (B := w2.heap.size) HB13.out.size (fun i hi => HI13.out.own_ge hi))
          have hat := hI16.sess k2 s16 (upd_same _ _ _)
          have c30 := zsettled w16 _ s16 hat
          have c31 := zheld w16 _ s16 hat
          have HB16 := hide hB16
          have HHk16 := hide (HHk13.out.settle hK16 hO16)
          have Hat := hide hat
          clear hI16 hB16 hK16 hO16 hAf16 HI13 HB13 HHk13 HHp13 hat
          go_wp2_with fail
          refine c30.mono ?_
          rintro e w17 ⟨rfl, rfl⟩
          go_wp2_with fail
          refine c31.mono ?_
          rintro e w18 ⟨rfl, rfl⟩
          clear c30 c31
          go_wp2_with fail
          go_loopw [29] (fun j wr => ∃ (i : Nat), j = Value.int .i64 (i : Int) ∧ i ≤ n ∧ wr = w18) (fun j _ => n - (intOf j).toNat)
          case atStart => exact ⟨0, rfl, by omega, rfl⟩
          case round =>
            obtain ⟨i, rfl, hi, rfl⟩ := hrel
            by_cases hin : (i : Int) < n
            · obtain ⟨rfl, hSt⟩ := Hob.out i (by omega) _ HB16.out
              have s0 := hSt.c0 i (by omega)
              have s1 := hSt.c1 i (by omega)
              have s2 := hSt.c2 i (by omega)
              simp only [Nat.zero_add] at s0 s1 s2
              obtain ⟨hse, hva⟩ := HU.out i (by omega)
              have c32 := zresult _ _ s16 (va i) Hat.out hva
              have hc4 := cells4
              clear hSt
              cases hpu : pu i
              · rw [hpu] at s0
                go_wp2
                go_roundw
                case rel => exact ⟨i + 1, by go_num, by omega, by first | trivial | rfl⟩
                case measure => simp [intOf]; omega
              · rw [hpu] at s0
                by_cases hsk : se i = k2
                · have hsk' : (se i == k2) = true := by simpa using hsk
                  have hke := (cell_of HHk16.out.blk i).trans (HA.out i (by omega) hpu hsk)
                  go_wp2_with fail
                  refine c32.mono ?_
                  rintro e w19 ⟨v, rfl, rfl, _⟩
                  go_wp2
                  go_roundw
                  case rel => exact ⟨i + 1, by go_num, by omega, by first | trivial | rfl⟩
                  case measure => simp [intOf]; omega
                · have hsk' : (se i == k2) = false := by simpa using hsk
                  go_wp2
                  go_roundw
                  case rel => exact ⟨i + 1, by go_num, by omega, by first | trivial | rfl⟩
                  case measure => simp [intOf]; omega
            · go_wp2
              go_ret
              exact ⟨rfl, HB'.out.trans (HB16.out.mono HB'.out.size)⟩
end Go.Proofs.Qxb6600769a.Ses
