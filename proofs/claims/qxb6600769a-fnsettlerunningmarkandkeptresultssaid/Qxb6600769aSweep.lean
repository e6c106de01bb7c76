import Derived.Test.Qxb6600769aSettle
namespace Go.Proofs.Qxb6600769a.Ses
open Go.RowKit Go.Maps
set_option linter.unusedVariables false

theorem gen_then {K : Act → World → Prop} {Q : Exit → Act → World → Prop} {e : Exit} {a : Act} {w : World} (F : World → Prop) (hF : F w) (h : ∀ W, F W → Exit.then K Q e a W) : Exit.then K Q e a w := h w hF
theorem invK (key : Value) (kl : Lit) (h : keyOf Try.prog 45 key = some kl) : ∃ x, key = Value.int .u64 x := by
  obtain ⟨x, rfl, _⟩ := keyOf_int_inv Try.underlying45 h
  exact ⟨x, rfl⟩
theorem invV (v : Value) (y : DataW Value × List MemPlace) (h : tokR v = some y) : ∃ c, v = (fun v : Value => v) c := ⟨v, rfl⟩

theorem hML : 100000 < maxLen := by decide
theorem own_upd {tb : Nat} {S : Int → Option Sess} {k : Int} {s s1 : Sess} (hs : S k = some s) (hsb : s1.sb = s.sb) {i : Nat} (h : Own tb (upd S k s1) i) : Own tb S i ∨ i = s1.mb := by
  rcases h with h | ⟨k', s', hk', h⟩
  · exact .inl (.inl h)
  · unfold upd at hk'
    split at hk'
    · cases hk'
      rcases h with h | h
      · exact .inl (.inr ⟨k, s, hs, .inl (h.trans hsb)⟩)
      · exact .inr h
    · exact .inl (.inr ⟨k', s', hk', h⟩)

/-- Behind a sweep: the new map stands at the session. -/
theorem Inv.swept {W wr : World} {tb N : Nat} {T : DataW Value} {S : Int → Option Sess} (h : Inv W tb N T S) {k : Int} {s : Sess} (hs : S k = some s) (hB : Below W.heap.size W wr) {nm : Nat} {Do : DataW Value} (ho : Om wr nm N Do) (hnm : W.heap.size ≤ nm) :
    Inv ((wr.setCell ⟨s.sb, 1, none⟩ (.map (some nm))).setCell ⟨s.sb, 2, none⟩ (.int .i64 (Maps.size Do : Int))) tb N T (upd S k { s with mb := nm, swept := Maps.size Do, res := Do }) ∧
    Keep (Own tb S) W ((wr.setCell ⟨s.sb, 1, none⟩ (.map (some nm))).setCell ⟨s.sb, 2, none⟩ (.int .i64 (Maps.size Do : Int))) := by
  have hlt : s.sb < W.heap.size := h.own_lt (.inr ⟨k, s, hs, .inl rfl⟩)
  have htl : tb < W.heap.size := h.tab.lt
  have hb : wr.heap[s.sb]? = _ := (hB.block _ hlt).trans (h.sess k s hs).1
  refine ⟨h.update hs (Nat.le_refl _) rfl ⟨?_, ?_, (h.sess k s hs).2.2.1, ho.size_le⟩ ?_ ?_ ?_ ?_, ?_⟩
  · have := setCell_blk (setCell_blk hb 1 (.map (some nm))) 2 (.int .i64 (Maps.size Do : Int))
    exact this
  · have hne : nm ≠ s.sb := by omega
    exact (ho.setCell (a := ⟨s.sb, 1, none⟩) hne _).setCell (a := ⟨s.sb, 2, none⟩) hne _
  · show nm ≠ tb
    omega
  · show tb ≤ nm
    omega
  · intro k' s' hk' hne
    have : s'.mb < W.heap.size := h.own_lt (.inr ⟨k', s', hk', .inr rfl⟩)
    show nm ≠ s'.mb
    omega
  · intro i hi h1 h2
    rw [Below.heap_setCell _ ⟨s.sb, 2, none⟩ _ i h1, Below.heap_setCell _ ⟨s.sb, 1, none⟩ _ i h1]
    exact hB.block i (h.own_lt hi)
  · have hK : Keep (Own tb S) W wr := ⟨hB.os, hB.tape, hB.output, hB.size, fun i hi _ => hB.block i hi⟩
    exact (hK.setCell (p := ⟨s.sb, 1, none⟩) (.inl (.inr ⟨k, s, hs, .inl rfl⟩)) _).setCell (p := ⟨s.sb, 2, none⟩) (.inl (.inr ⟨k, s, hs, .inl rfl⟩)) _

set_option maxRecDepth 100000 in
set_option maxHeartbeats 1000000 in
theorem settle_sweep (w : World) (tb N : Nat) (T : DataW Value) (S : Int → Option Sess) (k m : Int) (s : Sess) (h : Inv w tb N T S) (hk : U64 k) (hmu : U64 m) (hN : N ≤ 100000) (hs : S k = some s) (hm : s.mark < m) (hsz : 2 * max s.swept 64 ≤ Maps.size s.res) :
    Calls Try.prog 41 #[.map (some tb), cmd k m] w fun e w' => e = .returned (.pointer (some ⟨s.sb, 0, none⟩)) ∧ ∃ nm Do, w.heap.size ≤ nm ∧ Filtered s.res m Do ∧ Inv w' tb N T (upd S k { s with mb := nm, mark := m, swept := Maps.size Do, res := Do }) ∧ Keep (Own tb S) w w' := by
  have hlk := look_some (h.alloc (cmdCells k m)).tab hk (h.ptr k s hs)
  have hb := (h.sess k s hs).1
  have h0 : w.cell? ⟨s.sb, 0, none⟩ = some (.int .u64 s.mark) := cell_of hb 0
  have hf0 : w.frozen? ⟨s.sb, 0, none⟩ = false := free_of hb 0
  have hlt : s.sb < w.heap.size := h.own_lt (.inr ⟨k, s, hs, .inl rfl⟩)
  have hmn : ¬ m ≤ s.mark := by omega
  have HI := hide h
  have Hs := hide hs
  clear h hb hs
  go_enter Try.func41, Try.ntmps41
  go_wp2
  go_quiet (fail)
  go_wp2
  refine gen_wp (fun W => Inv W tb N T (upd S k { s with mark := m }) ∧ Keep (Own tb S) w W) ⟨((HI.out.alloc _).drewN _).raise Hs.out hmu, (((Keep.refl _ _).alloc _).drewN _).setCell (.inl (.inr ⟨k, s, Hs.out, .inl rfl⟩)) _⟩ ?_
  rintro W ⟨hI, hK⟩
  have hat := hI.sess k _ (upd_same _ _ _)
  have c1 : W.cell? ⟨s.sb, 1, none⟩ = some (.map (some s.mb)) := cell_of hat.1 1
  have c2 : W.cell? ⟨s.sb, 2, none⟩ = some (.int .i64 (s.swept : Int)) := cell_of hat.1 2
  have hlen : ∀ n ty, (Builtin.len_ #[80] ty #[.map (some s.mb)]).run Try.prog (W.drewN n) = .ok (.int .i64 (Maps.size s.res : Int)) (W.drewN n) := fun n ty => run_len (w := W.drewN n) (Om.of_block (w' := W.drewN n) hat.2.1 rfl) ty
  have hsw : s.swept ≤ N := hat.2.2.2
  have hsl : Maps.size s.res ≤ N := hat.2.1.size_le
  have HI' := hide hI
  have HK' := hide hK
  clear hI hK hat h0 hf0 hlk HI hlt
  have hmm := @run_makeMap Try.prog
  obtain ⟨h64, hcmp⟩ | ⟨h64, hcmp⟩ : ((s.swept : Int) < 64 ∧ 2 * (64 : Int) ≤ (Maps.size s.res : Int)) ∨ (¬ (s.swept : Int) < 64 ∧ 2 * (s.swept : Int) ≤ (Maps.size s.res : Int)) := by omega
  all_goals
    go_quiet (fail)
    refine gen_then (fun W => Inv W tb N T (upd S k { s with mark := m }) ∧ Keep (Own tb S) w W) ⟨HI'.out.drewN _, HK'.out.drewN _⟩ ?_
    clear c1 c2 hlen HI' HK'
    rintro W ⟨hI, hK⟩
    have hat := hI.sess k _ (upd_same _ _ _)
    have c1 : W.cell? ⟨s.sb, 1, none⟩ = some (.map (some s.mb)) := cell_of hat.1 1
    have hlt : s.sb < W.heap.size := hI.own_lt (.inr ⟨k, _, upd_same _ _ _, .inl rfl⟩)
    have hml : s.mb < W.heap.size := hI.own_lt (.inr ⟨k, _, upd_same _ _ _, .inr rfl⟩)
    have e1 : (W.alloc (.map #[] 0)).heap.size = W.heap.size + 1 := by simp
    go_wp2_with (first
      | (at_range; refine wpList_range_own _ rfl _ 80 rfl 45 46 law Try.underlying80 tokR s.mb N s.res rfl (hat.2.1.alloc _) ?_; intro w0 hrg0 hg0 hs0)
      | go_in)
    try go_frame
    try rw [e1] at hrg0
    try rw [e1] at hs0
    try rw [e1]
    try simp only [decide_eq_true (show (128 : Int) ≤ (Maps.size s.res : Int) by omega)]
    go_loopw [7] (fun _ wr => ∃ (left : Lit → Bool) (cnt : Nat) (Do : DataW Value), wr.ranges Try.prog 45 tokR s.mb (W.heap.size + 1) N s.res left cnt ∧ cnt ≤ N ∧ Om wr W.heap.size (N - cnt) Do ∧ Part s.res m left Do ∧ Below W.heap.size W wr)
      (fun _ wr => wr.rangeLeft s.mb (W.heap.size + 1))
    case atStart =>
      exact ⟨_, _, .map [], hrg0, hsl, ((World.ownsMap_made _ _ _ _).kept hg0 (by simp)).mono (Nat.zero_le _), part_start _ _, ((Below.refl _ _).alloc (Nat.le_refl _) _).grown hg0 (by simp) (fun j hj => by cases hj)⟩
    case round =>
      obtain ⟨left, cnt, Do, hrg, hcs, hout, hA, hnx⟩ := hrel
      have d0 : wr.cell? ⟨s.sb, 0, none⟩ = some (.int .u64 m) := cell_of ((hnx.block _ hlt).trans hat.1) 0
      go_wp2_with (first
        | (at_next; refine wpList_next_ranges _ rfl _ rfl 45 law tokR (Value.int .u64) (fun v => v) invK invV s.mb (W.heap.size + 1) N _ _ _ rfl hrg ?_ ?_)
        | go_in)
      · intro hc0 hl0
        subst hc0
        have hlen : ∀ ty, (Builtin.len_ #[80] ty #[.map (some W.heap.size)]).run Try.prog wr = .ok (.int .i64 (Maps.size Do : Int)) wr := fun ty => run_len hout ty
        have f1 : wr.frozen? ⟨s.sb, 1, none⟩ = false := free_of ((hnx.block _ hlt).trans hat.1) 1
        have f2 : wr.frozen? ⟨s.sb, 2, none⟩ = false := free_of ((hnx.block _ hlt).trans hat.1) 2
        have d1 : wr.cell? ⟨s.sb, 1, none⟩ = some (.map (some s.mb)) := cell_of ((hnx.block _ hlt).trans hat.1) 1
        have d2 : wr.cell? ⟨s.sb, 2, none⟩ = some (.int .i64 (s.swept : Int)) := cell_of ((hnx.block _ hlt).trans hat.1) 2
        go_wp2
        go_ret
        obtain ⟨j1, j2⟩ := hI.swept (upd_same _ _ _) hnx hout (Nat.le_refl _)
        rw [upd_upd] at j1
        exact ⟨rfl, W.heap.size, Do, hK.size, part_end hA hl0, j1, hK.trans j2 (fun i hi ho => (own_upd (s1 := { s with mark := m }) Hs.out rfl ho).elim id (fun e => .inr ⟨k, s, Hs.out, .inr e⟩))⟩
      · intro x c kl y ps w1 cnt1 hkey hlx hy hatx hrg1 hlt1 hg1 hs1 hen
        obtain ⟨x', ex, rfl, hwx⟩ := keyOf_int_inv Try.underlying45 hkey
        cases ex
        simp [tokR] at hy
        obtain ⟨rfl, rfl⟩ := hy
        have hout1 := hout.kept hg1 (by simp)
        have d3 : w1.cell? ⟨s.sb, 0, none⟩ = some (.int .u64 m) := cell_of (((hnx.grown hg1 hnx.size (fun j hj => by cases hj; exact Nat.le_succ _)).block _ hlt).trans hat.1) 0
        by_cases hxm : m ≤ x
        · go_wp2_with (first
            | (at_mapUpdate; refine wpList_mapUpdate_own _ rfl _ _ _ 80 rfl 45 46 law Try.underlying80 tokR W.heap.size _ _ rfl hout1 (by have := hML; omega) _ _ _ rfl rfl hkey _ [] rfl ?_; intro w2 hout2 hg2; go_frame)
            | go_in)
          have hrg2 := hrg1.kept hg2 (fun e => by have := Option.some.inj e; omega) (fun e => by have := Option.some.inj e; omega)
          go_roundw
          case rel =>
            exact ⟨_, cnt1, _, hrg2, by omega, hout2.mono (by omega), part_take hA hout.isMap hwx hxm hatx,
              (hnx.grown hg1 hnx.size (fun j hj => by cases hj; exact Nat.le_succ _)).grown hg2 (by have := hnx.size; omega) (fun j hj => by cases hj; exact Nat.le_refl _)⟩
          case measure => rw [hrg2.left_eq, hrg.left_eq]; exact hlt1
        · go_wp2
          go_roundw
          case rel =>
            exact ⟨_, cnt1, _, hrg1, by omega, hout1.mono (by omega), part_skip hA (by omega), hnx.grown hg1 hnx.size (fun j hj => by cases hj; exact Nat.le_succ _)⟩
          case measure => rw [hrg1.left_eq, hrg.left_eq]; exact hlt1
end Go.Proofs.Qxb6600769a.Ses
