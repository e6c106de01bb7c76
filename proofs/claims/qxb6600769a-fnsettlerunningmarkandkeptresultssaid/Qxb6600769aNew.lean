import Derived.Test.Qxb6600769aSweep
namespace Go.Proofs.Qxb6600769a.Ses
open Go.RowKit Go.Maps
set_option linter.unusedVariables false

/-- A new session, as settle makes it. -/
abbrev fresh (b : Nat) : Sess := ⟨b + 1 + 1, b + 1, 0, 0, .map []⟩
abbrev sessCells (b : Nat) : Obj := .cells #[.int .u64 0, .map (some (b + 1)), .int .i64 0] 82

theorem heap_new (w : World) (o : Obj) : (w.alloc o).heap[w.heap.size]? = some o := by rw [← World.alloc_eq]; simp
theorem heap_new3 (w : World) (o o' o'' : Obj) : (((w.alloc o).alloc o').alloc o'').heap[w.heap.size + 1 + 1]? = some o'' := by
  have := heap_new ((w.alloc o).alloc o') o''
  rwa [show ((w.alloc o).alloc o').heap.size = w.heap.size + 1 + 1 by simp] at this
theorem U64.nonneg {m : Int} (h : U64 m) : 0 ≤ m := by
  have h0 : IntKind.u64.min = 0 := rfl
  simp [U64, Lit.wf] at h
  omega

theorem insert_new {w w2 : World} {tb N : Nat} {T : DataW Value} {S : Int → Option Sess} {k m : Int} (h : Inv w tb N T S) (hk : U64 k) (hs : S k = none)
    (ho : Om w2 tb (N + 1) (T.put (.int .u64 k) (.held (.pointer (some ⟨w.heap.size + 1 + 1, 0, none⟩))))) (hg : (((w.alloc (cmdCells k m)).alloc (.map #[] 0)).alloc (sessCells w.heap.size)).grownBy w2 (some tb)) :
    Inv w2 tb (N + 1) (T.put (.int .u64 k) (.held (.pointer (some ⟨w.heap.size + 1 + 1, 0, none⟩)))) (upd S k (fresh w.heap.size)) ∧ Keep (Own tb S) w w2 ∧ w2.heap[w.heap.size]? = some (cmdCells k m) := by
  have hlt := h.tab.lt
  have hb : ∀ i, i < w.heap.size + 3 → tb ≠ i → w2.heap[i]? = ((((w.alloc (cmdCells k m)).alloc (.map #[] 0)).alloc (sessCells w.heap.size)).heap[i]?) := fun i hi hne => hg.block i (by simp; omega) (fun e => hne (Option.some.inj e).symm)
  refine ⟨h.insert (s1 := fresh w.heap.size) hk hs (Nat.le_succ _) ho ⟨?_, ?_, U64.zero, Nat.zero_le _⟩ ⟨by show _ ≤ w.heap.size + 1 + 1; omega, by show _ ≤ w.heap.size + 1; omega⟩ ?_, ?_, ?_⟩
  · show w2.heap[w.heap.size + 1 + 1]? = _
    rw [hb _ (by omega) (by omega)]
    exact heap_new3 w _ _ _
  · show Om w2 (w.heap.size + 1) (N + 1) (.map [])
    have h1 := (World.ownsMap_made (H := Value) (w.alloc (cmdCells k m)) Try.prog 45 tokR).mono (Nat.zero_le (N + 1))
    rw [show (w.alloc (cmdCells k m)).heap.size = w.heap.size + 1 by simp] at h1
    refine Om.of_block h1 ?_
    rw [hb _ (by omega) (by omega), Below.heap_alloc _ _ _ (by simp)]
  · intro i hi hne
    have := h.own_lt hi
    rw [hb _ (by omega) (fun e => hne e.symm)]
    rw [Below.heap_alloc _ _ _ (by simp; omega), Below.heap_alloc _ _ _ (by simp; omega), Below.heap_alloc _ _ _ (by omega)]
  · exact ((((Keep.refl _ _).alloc _).alloc _).alloc _).grown hg (fun j hj => .inl (.inl (Option.some.inj hj).symm))
  · rw [hb _ (by omega) (by omega), Below.heap_alloc _ _ _ (by simp; omega), Below.heap_alloc _ _ _ (by simp)]
    exact heap_new w _

set_option maxRecDepth 100000 in
set_option maxHeartbeats 1000000 in
theorem settle_new (w : World) (tb N : Nat) (T : DataW Value) (S : Int → Option Sess) (k m : Int) (h : Inv w tb N T S) (hk : U64 k) (hmu : U64 m) (hN : N < 100000) (hs : S k = none) :
    Calls Try.prog 41 #[.map (some tb), cmd k m] w fun e w' => e = .returned (.pointer (some ⟨w.heap.size + 1 + 1, 0, none⟩)) ∧ Inv w' tb (N + 1) (T.put (.int .u64 k) (.held (.pointer (some ⟨w.heap.size + 1 + 1, 0, none⟩)))) (upd S k { fresh w.heap.size with mark := m }) ∧ Keep (Own tb S) w w' := by
  have hlk := look_none (h.alloc (cmdCells k m)).tab hk (h.no k hs)
  have hmm := @run_makeMap Try.prog
  have hown := ((h.tab.alloc (cmdCells k m)).alloc (.map #[] 0)).alloc (sessCells w.heap.size)
  have HI := hide h
  have Hs := hide hs
  clear h hs
  go_enter Try.func41, Try.ntmps41
  go_wp2_with (first
    | (at_mapUpdate; refine wpList_mapUpdate_own _ rfl _ _ _ 42 rfl 45 51 law Try.underlying42 tokR tb _ _ rfl hown (by have := hML; omega) _ _ _ rfl rfl (key_of hk) _ [] rfl ?_; intro w2 hout2 hg2; go_frame)
    | go_in)
  obtain ⟨hI, hK, hc⟩ := insert_new HI.out hk Hs.out hout2 hg2
  have hat := hI.sess k _ (upd_same _ _ _)
  have a2 : w2.cell? ⟨w.heap.size, 2, none⟩ = some (.int .u64 m) := cell_of hc 2
  have c0 : w2.cell? ⟨w.heap.size + 1 + 1, 0, none⟩ = some (.int .u64 0) := cell_of hat.1 0
  have f0 : w2.frozen? ⟨w.heap.size + 1 + 1, 0, none⟩ = false := free_of hat.1 0
  have hm0 : 0 ≤ m := hmu.nonneg
  have HI2 := hide hI
  have HK2 := hide hK
  clear hI hK hout2 hg2 hlk hown HI hat hc hmm
  by_cases hm : m ≤ 0
  · go_quiet (fail)
    go_wp2
    go_ret
    have : m = 0 := by omega
    subst this
    exact ⟨rfl, HI2.out.drewN _, HK2.out.drewN _⟩
  · go_quiet (fail)
    go_wp2
    refine gen_wp (fun W => Inv W tb (N + 1) (T.put (.int .u64 k) (.held (.pointer (some ⟨w.heap.size + 1 + 1, 0, none⟩)))) (upd S k { fresh w.heap.size with mark := m }) ∧ Keep (Own tb S) w W) ?_ ?_
    · have := (HI2.out.drewN nq).raise (upd_same _ _ _) hmu
      rw [upd_upd] at this
      exact ⟨this, (HK2.out.drewN nq).setCell (p := ⟨w.heap.size + 1 + 1, 0, none⟩) (.inr (by show _ ≤ w.heap.size + 1 + 1; omega)) _⟩
    clear a2 c0 f0 HI2 HK2
    rintro W ⟨hI, hK⟩
    have hat := hI.sess k _ (upd_same _ _ _)
    have c1 : W.cell? ⟨w.heap.size + 1 + 1, 1, none⟩ = some (.map (some (w.heap.size + 1))) := cell_of hat.1 1
    have c2 : W.cell? ⟨w.heap.size + 1 + 1, 2, none⟩ = some (.int .i64 0) := cell_of hat.1 2
    have hlen : ∀ n ty, (Builtin.len_ #[80] ty #[.map (some (w.heap.size + 1))]).run Try.prog (W.drewN n) = .ok (.int .i64 0) (W.drewN n) := fun n ty => run_len (w := W.drewN n) (Om.of_block (w' := W.drewN n) hat.2.1 rfl) ty
    have HI' := hide hI
    have HK' := hide hK
    clear hI hK hat
    go_quiet (fail)
    go_wp2
    go_ret
    exact ⟨rfl, HI'.out.drewN _, HK'.out.drewN _⟩

/-- What settle leaves at its session, whatever was there. -/
def After (o : Option Sess) (m : Int) (s' : Sess) : Prop :=
  match o with
  | none => s'.mark = m ∧ s'.swept = 0 ∧ s'.res = .map []
  | some s => Settled s m s'

theorem own_new {tb : Nat} {S : Int → Option Sess} {k : Int} {s1 : Sess} {i : Nat} (h : Own tb (upd S k s1) i) : Own tb S i ∨ i = s1.sb ∨ i = s1.mb := by
  rcases h with h | ⟨k', s', hk', h⟩
  · exact .inl (.inl h)
  · unfold upd at hk'
    split at hk'
    · cases hk'; exact .inr h
    · exact .inl (.inr ⟨k', s', hk', h⟩)

theorem settle_any (w : World) (tb N : Nat) (T : DataW Value) (S : Int → Option Sess) (k m : Int) (h : Inv w tb N T S) (hk : U64 k) (hmu : U64 m) (hN : N < 100000) :
    Calls Try.prog 41 #[.map (some tb), cmd k m] w fun e w' => ∃ s' T', e = .returned (.pointer (some ⟨s'.sb, 0, none⟩)) ∧ After (S k) m s' ∧ Inv w' tb (N + 1) T' (upd S k s') ∧ Keep (Own tb S) w w' ∧ (∀ i, i < w.heap.size → Own tb (upd S k s') i → Own tb S i) := by
  cases hs : S k with
  | none =>
    refine (settle_new w tb N T S k m h hk hmu hN hs).mono ?_
    rintro e w' ⟨rfl, h1, h2⟩
    refine ⟨_, _, rfl, ⟨rfl, rfl, rfl⟩, h1, h2, fun i hi ho => ?_⟩
    rcases own_new ho with ho | ho | ho
    · exact ho
    · have : i = w.heap.size + 1 + 1 := ho
      omega
    · have : i = w.heap.size + 1 := ho
      omega
  | some s =>
    by_cases hm : m ≤ s.mark
    · refine (settle_low w tb N T S k m s h hk hs hm).mono ?_
      rintro e w' ⟨rfl, nq, rfl⟩
      have e1 : upd S k s = S := by
        funext k'
        unfold upd
        split
        · rename_i e; rw [e, hs]
        · rfl
      refine ⟨s, T, rfl, ⟨rfl, .inl ⟨hm, rfl⟩⟩, ?_, ((Keep.refl _ _).alloc _).drewN _, fun i hi ho => by rwa [e1] at ho⟩
      rw [e1]
      exact ((h.alloc _).drewN _).mono (Nat.le_succ _)
    · have hm' : s.mark < m := by omega
      by_cases hsz : Maps.size s.res < 2 * max s.swept 64
      · refine (settle_mid w tb N T S k m s h hk hmu (by omega) hs hm' hsz).mono ?_
        rintro e w' ⟨rfl, h1, h2⟩
        refine ⟨{ s with mark := m }, T, rfl, ⟨rfl, .inr ⟨hm', rfl, .inl ⟨hsz, rfl, rfl, rfl⟩⟩⟩, h1.mono (Nat.le_succ _), h2, fun i hi ho => ?_⟩
        rcases own_new ho with ho | ho | ho
        · exact ho
        · exact .inr ⟨k, s, hs, .inl ho⟩
        · exact .inr ⟨k, s, hs, .inr ho⟩
      · refine (settle_sweep w tb N T S k m s h hk hmu (by omega) hs hm' (by omega)).mono ?_
        rintro e w' ⟨rfl, nm, Do, hnm, hf, h1, h2⟩
        refine ⟨{ s with mb := nm, mark := m, swept := Maps.size Do, res := Do }, T, rfl, ⟨rfl, .inr ⟨hm', rfl, .inr ⟨by omega, hf, rfl⟩⟩⟩, h1.mono (Nat.le_succ _), h2, fun i hi ho => ?_⟩
        rcases own_new ho with ho | ho | ho
        · exact ho
        · exact .inr ⟨k, s, hs, .inl ho⟩
        · have : i = nm := ho
          omega

end Go.Proofs.Qxb6600769a.Ses
