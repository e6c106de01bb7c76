import Derived.Test.Qxb6600769aNew
namespace Go.Proofs.Qxb6600769a.Ses
open Go.RowKit Go.Maps
set_option linter.unusedVariables false

/-- ZZSettle: the same by another door. -/
theorem zsettle (w : World) (tb N : Nat) (T : DataW Value) (S : Int → Option Sess) (k m : Int) (h : Inv w tb N T S) (hk : U64 k) (hmu : U64 m) (hN : N < 100000) :
    Calls Try.prog 22 #[.map (some tb), cmd k m] w fun e w' => ∃ s' T', e = .returned (.pointer (some ⟨s'.sb, 0, none⟩)) ∧ After (S k) m s' ∧ Inv w' tb (N + 1) T' (upd S k s') ∧ Keep (Own tb S) w w' ∧ (∀ i, i < w.heap.size → Own tb (upd S k s') i → Own tb S i) := by
  have hc := settle_any (w.alloc (cmdCells k m)) tb N T S k m (h.alloc _) hk hmu hN
  go_enter Try.func22, Try.ntmps22
  go_wp2_with (first
    | (go_at_call 41; refine hc.mono ?_; rintro e w' ⟨s', T', rfl, h1, h2, h3, h4⟩))
  go_ret
  exact ⟨s', T', rfl, h1, h2, ((Keep.refl _ _).alloc _).trans h3 (fun _ _ h => h), fun i hi => h4 i (by simp; omega)⟩

theorem zsettled (w : World) (N : Nat) (s : Sess) (h : SessAt w N s) : Calls Try.prog 30 #[.pointer (some ⟨s.sb, 0, none⟩)] w fun e w' => e = .returned (.int .u64 s.mark) ∧ w' = w := by
  have h0 : w.cell? ⟨s.sb, 0, none⟩ = some (.int .u64 s.mark) := cell_of h.1 0
  clear h
  go_enter Try.func30, Try.ntmps30
  go_wp2
  go_ret
  exact ⟨rfl, rfl⟩

theorem zheld (w : World) (N : Nat) (s : Sess) (h : SessAt w N s) : Calls Try.prog 31 #[.pointer (some ⟨s.sb, 0, none⟩)] w fun e w' => e = .returned (.int .i64 (Maps.size s.res : Int)) ∧ w' = w := by
  have h1 : w.cell? ⟨s.sb, 1, none⟩ = some (.map (some s.mb)) := cell_of h.1 1
  have hlen : ∀ ty, (Builtin.len_ #[80] ty #[.map (some s.mb)]).run Try.prog w = .ok (.int .i64 (Maps.size s.res : Int)) w := fun ty => run_len h.2.1 ty
  clear h
  go_enter Try.func31, Try.ntmps31
  go_wp2
  go_ret
  exact ⟨rfl, rfl⟩

theorem look_res {w : World} {b N : Nat} {D : DataW Value} {x : Int} (h : Om w b N D) (hx : U64 x) :
    ∃ v, (Instr.lookup 80 (.map (some b)) (.int .u64 x) true).run Try.prog w = .ok (.tuple #[v, .bool (Maps.has D (.int .u64 x))]) w ∧ D.atKey (.int .u64 x) (.held (.slice none 0 0)) = .held v := by
  obtain ⟨v', ps, hrun, hR⟩ := World.ownsMap.look_ok h law Try.underlying80 (zero46 w) (zd := .held (.slice none 0 0)) (zp := []) rfl (key_of hx)
  simp [tokR] at hR
  exact ⟨v', hrun, hR.1.symm⟩

theorem zresult (w : World) (N : Nat) (s : Sess) (x : Int) (h : SessAt w N s) (hx : U64 x) : Calls Try.prog 32 #[.pointer (some ⟨s.sb, 0, none⟩), .int .u64 x] w fun e w' => ∃ v, e = .returned (.tuple #[v, .bool (Maps.has s.res (.int .u64 x))]) ∧ w' = w ∧ s.res.atKey (.int .u64 x) (.held (.slice none 0 0)) = .held v := by
  have h1 : w.cell? ⟨s.sb, 1, none⟩ = some (.map (some s.mb)) := cell_of h.1 1
  obtain ⟨v, hlk, hv⟩ := look_res h.2.1 hx
  clear h
  go_enter Try.func32, Try.ntmps32
  go_wp2
  go_ret2
  exact ⟨v, rfl, rfl, hv⟩

theorem maxU64 (w : World) (a b : Int) : Calls Try.prog 33 #[.int .u64 a, .int .u64 b] w fun e w' => e = .returned (.int .u64 (max a b)) ∧ w' = w := by
  go_enter Try.func33, Try.ntmps33
  by_cases h : b < a
  · go_wp2
    go_ret
    exact ⟨by rw [show max a b = a by omega]; rfl, rfl⟩
  · go_wp2
    go_ret
    exact ⟨by rw [show max a b = b by omega]; rfl, rfl⟩

theorem newSessions (w : World) : Calls Try.prog 21 #[] w fun e w' => e = .returned (.map (some w.heap.size)) ∧ w' = w.alloc (.map #[] 0) ∧ Inv w' w.heap.size 0 (.map []) (fun _ => none) := by
  have hmm := @run_makeMap Try.prog
  go_enter Try.func21, Try.ntmps21
  go_wp2
  go_ret
  exact ⟨rfl, rfl, World.ownsMap_made _ _ _ _, fun k _ => rfl, fun k s h => (by cases h), fun k s h => (by cases h), fun k k' s s' h => (by cases h), fun k s h => (by cases h), fun k s h => (by cases h)⟩

theorem zput (w : World) (tb N : Nat) (T : DataW Value) (S : Int → Option Sess) (k x : Int) (v : Value) (s : Sess) (h : Inv w tb N T S) (hs : S k = some s) (hx : U64 x) (hN : N < 100000) :
    Calls Try.prog 25 #[.pointer (some ⟨s.sb, 0, none⟩), .int .u64 x, v] w fun e w' => e = .returned (.tuple #[]) ∧ Inv w' tb (N + 1) T (upd S k { s with res := s.res.put (.int .u64 x) (.held v) }) ∧ Keep (Own tb S) w w' := by
  have hat := h.sess k s hs
  have h1 : w.cell? ⟨s.sb, 1, none⟩ = some (.map (some s.mb)) := cell_of hat.1 1
  have hown := hat.2.1
  go_enter Try.func25, Try.ntmps25
  go_wp2_with (first
    | (at_mapUpdate; refine wpList_mapUpdate_own _ rfl _ _ _ 80 rfl 45 46 law Try.underlying80 tokR s.mb _ _ rfl hown (by have := hML; omega) _ _ _ rfl rfl (key_of hx) _ [] rfl ?_; intro w2 hout2 hg2; go_frame)
    | go_in)
  go_end0
  refine ⟨rfl, h.update (s1 := { s with res := s.res.put (.int .u64 x) (.held v) }) hs (Nat.le_succ _) rfl ⟨?_, hout2, hat.2.2.1, Nat.le_succ_of_le hat.2.2.2⟩ (h.tbmb k s hs) (h.low k s hs).2 (fun k' s' hk' hne => (h.apart k k' s s' hs hk' (fun e => hne e.symm)).2) (fun i hi h1 h2 => ?_), (Keep.refl _ _).grown hg2 (fun j hj => .inl (.inr ⟨k, s, hs, .inr (Option.some.inj hj).symm⟩))⟩
  · exact (hg2.block _ (h.own_lt (.inr ⟨k, s, hs, .inl rfl⟩)) (fun e => h.sb_ne_mb hs hs (Option.some.inj e))).trans hat.1
  · exact hg2.block _ (h.own_lt hi) (fun e => h2 (Option.some.inj e))
end Go.Proofs.Qxb6600769a.Ses
