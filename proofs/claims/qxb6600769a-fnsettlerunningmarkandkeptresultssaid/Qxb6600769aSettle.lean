import Derived.Test.Qxb6600769aSess
import Derived.OpenShut
namespace Go.Proofs.Qxb6600769a.Ses
open Go.RowKit Go.Maps
set_option linter.unusedVariables false

abbrev cmd (k m : Int) : Value := .agg #[.int .u64 0, .int .u64 k, .int .u64 m, .int .i64 0, .slice none 0 0]
abbrev cmdCells (k m : Int) : Obj := .cells #[.int .u64 0, .int .u64 k, .int .u64 m, .int .i64 0, .slice none 0 0] 50

/-- What a sweep leaves: the results at the mark or above. -/
def Filtered (D : DataW Value) (m : Int) (D' : DataW Value) : Prop :=
  ∀ k, U64 k → Maps.has D' (.int .u64 k) = (Maps.has D (.int .u64 k) && decide (m ≤ k)) ∧ (Maps.has D (.int .u64 k) = true → m ≤ k → ∀ zd, D'.atKey (.int .u64 k) zd = D.atKey (.int .u64 k) zd)

/-- What settle makes of a session. -/
def Settled (s : Sess) (m : Int) (s' : Sess) : Prop :=
  s'.sb = s.sb ∧ ((m ≤ s.mark ∧ s' = s) ∨ (s.mark < m ∧ s'.mark = m ∧ ((Maps.size s.res < 2 * max s.swept 64 ∧ s'.mb = s.mb ∧ s'.res = s.res ∧ s'.swept = s.swept) ∨ (2 * max s.swept 64 ≤ Maps.size s.res ∧ Filtered s.res m s'.res ∧ s'.swept = Maps.size s'.res))))

theorem zero51 (w : World) : (zeroValue 51).run Try.prog w = .ok (.pointer none) w := by kernel_rfl
theorem zero46 (w : World) : (zeroValue 46).run Try.prog w = .ok (.slice none 0 0) w := by kernel_rfl

theorem look_some {w : World} {tb N : Nat} {T : DataW Value} {k : Int} {v : Value} (h : Om w tb N T) (hk : U64 k) (hv : ∀ zd, T.atKey (.int .u64 k) zd = .held v) :
    (Instr.lookup 42 (.map (some tb)) (.int .u64 k) false).run Try.prog w = .ok v w := by
  obtain ⟨v', ps, hrun, hR⟩ := World.ownsMap.lookup h law Try.underlying42 (zero51 w) (zd := .held (.pointer none)) (zp := []) rfl (key_of hk)
  rw [hv] at hR
  simp [tokR] at hR
  rw [hrun, hR.1]
theorem look_none {w : World} {tb N : Nat} {T : DataW Value} {k : Int} (h : Om w tb N T) (hk : U64 k) (hv : Maps.has T (.int .u64 k) = false) :
    (Instr.lookup 42 (.map (some tb)) (.int .u64 k) false).run Try.prog w = .ok (.pointer none) w := by
  obtain ⟨v', ps, hrun, hR⟩ := World.ownsMap.lookup h law Try.underlying42 (zero51 w) (zd := .held (.pointer none)) (zp := []) rfl (key_of hk)
  rw [atKey_of_not_has hv] at hR
  simp [tokR] at hR
  rw [hrun, hR.1]

set_option maxHeartbeats 1000000 in
theorem settle_low (w : World) (tb N : Nat) (T : DataW Value) (S : Int → Option Sess) (k m : Int) (s : Sess) (h : Inv w tb N T S) (hk : U64 k) (hs : S k = some s) (hm : m ≤ s.mark) :
    Calls Try.prog 41 #[.map (some tb), cmd k m] w fun e w' => e = .returned (.pointer (some ⟨s.sb, 0, none⟩)) ∧ ∃ nq, w' = (w.alloc (cmdCells k m)).drewN nq := by
  have hlk := look_some (h.alloc (cmdCells k m)).tab hk (h.ptr k s hs)
  have hb := (h.sess k s hs).1
  have h0 : w.cell? ⟨s.sb, 0, none⟩ = some (.int .u64 s.mark) := cell_of hb 0
  have hlt : s.sb < w.heap.size := h.own_lt (.inr ⟨k, s, hs, .inl rfl⟩)
  clear h hb hs
  go_enter Try.func41, Try.ntmps41
  go_wp2
  go_quiet (fail)
  go_wp2
  go_ret
  exact ⟨rfl, _, rfl⟩

theorem sess_setCell {w : World} {N : Nat} {s : Sess} (h : SessAt w N s) (hne : s.sb ≠ s.mb) {m : Int} (hm : U64 m) : SessAt (w.setCell ⟨s.sb, 0, none⟩ (.int .u64 m)) N { s with mark := m } := by
  refine ⟨?_, h.2.1.setCell (a := ⟨s.sb, 0, none⟩) hne.symm _, hm, h.2.2.2⟩
  exact setCell_blk h.1 0 _

/-- The mark is raised. -/
theorem Inv.raise {w : World} {tb N : Nat} {T : DataW Value} {S : Int → Option Sess} (h : Inv w tb N T S) {k m : Int} {s : Sess} (hs : S k = some s) (hm : U64 m) :
    Inv (w.setCell ⟨s.sb, 0, none⟩ (.int .u64 m)) tb N T (upd S k { s with mark := m }) :=
  h.update hs (Nat.le_refl _) rfl (sess_setCell (h.sess k s hs) (h.sb_ne_mb hs hs) hm) (h.tbmb k s hs) (h.low k s hs).2 (fun k' s' hk' hne => (h.apart k k' s s' hs hk' (fun e => hne e.symm)).2)
    (fun i _ h1 _ => Below.heap_setCell w ⟨s.sb, 0, none⟩ _ i h1)

theorem upd_same (S : Int → Option Sess) (k : Int) (s : Sess) : upd S k s k = some s := if_pos rfl
theorem upd_other {S : Int → Option Sess} {k k' : Int} {s : Sess} (h : k' ≠ k) : upd S k s k' = S k' := if_neg h
theorem upd_upd (S : Int → Option Sess) (k : Int) (s s' : Sess) : upd (upd S k s) k s' = upd S k s' := by
  funext k'; unfold upd; split <;> rfl

theorem run_len {w : World} {b N : Nat} {D : DataW Value} (h : Om w b N D) (ty : TypeId) : (Builtin.len_ #[80] ty #[.map (some b)]).run Try.prog w = .ok (.int .i64 (Maps.size D)) w := h.len Try.underlying80 ty

set_option maxRecDepth 100000 in
set_option maxHeartbeats 1000000 in
theorem settle_mid (w : World) (tb N : Nat) (T : DataW Value) (S : Int → Option Sess) (k m : Int) (s : Sess) (h : Inv w tb N T S) (hk : U64 k) (hmu : U64 m) (hN : N ≤ 100000) (hs : S k = some s) (hm : s.mark < m) (hsz : Maps.size s.res < 2 * max s.swept 64) :
    Calls Try.prog 41 #[.map (some tb), cmd k m] w fun e w' => e = .returned (.pointer (some ⟨s.sb, 0, none⟩)) ∧ Inv w' tb N T (upd S k { s with mark := m }) ∧ Keep (Own tb S) w w' := by
  have hlk := look_some (h.alloc (cmdCells k m)).tab hk (h.ptr k s hs)
  have hb := (h.sess k s hs).1
  have h0 : w.cell? ⟨s.sb, 0, none⟩ = some (.int .u64 s.mark) := cell_of hb 0
  have hf0 : w.frozen? ⟨s.sb, 0, none⟩ = false := free_of hb 0
  have hlt : s.sb < w.heap.size := h.own_lt (.inr ⟨k, s, hs, .inl rfl⟩)
  have hmn : ¬ m ≤ s.mark := by omega
  have HI := hide h
  have Hs := hide hs
  clear h hb hs
  go_enter Try.func41, Try.ntmps41
  go_wp2
  go_quiet (fail)
  go_wp2
  refine gen_wp (fun W => Inv W tb N T (upd S k { s with mark := m }) ∧ Keep (Own tb S) w W) ⟨((HI.out.alloc _).drewN _).raise Hs.out hmu, (((Keep.refl _ _).alloc _).drewN _).setCell (.inl (.inr ⟨k, s, Hs.out, .inl rfl⟩)) _⟩ ?_
  rintro W ⟨hI, hK⟩
  have hat := hI.sess k _ (upd_same _ _ _)
  have c1 : W.cell? ⟨s.sb, 1, none⟩ = some (.map (some s.mb)) := cell_of hat.1 1
  have c2 : W.cell? ⟨s.sb, 2, none⟩ = some (.int .i64 (s.swept : Int)) := cell_of hat.1 2
  have hlen : ∀ n ty, (Builtin.len_ #[80] ty #[.map (some s.mb)]).run Try.prog (W.drewN n) = .ok (.int .i64 (Maps.size s.res : Int)) (W.drewN n) := fun n ty => run_len (w := W.drewN n) (Om.of_block (w' := W.drewN n) hat.2.1 rfl) ty
  have hsw : s.swept ≤ N := hat.2.2.2
  have hsl : Maps.size s.res ≤ N := hat.2.1.size_le
  have HI' := hide hI
  have HK' := hide hK
  clear hI hK hat h0 hf0 hlk HI
  by_cases h64 : (s.swept : Int) < 64
  · have hcmp : ¬ 2 * (64 : Int) ≤ (Maps.size s.res : Int) := by omega
    go_quiet (fail)
    go_wp2
    all_goals
      go_ret
      exact ⟨rfl, HI'.out.drewN _, HK'.out.drewN _⟩
  · have hcmp : ¬ 2 * (s.swept : Int) ≤ (Maps.size s.res : Int) := by omega
    go_quiet (fail)
    go_wp2
    all_goals
      go_ret
      exact ⟨rfl, HI'.out.drewN _, HK'.out.drewN _⟩

/-- What the new map of a sweep holds when 'left' is still to come. -/
def Part (D : DataW Value) (m : Int) (left : Lit → Bool) (D' : DataW Value) : Prop :=
  ∀ k, U64 k → Maps.has D' (.int .u64 k) = (Maps.has D (.int .u64 k) && (decide (m ≤ k) && !left (.int .u64 k))) ∧ (Maps.has D' (.int .u64 k) = true → ∀ zd, D'.atKey (.int .u64 k) zd = D.atKey (.int .u64 k) zd)

theorem part_start (D : DataW Value) (m : Int) : Part D m (Maps.has D) (.map []) := by
  intro k hk
  have : Maps.has (DataW.map [] : DataW Value) (.int .u64 k) = false := rfl
  refine ⟨?_, fun h => by rw [this] at h; cases h⟩
  rw [this]
  cases Maps.has D (.int .u64 k) <;> simp

theorem part_end {D D' : DataW Value} {m : Int} {left : Lit → Bool} (h : Part D m left D') (hl : ∀ kl, left kl = false) : Filtered D m D' := by
  intro k hk
  obtain ⟨h1, h2⟩ := h k hk
  rw [hl] at h1
  simp at h1
  exact ⟨h1, fun ha hm zd => h2 (by rw [h1, ha]; simp [hm]) zd⟩

theorem same_key (x y : Int) : (Lit.int .u64 y).sameKey (.int .u64 x) = decide (y = x) := by
  by_cases h : y = x
  · subst h; rw [WideAt.sameKey_self (show WideAt.IsKeyLit (.int .u64 y) from trivial)]; simp
  · rw [sameKey_ne (key_ne h)]; simp [h]

/-- An entry below the mark is passed over. -/
theorem part_skip {D D' : DataW Value} {m x : Int} {left : Lit → Bool} (h : Part D m left D') (hx : ¬ m ≤ x) : Part D m (fun z => left z && !z.sameKey (.int .u64 x)) D' := by
  intro k hk
  obtain ⟨h1, h2⟩ := h k hk
  refine ⟨?_, h2⟩
  rw [h1]
  simp only [same_key]
  by_cases hkx : k = x
  · subst hkx; simp [hx]
  · simp [hkx]

/-- An entry at the mark or above is taken over. -/
theorem part_take {D D' : DataW Value} {m x : Int} {v : Value} {left : Lit → Bool} (h : Part D m left D') (hD' : IsMap D') (hxu : U64 x) (hx : m ≤ x) (hat : ∀ zd, D.atKey (.int .u64 x) zd = .held v) :
    Part D m (fun z => left z && !z.sameKey (.int .u64 x)) (D'.put (.int .u64 x) (.held v)) := by
  have hhas : Maps.has D (.int .u64 x) = true := has_true_of_atKey hat
  intro k hk
  obtain ⟨h1, h2⟩ := h k hk
  by_cases hkx : k = x
  · subst hkx
    refine ⟨?_, fun _ zd => by rw [atKey_put_same hD' (law.key (key_of hk)), hat]⟩
    rw [has_put_same hD' (law.key (key_of hk)), hhas]
    simp only [same_key]
    simp [hx]
  · refine ⟨?_, fun ha zd => ?_⟩
    · rw [has_put_other (key_ne hkx), h1]
      simp only [same_key]
      simp [hkx]
    · rw [has_put_other (key_ne hkx)] at ha
      rw [atKey_put_other (key_ne hkx)]
      exact h2 ha zd
end Go.Proofs.Qxb6600769a.Ses
