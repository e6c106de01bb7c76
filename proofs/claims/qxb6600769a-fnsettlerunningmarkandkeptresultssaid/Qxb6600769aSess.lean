import Derived.Test.Qxb6600769aProg
import Derived.WalkKit
import Derived.WalkSpells
import Derived.WalkLawsBesides
import Derived.Below
import Derived.Maps.OwnSet
import Derived.Maps.OwnOps
import Derived.Maps.RangeWalk
import Derived.Deep.QuietTactic
import Derived.BigQuiet
namespace Go.Proofs.Qxb6600769a.Ses
open Go.RowKit Go.Maps
set_option linter.unusedVariables false

theorem hide {p : Prop} (h : p) : Hid p := h
theorem ret_bool {a b : Bool} (h : a = b) : Ending.returned (.bool a) = .returned (.bool b) := by rw [h]

/-- The world behind a stop, under a name of its own. -/
theorem gen_wp {P : Program} {c : Code} {Q : Exit → Act → World → Prop} {a : Act} {w : World} (F : World → Prop) (hF : F w) (h : ∀ W, F W → c.wp P Q a W) : c.wp P Q a w := h w hF

/-- Every element reads as itself. -/
def tokR (v : Value) : Option (DataW Value × List MemPlace) := some (.held v, [])
theorem law : Keyed Try.prog 45 := int_keyed Try.underlying45

def U64 (k : Int) : Prop := (Lit.int .u64 k).wf = true
theorem U64.wf {k : Int} (h : U64 k) : (Lit.int .u64 k).wf = true := h
theorem U64.zero : U64 0 := by unfold U64; decide
theorem key_of {k : Int} (h : U64 k) : keyOf Try.prog 45 (.int .u64 k) = some (.int .u64 k) := keyOf_int_mk Try.underlying45 h.wf

abbrev Om (w : World) (b N : Nat) (D : DataW Value) : Prop := w.ownsMap Try.prog 45 tokR b N D

theorem Om.of_block {w w' : World} {b N : Nat} {D : DataW Value} (h : Om w b N D) (hb : w'.heap[b]? = w.heap[b]?) : Om w' b N D := by
  obtain ⟨es, clock, h1, h2⟩ := h
  exact ⟨es, clock, hb.trans h1, h2⟩
theorem Om.is_map {w : World} {b N : Nat} {D : DataW Value} (h : Om w b N D) : ∃ es clock, w.heap[b]? = some (.map es clock) := by
  obtain ⟨es, clock, h1, _⟩ := h
  exact ⟨es, clock, h1⟩

structure Sess where
  sb : Nat
  mb : Nat
  mark : Int
  swept : Nat
  res : DataW Value

def SessAt (w : World) (N : Nat) (s : Sess) : Prop :=
  w.heap[s.sb]? = some (.cells #[.int .u64 s.mark, .map (some s.mb), .int .i64 (s.swept : Int)] 82 (0, 0)) ∧ Om w s.mb N s.res ∧ U64 s.mark ∧ s.swept ≤ N

def Own (tb : Nat) (S : Int → Option Sess) (i : Nat) : Prop := i = tb ∨ ∃ k s, S k = some s ∧ (i = s.sb ∨ i = s.mb)
def upd (S : Int → Option Sess) (k : Int) (s : Sess) : Int → Option Sess := fun k' => if k' = k then some s else S k'

structure Inv (w : World) (tb N : Nat) (T : DataW Value) (S : Int → Option Sess) : Prop where
  tab : Om w tb N T
  no : ∀ k, S k = none → Maps.has T (.int .u64 k) = false
  ptr : ∀ k s, S k = some s → ∀ zd, T.atKey (.int .u64 k) zd = .held (.pointer (some ⟨s.sb, 0, none⟩))
  sess : ∀ k s, S k = some s → SessAt w N s
  apart : ∀ k k' s s', S k = some s → S k' = some s' → k ≠ k' → s.sb ≠ s'.sb ∧ s.mb ≠ s'.mb
  tbmb : ∀ k s, S k = some s → s.mb ≠ tb
  low : ∀ k s, S k = some s → tb ≤ s.sb ∧ tb ≤ s.mb

theorem kind_ne {w : World} {i j : Nat} {cs : Array Value} {t : TypeId} {fr : Nat × Nat} (hi : w.heap[i]? = some (.cells cs t fr)) (hj : ∃ es clock, w.heap[j]? = some (.map es clock)) : i ≠ j := by
  rintro rfl
  obtain ⟨es, clock, h⟩ := hj
  rw [hi] at h
  cases h

theorem SessAt.of_block {w w' : World} {N : Nat} {s : Sess} (h : SessAt w N s) (h1 : w'.heap[s.sb]? = w.heap[s.sb]?) (h2 : w'.heap[s.mb]? = w.heap[s.mb]?) : SessAt w' N s :=
  ⟨h1.trans h.1, h.2.1.of_block h2, h.2.2⟩
theorem SessAt.mono {w : World} {N N' : Nat} {s : Sess} (h : SessAt w N s) (hN : N ≤ N') : SessAt w N' s := ⟨h.1, h.2.1.mono hN, h.2.2.1, Nat.le_trans h.2.2.2 hN⟩

section
variable {w w' : World} {tb N : Nat} {T : DataW Value} {S : Int → Option Sess}

theorem Inv.kept (h : Inv w tb N T S) (hs : ∀ i, Own tb S i → w'.heap[i]? = w.heap[i]?) : Inv w' tb N T S :=
  ⟨h.tab.of_block (hs _ (.inl rfl)), h.no, h.ptr, fun k s hk => (h.sess k s hk).of_block (hs _ (.inr ⟨k, s, hk, .inl rfl⟩)) (hs _ (.inr ⟨k, s, hk, .inr rfl⟩)), h.apart, h.tbmb, h.low⟩

theorem Inv.mono (h : Inv w tb N T S) {N' : Nat} (hN : N ≤ N') : Inv w tb N' T S :=
  ⟨h.tab.mono hN, h.no, h.ptr, fun k s hk => (h.sess k s hk).mono hN, h.apart, h.tbmb, h.low⟩

theorem Inv.own_lt (h : Inv w tb N T S) {i : Nat} (hi : Own tb S i) : i < w.heap.size := by
  rcases hi with rfl | ⟨k, s, hk, rfl | rfl⟩
  · exact h.tab.lt
  · exact (Array.getElem?_eq_some_iff.1 (h.sess k s hk).1).1
  · exact (h.sess k s hk).2.1.lt

theorem Inv.alloc (h : Inv w tb N T S) (o : Obj) : Inv (w.alloc o) tb N T S :=
  h.kept (fun i hi => Below.heap_alloc w o i (h.own_lt hi))
theorem Inv.drewN (h : Inv w tb N T S) (n : Nat) : Inv (w.drewN n) tb N T S := h.kept (fun _ _ => rfl)

theorem Inv.sb_ne_mb (h : Inv w tb N T S) {k k' : Int} {s s' : Sess} (hk : S k = some s) (hk' : S k' = some s') : s.sb ≠ s'.mb :=
  kind_ne (h.sess k s hk).1 (h.sess k' s' hk').2.1.is_map
theorem Inv.sb_ne_tb (h : Inv w tb N T S) {k : Int} {s : Sess} (hk : S k = some s) : s.sb ≠ tb := kind_ne (h.sess k s hk).1 h.tab.is_map

/-- The fields of one session turn. -/
theorem Inv.update (h : Inv w tb N T S) {k : Int} {s s1 : Sess} (hk : S k = some s) {N' : Nat} (hN : N ≤ N') (hsb : s1.sb = s.sb) (hat : SessAt w' N' s1) (hmb : s1.mb ≠ tb) (hlo : tb ≤ s1.mb)
    (hfresh : ∀ k' s', S k' = some s' → k' ≠ k → s1.mb ≠ s'.mb) (hsame : ∀ i, Own tb S i → i ≠ s.sb → i ≠ s.mb → w'.heap[i]? = w.heap[i]?) : Inv w' tb N' T (upd S k s1) where
  tab := Om.of_block (h.tab.mono hN) (hsame _ (.inl rfl) (h.sb_ne_tb hk).symm (h.tbmb k s hk).symm)
  no k' hk' := by
    unfold upd at hk'
    split at hk'
    · cases hk'
    · exact h.no k' hk'
  ptr k' s' hk' := by
    unfold upd at hk'
    split at hk'
    · rename_i e
      cases hk'
      rw [e, hsb]; exact h.ptr k s hk
    · exact h.ptr k' s' hk'
  sess k' s' hk' := by
    unfold upd at hk'
    split at hk'
    · cases hk'; exact hat
    · rename_i e
      have ha := h.apart k' k s' s hk' hk e
      exact ((h.sess k' s' hk').mono hN).of_block (hsame _ (.inr ⟨k', s', hk', .inl rfl⟩) ha.1 (h.sb_ne_mb hk' hk)) (hsame _ (.inr ⟨k', s', hk', .inr rfl⟩) (h.sb_ne_mb hk hk').symm ha.2)
  apart k1 k2 s1' s2' h1 h2 hne := by
    unfold upd at h1 h2
    split at h1
    · rename_i e1
      cases h1
      split at h2
      · rename_i e2; exact absurd (e1.trans e2.symm) hne
      · rename_i e2
        rw [hsb]
        exact ⟨(h.apart k k2 s s2' hk h2 (fun e => e2 e.symm)).1, hfresh k2 s2' h2 e2⟩
    · rename_i e1
      split at h2
      · cases h2
        rw [hsb]
        exact ⟨(h.apart k1 k s1' s h1 hk e1).1, (hfresh k1 s1' h1 e1).symm⟩
      · exact h.apart k1 k2 s1' s2' h1 h2 hne
  tbmb k' s' hk' := by
    unfold upd at hk'
    split at hk'
    · cases hk'; exact hmb
    · exact h.tbmb k' s' hk'
  low k' s' hk' := by
    unfold upd at hk'
    split at hk'
    · cases hk'
      rw [hsb]
      exact ⟨(h.low k s hk).1, hlo⟩
    · exact h.low k' s' hk'

theorem key_ne {k k' : Int} (h : k' ≠ k) : (Lit.int .u64 k') ≠ .int .u64 k := fun e => h (by cases e; rfl)

/-- A new session. -/
theorem Inv.insert (h : Inv w tb N T S) {k : Int} {s1 : Sess} (hku : U64 k) (hk : S k = none) {N' : Nat} (hN : N ≤ N') (htab : Om w' tb N' (T.put (.int .u64 k) (.held (.pointer (some ⟨s1.sb, 0, none⟩))))) (hat : SessAt w' N' s1) (hnew : w.heap.size ≤ s1.sb ∧ w.heap.size ≤ s1.mb)
    (hsame : ∀ i, Own tb S i → i ≠ tb → w'.heap[i]? = w.heap[i]?) : Inv w' tb N' (T.put (.int .u64 k) (.held (.pointer (some ⟨s1.sb, 0, none⟩)))) (upd S k s1) where
  tab := htab
  no k' hk' := by
    unfold upd at hk'
    split at hk'
    · cases hk'
    · rename_i e
      rw [has_put_other (key_ne e)]; exact h.no k' hk'
  ptr k' s' hk' zd := by
    unfold upd at hk'
    split at hk'
    · rename_i e
      cases hk'
      rw [e, atKey_put_same h.tab.isMap (law.key (key_of hku))]
    · rename_i e
      rw [atKey_put_other (key_ne e)]; exact h.ptr k' s' hk' zd
  sess k' s' hk' := by
    unfold upd at hk'
    split at hk'
    · cases hk'; exact hat
    · rename_i e
      exact ((h.sess k' s' hk').mono hN).of_block (hsame _ (.inr ⟨k', s', hk', .inl rfl⟩) (h.sb_ne_tb hk')) (hsame _ (.inr ⟨k', s', hk', .inr rfl⟩) (h.tbmb k' s' hk'))
  apart k1 k2 s1' s2' h1 h2 hne := by
    have lt : ∀ k' s', S k' = some s' → s'.sb < w.heap.size ∧ s'.mb < w.heap.size := fun k' s' hk' => ⟨h.own_lt (.inr ⟨k', s', hk', .inl rfl⟩), h.own_lt (.inr ⟨k', s', hk', .inr rfl⟩)⟩
    unfold upd at h1 h2
    split at h1
    · rename_i e1
      cases h1
      split at h2
      · rename_i e2; exact absurd (e1.trans e2.symm) hne
      · have := lt k2 s2' h2
        exact ⟨by omega, by omega⟩
    · split at h2
      · cases h2
        have := lt k1 s1' h1
        exact ⟨by omega, by omega⟩
      · exact h.apart k1 k2 s1' s2' h1 h2 hne
  tbmb k' s' hk' := by
    unfold upd at hk'
    split at hk'
    · cases hk'
      have := h.tab.lt
      omega
    · exact h.tbmb k' s' hk'
  low k' s' hk' := by
    unfold upd at hk'
    split at hk'
    · cases hk'
      have := h.tab.lt
      exact ⟨by omega, by omega⟩
    · exact h.low k' s' hk'
end

/-- Outside O every block is as it was. -/
structure Keep (O : Nat → Prop) (w w' : World) : Prop where
  os : w'.os = w.os
  tape : w'.tape = w.tape
  output : w'.output = w.output
  size : w.heap.size ≤ w'.heap.size
  block : ∀ i, i < w.heap.size → ¬ O i → w'.heap[i]? = w.heap[i]?

theorem Keep.refl (O : Nat → Prop) (w : World) : Keep O w w := ⟨rfl, rfl, rfl, Nat.le_refl _, fun _ _ _ => rfl⟩
theorem Keep.trans {O O' : Nat → Prop} {a b c : World} (h : Keep O a b) (k : Keep O' b c) (hO : ∀ i, i < a.heap.size → O' i → O i) : Keep O a c :=
  ⟨k.os.trans h.os, k.tape.trans h.tape, k.output.trans h.output, Nat.le_trans h.size k.size, fun i hi hn => (k.block i (Nat.lt_of_lt_of_le hi h.size) (fun ho => hn (hO i hi ho))).trans (h.block i hi hn)⟩
theorem Keep.alloc {O : Nat → Prop} {a b : World} (h : Keep O a b) (o : Obj) : Keep O a (b.alloc o) :=
  h.trans (O' := fun _ => False) ⟨rfl, rfl, rfl, by simp, fun i hi _ => Below.heap_alloc b o i hi⟩ (fun _ _ f => f.elim)
theorem Keep.drewN {O : Nat → Prop} {a b : World} (h : Keep O a b) (n : Nat) : Keep O a (b.drewN n) :=
  h.trans (O' := fun _ => False) ⟨rfl, rfl, rfl, Nat.le_refl _, fun _ _ _ => rfl⟩ (fun _ _ f => f.elim)
theorem Keep.setCell {O : Nat → Prop} {a b : World} (h : Keep O a b) {p : Addr} (hp : O p.block ∨ a.heap.size ≤ p.block) (v : Value) : Keep O a (b.setCell p v) :=
  h.trans (O' := fun i => i = p.block) ⟨rfl, rfl, rfl, by simp [World.setCell], fun i hi hn => Below.heap_setCell b p v i hn⟩ (fun i hi e => by
    rcases hp with hp | hp
    · rw [e]; exact hp
    · omega)
theorem Keep.grown {O : Nat → Prop} {a b c : World} (h : Keep O a b) {row : Option Nat} (hg : b.grownBy c row) (hr : ∀ j, row = some j → O j ∨ a.heap.size ≤ j) : Keep O a c :=
  h.trans (O' := fun i => row = some i) ⟨hg.os, hg.tape, hg.output, hg.size, fun i hi hn => hg.block i hi (fun e => hn e.symm)⟩ (fun i hi e => by
    rcases hr i e with hr | hr
    · exact hr
    · omega)
theorem Keep.below {O : Nat → Prop} {a b : World} (h : Keep O a b) {B : Nat} (hB : B ≤ a.heap.size) (hO : ∀ i, O i → B ≤ i) : Below B a b :=
  ⟨h.os, h.tape, h.output, h.size, fun i hi => h.block i (by omega) (fun ho => by have := hO i ho; omega)⟩
theorem Keep.mono {O O' : Nat → Prop} {a b : World} (h : Keep O a b) (hO : ∀ i, i < a.heap.size → O i → O' i) : Keep O' a b :=
  ⟨h.os, h.tape, h.output, h.size, fun i hi hn => h.block i hi (fun ho => hn (hO i hi ho))⟩

theorem cell_of {w : World} {b : Nat} {cs : Array Value} {t : TypeId} {fr : Nat × Nat} (h : w.heap[b]? = some (.cells cs t fr)) (i : Nat) : w.cell? ⟨b, i, none⟩ = cs[i]? := by simp [World.cell?, h]
theorem free_of {w : World} {b : Nat} {cs : Array Value} {t : TypeId} (h : w.heap[b]? = some (.cells cs t (0, 0))) (i : Nat) : w.frozen? ⟨b, i, none⟩ = false := by simp [World.frozen?, h]
theorem setCell_blk {w : World} {b : Nat} {cs : Array Value} {t : TypeId} {fr : Nat × Nat} (h : w.heap[b]? = some (.cells cs t fr)) (i : Nat) (v : Value) : (w.setCell ⟨b, i, none⟩ v).heap[b]? = some (.cells (cs.setIfInBounds i v) t fr) := by
  simp [World.setCell, Array.getElem?_modify, h]
end Go.Proofs.Qxb6600769a.Ses
