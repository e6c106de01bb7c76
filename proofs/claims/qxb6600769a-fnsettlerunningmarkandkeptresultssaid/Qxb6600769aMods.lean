import Derived.Test.Qxb6600769aModel
import Derived.Test.Qxb6600769aCloneB
namespace Go.Proofs.Qxb6600769a.Ses
open Go.RowKit Go.Maps
set_option linter.unusedVariables false

theorem row_other {w w' : World} {B s n : Nat} {e : TypeId} {v : Value} {xs : List Value} (h : w.ownsRow B e s v n xs) (hk : ∀ b, v.ownBlock = some b → w'.heap[b]? = w.heap[b]?) : w'.ownsRow B e s v n xs := by
  obtain ⟨hl, h1 | ⟨g, cap, cur, hv, hb, hg, hr⟩⟩ := h
  · exact ⟨hl, .inl h1⟩
  · exact ⟨hl, .inr ⟨g, cap, cur, hv, hb, (hk g (by rw [hv]; rfl)).trans hg, hr⟩⟩
theorem row_set {w : World} {B n g c : Nat} {e : TypeId} {xs : List Value} (h : w.ownsRow B e 1 (.slice (some ⟨g, 0, none⟩) n c) n xs) (i : Nat) (v : Value) : (w.setCell ⟨g, i, none⟩ v).ownsRow B e 1 (.slice (some ⟨g, 0, none⟩) n c) n (xs.set i v) := by
  obtain ⟨hl, ⟨h1, _⟩ | ⟨g', cap, cur, hv, hb, hg, hn, hm, hs, ht⟩⟩ := h
  · cases h1
  · cases hv
    refine ⟨by simpa using hl, .inr ⟨g, c, cur.setIfInBounds i v, rfl, hb, setCell_blk hg i v, hn, hm, by simpa using hs, ?_⟩⟩
    rw [Array.toList_setIfInBounds, List.take_set, ht]
theorem row_kind {w : World} {B s n : Nat} {e : TypeId} {v : Value} {xs : List Value} (h : w.ownsRow B e s v n xs) {b : Nat} (hb : v.ownBlock = some b) : ∃ cs, w.heap[b]? = some (.cells cs e (0, 0)) := by
  obtain ⟨hl, ⟨rfl, _⟩ | ⟨g, cap, cur, rfl, _, hg, _⟩⟩ := h
  · cases hb
  · cases hb; exact ⟨cur, hg⟩
theorem kinds_ne {w : World} {i j : Nat} {cs cs' : Array Value} {t t' : TypeId} {fr fr' : Nat × Nat} (hi : w.heap[i]? = some (.cells cs t fr)) (hj : w.heap[j]? = some (.cells cs' t' fr')) (ht : t ≠ t') : i ≠ j := by
  rintro rfl
  rw [hi] at hj
  cases hj
  exact ht rfl

/-- A block of cells of another kind belongs to no session. -/
theorem Inv.not_own {w : World} {tb N : Nat} {T : DataW Value} {S : Int → Option Sess} (h : Inv w tb N T S) {b : Nat} {cs : Array Value} {e : TypeId} {fr : Nat × Nat} (hb : w.heap[b]? = some (.cells cs e fr)) (he : e ≠ 82) : ¬ Own tb S b := by
  rintro (rfl | ⟨k, s, hk, rfl | rfl⟩)
  · exact kind_ne hb h.tab.is_map rfl
  · exact kinds_ne hb (h.sess k s hk).1 he rfl
  · exact kind_ne hb (h.sess k s hk).2.1.is_map rfl

/-- The six cells of a model in a row of cells. -/
structure Six (cs : Array Value) (o : Nat) (m : Mod) : Prop where
  c0 : cs[o]? = some (.int .u64 m.id)
  c1 : cs[o + 1]? = some (.pointer (some ⟨m.sb, 0, none⟩))
  c2 : cs[o + 2]? = some (.int .u64 m.mark)
  c3 : cs[o + 3]? = some m.iv
  c4 : cs[o + 4]? = some m.dv
  c5 : cs[o + 5]? = some (.int .i64 (m.last : Int))
theorem Six.at {w : World} {g : Nat} {cs : Array Value} {t : TypeId} {fr : Nat × Nat} {o : Nat} {m : Mod} (h : Six cs o m) (hg : w.heap[g]? = some (.cells cs t fr)) : At6 w g o m :=
  ⟨(cell_of hg _).trans h.c0, (cell_of hg _).trans h.c1, (cell_of hg _).trans h.c2, (cell_of hg _).trans h.c3, (cell_of hg _).trans h.c4, (cell_of hg _).trans h.c5⟩
theorem Six.of {w : World} {g : Nat} {cs : Array Value} {t : TypeId} {fr : Nat × Nat} {o : Nat} {m : Mod} (h : At6 w g o m) (hg : w.heap[g]? = some (.cells cs t fr)) : Six cs o m :=
  ⟨(cell_of hg _).symm.trans h.c0, (cell_of hg _).symm.trans h.c1, (cell_of hg _).symm.trans h.c2, (cell_of hg _).symm.trans h.c3, (cell_of hg _).symm.trans h.c4, (cell_of hg _).symm.trans h.c5⟩
theorem Six.congr {cs cs' : Array Value} {o : Nat} {m : Mod} (h : Six cs o m) (he : ∀ k, k < 6 → cs'[o + k]? = cs[o + k]?) : Six cs' o m :=
  ⟨(he 0 (by omega)).trans h.c0, (he 1 (by omega)).trans h.c1, (he 2 (by omega)).trans h.c2, (he 3 (by omega)).trans h.c3, (he 4 (by omega)).trans h.c4, (he 5 (by omega)).trans h.c5⟩

/-- The blocks that belong to one model. -/
def Mine (g : Nat) (m : Mod) (i : Nat) : Prop := i = g ∨ m.iv.ownBlock = some i ∨ m.dv.ownBlock = some i

/-- One model is turned to another; nothing besides. -/
structure ModOut (w : World) (g o B : Nat) (m m' : Mod) (w' : World) : Prop where
  keep : Keep (Mine g m) w w'
  rows : Rows2 w' B m'
  blk : ∃ cs cs', w.heap[g]? = some (.cells cs 57 (0, 0)) ∧ w'.heap[g]? = some (.cells cs' 57 (0, 0)) ∧ cs'.size = cs.size ∧ Six cs' o m' ∧ ∀ k, (k < o ∨ o + 6 ≤ k) → cs'[k]? = cs[k]?
  ib : ∀ b, m'.iv.ownBlock = some b → m.iv.ownBlock = some b ∨ w.heap.size ≤ b
  db : ∀ b, m'.dv.ownBlock = some b → m.dv.ownBlock = some b ∨ w.heap.size ≤ b

structure ModInv (w : World) (B : Nat) (v : Value) (n : Nat) (M : Nat → Mod) : Prop where
  row : (v = .slice none 0 0 ∧ n = 0) ∨ ∃ g c cs, v = .slice (some ⟨g, 0, none⟩) n c ∧ B ≤ g ∧ w.heap[g]? = some (.cells cs 57 (0, 0)) ∧ n ≤ c ∧ c ≤ maxLen ∧ cs.size = c * 6 ∧ ∀ i, i < n → Six cs (i * 6) (M i)
  rows : ∀ i, i < n → Rows2 w B (M i)
  apart : ∀ i j, i < n → j < n → i ≠ j → (∀ b, (M i).iv.ownBlock = some b → (M j).iv.ownBlock ≠ some b) ∧ (∀ b, (M i).dv.ownBlock = some b → (M j).dv.ownBlock ≠ some b)

def setM (M : Nat → Mod) (i : Nat) (m : Mod) : Nat → Mod := fun j => if j = i then m else M j
theorem setM_same (M : Nat → Mod) (i : Nat) (m : Mod) : setM M i m i = m := if_pos rfl
theorem setM_other {M : Nat → Mod} {i j : Nat} {m : Mod} (h : j ≠ i) : setM M i m j = M j := if_neg h

/-- Of the blocks of cells only those of a kind of the model's matter. -/
theorem ModInv.keep {w w' : World} {B n : Nat} {v : Value} {M : Nat → Mod} (h : ModInv w B v n M) (hk : ∀ (b : Nat) (cs : Array Value) (e : TypeId), w.heap[b]? = some (Obj.cells cs e (0, 0)) → e ≠ 82 → e ≠ 50 → e ≠ 48 → w'.heap[b]? = w.heap[b]?) : ModInv w' B v n M where
  row := by
    rcases h.row with h0 | ⟨g, c, cs, hv, hb, hg, hr⟩
    · exact .inl h0
    · exact .inr ⟨g, c, cs, hv, hb, (hk g cs 57 hg (by decide) (by decide) (by decide)).trans hg, hr⟩
  rows i hi := ⟨row_other (h.rows i hi).ir (fun b hb => by
      obtain ⟨cs, hc⟩ := row_kind (h.rows i hi).ir hb
      exact hk b cs 45 hc (by decide) (by decide) (by decide)), row_other (h.rows i hi).dr (fun b hb => by
      obtain ⟨cs, hc⟩ := row_kind (h.rows i hi).dr hb
      exact hk b cs 46 hc (by decide) (by decide) (by decide))⟩
  apart := h.apart
theorem lt_of_blk {w : World} {b : Nat} {o : Obj} (h : w.heap[b]? = some o) : b < w.heap.size := (Array.getElem?_eq_some_iff.1 h).1
theorem ModInv.alloc {w : World} {B n : Nat} {v : Value} {M : Nat → Mod} (h : ModInv w B v n M) (o : Obj) : ModInv (w.alloc o) B v n M := h.keep fun b cs e hb _ _ _ => Below.heap_alloc w o b (lt_of_blk hb)
theorem ModInv.drewN {w : World} {B n : Nat} {v : Value} {M : Nat → Mod} (h : ModInv w B v n M) (k : Nat) : ModInv (w.drewN k) B v n M := h.keep fun b cs e hb _ _ _ => rfl
theorem ModInv.settle {w w' : World} {B n tb N : Nat} {T : DataW Value} {S : Int → Option Sess} {v : Value} {M : Nat → Mod} (h : ModInv w B v n M) (hI : Inv w tb N T S) (hK : Keep (Own tb S) w w') : ModInv w' B v n M := h.keep fun b cs e hb he _ _ => hK.block b (lt_of_blk hb) (hI.not_own hb he)

theorem ModInv.out {w w' : World} {B n g c i : Nat} {v : Value} {M : Nat → Mod} {m' : Mod} (h : ModInv w B v n M) (hi : i < n) (hv : v = .slice (some ⟨g, 0, none⟩) n c) (ho : ModOut w g (i * 6) B (M i) m' w') : ModInv w' B v n (setM M i m') := by
  have hgi : ∃ cs, w.heap[g]? = some (.cells cs 57 (0, 0)) := by obtain ⟨cs, _, hg, _⟩ := ho.blk; exact ⟨cs, hg⟩
  refine ⟨?_, fun j hj => ?_, fun j l hj hl hne => ?_⟩
  · rcases h.row with ⟨h0, _⟩ | ⟨g', c', cs, hv', hb, hg, hn, hc, hs, h6⟩
    · rw [h0] at hv; cases hv
    · rw [hv'] at hv
      cases hv
      obtain ⟨cs1, cs2, hg1, hg2, hsz, h62, hoth⟩ := ho.blk
      rw [hg] at hg1
      cases hg1
      refine .inr ⟨g, c, cs2, hv', hb, hg2, hn, hc, by omega, fun j hj => ?_⟩
      by_cases e : j = i
      · subst e; rw [setM_same]; exact h62
      · rw [setM_other e]
        exact (h6 j hj).congr (fun k hk => hoth _ (by omega))
  · by_cases e : j = i
    · subst e; rw [setM_same]; exact ho.rows
    · rw [setM_other e]
      obtain ⟨csg, hg⟩ := hgi
      refine ⟨row_other (h.rows j hj).ir (fun b hb => ?_), row_other (h.rows j hj).dr (fun b hb => ?_)⟩
      · obtain ⟨cs, hc⟩ := row_kind (h.rows j hj).ir hb
        refine ho.keep.block b (lt_of_blk hc) ?_
        rintro (rfl | h1 | h1)
        · exact kinds_ne hc hg (by decide) rfl
        · exact (h.apart i j hi hj (fun e' => e e'.symm)).1 b h1 hb
        · obtain ⟨cs', hc'⟩ := row_kind (h.rows i hi).dr h1
          exact kinds_ne hc hc' (by decide) rfl
      · obtain ⟨cs, hc⟩ := row_kind (h.rows j hj).dr hb
        refine ho.keep.block b (lt_of_blk hc) ?_
        rintro (rfl | h1 | h1)
        · exact kinds_ne hc hg (by decide) rfl
        · obtain ⟨cs', hc'⟩ := row_kind (h.rows i hi).ir h1
          exact kinds_ne hc hc' (by decide) rfl
        · exact (h.apart i j hi hj (fun e' => e e'.symm)).2 b h1 hb
  · have hlti : ∀ k, k < n → ∀ b, (M k).iv.ownBlock = some b → b < w.heap.size := fun k hk b hb => by
      obtain ⟨cs, hc⟩ := row_kind (h.rows k hk).ir hb; exact lt_of_blk hc
    have hltd : ∀ k, k < n → ∀ b, (M k).dv.ownBlock = some b → b < w.heap.size := fun k hk b hb => by
      obtain ⟨cs, hc⟩ := row_kind (h.rows k hk).dr hb; exact lt_of_blk hc
    by_cases e : j = i
    · subst e
      rw [setM_same, setM_other (fun e => hne e.symm)]
      refine ⟨fun b h1 h2 => ?_, fun b h1 h2 => ?_⟩
      · rcases ho.ib b h1 with h3 | h3
        · exact (h.apart j l hj hl hne).1 b h3 h2
        · have := hlti l hl b h2; omega
      · rcases ho.db b h1 with h3 | h3
        · exact (h.apart j l hj hl hne).2 b h3 h2
        · have := hltd l hl b h2; omega
    · rw [setM_other e]
      by_cases e2 : l = i
      · subst e2
        rw [setM_same]
        refine ⟨fun b h1 h2 => ?_, fun b h1 h2 => ?_⟩
        · rcases ho.ib b h2 with h3 | h3
          · exact (h.apart j l hj hl hne).1 b h1 h3
          · have := hlti j hj b h1; omega
        · rcases ho.db b h2 with h3 | h3
          · exact (h.apart j l hj hl hne).2 b h1 h3
          · have := hltd j hj b h1; omega
      · rw [setM_other e2]
        exact h.apart j l hj hl hne

/-- A turn of one model leaves the sessions as they were. -/
theorem Inv.out {w w' : World} {tb N g o B : Nat} {T : DataW Value} {S : Int → Option Sess} {m m' : Mod} (h : Inv w tb N T S) (hR : Rows2 w B m) (ho : ModOut w g o B m m' w') : Inv w' tb N T S := by
  refine h.kept fun i hi => ho.keep.block i (h.own_lt hi) ?_
  obtain ⟨cs, _, hg, _⟩ := ho.blk
  rintro (rfl | h1 | h1)
  · exact h.not_own hg (by decide) hi
  · obtain ⟨cs', hc'⟩ := row_kind hR.ir h1
    exact h.not_own hc' (by decide) hi
  · obtain ⟨cs', hc'⟩ := row_kind hR.dr h1
    exact h.not_own hc' (by decide) hi
theorem ModOut.below {w w' : World} {g o B : Nat} {m m' : Mod} (ho : ModOut w g o B m m' w') (hR : Rows2 w B m) (hB : B ≤ w.heap.size) (hg : B ≤ g) : Below B w w' :=
  ho.keep.below hB (fun i hi => by
    rcases hi with rfl | h1 | h1
    · exact hg
    · exact (hR.ir.lt i h1).1
    · exact (hR.dr.lt i h1).1)

/-- The row of models for the law on append. -/
theorem ModInv.owns {w : World} {B n : Nat} {v : Value} {M : Nat → Mod} (h : ModInv w B v n M) : ∃ xs, w.ownsRow B 57 6 v n xs ∧ xs.length = n * 6 ∧ ∀ i, i < n → Six xs.toArray (i * 6) (M i) := by
  rcases h.row with ⟨rfl, rfl⟩ | ⟨g, c, cs, rfl, hb, hg, hn, hc, hs, h6⟩
  · exact ⟨[], World.ownsRow_nil .., rfl, fun i hi => by omega⟩
  · have hl : (cs.toList.take (n * 6)).length = n * 6 := by
      rw [List.length_take, Array.length_toList, hs]
      have := Nat.mul_le_mul_right 6 hn
      omega
    refine ⟨cs.toList.take (n * 6), ⟨hl, .inr ⟨g, c, cs, rfl, hb, hg, hn, hc, hs, rfl⟩⟩, hl, fun i hi => (h6 i hi).congr (fun k hk => ?_)⟩
    rw [List.getElem?_toArray, List.getElem?_take, if_pos (by omega), Array.getElem?_toList]

/-- One model more, behind the append. -/
theorem ModInv.push {w w' : World} {B n : Nat} {v v' : Value} {M : Nat → Mod} {xs : List Value} (h : ModInv w B v n M) (hl : xs.length = n * 6) (h6 : ∀ i, i < n → Six xs.toArray (i * 6) (M i)) (id mark : Int) (sb last : Nat)
    (hown : w'.ownsRow B 57 6 v' (n + 1) (xs ++ (⟨id, sb, mark, none, 0, none, 0, last, []⟩ : Mod).cells)) (hg : w.grownBy w' v.ownBlock) : ModInv w' B v' (n + 1) (setM M n ⟨id, sb, mark, none, 0, none, 0, last, []⟩) := by
  refine ⟨?_, fun j hj => ?_, fun j l hj hl' hne => ?_⟩
  · obtain ⟨_, ⟨_, h0⟩ | ⟨g, c, cs, hv, hb, hgg, hn, hc, hs, ht⟩⟩ := hown
    · omega
    · refine .inr ⟨g, c, cs, hv, hb, hgg, hn, hc, hs, fun i hi => ?_⟩
      have hcs : ∀ k, k < (n + 1) * 6 → cs[k]? = (xs ++ (⟨id, sb, mark, none, 0, none, 0, last, []⟩ : Mod).cells)[k]? := fun k hk => by
        rw [← ht, List.getElem?_take, if_pos hk, Array.getElem?_toList]
      by_cases e : i = n
      · subst e
        rw [setM_same]
        have hr : ∀ k, k < 6 → cs[i * 6 + k]? = (⟨id, sb, mark, none, 0, none, 0, last, []⟩ : Mod).cells[k]? := fun k hk => by
          rw [hcs _ (by omega), List.getElem?_append_right (by omega), hl]
          congr 1
          omega
        exact ⟨hr 0 (by omega), hr 1 (by omega), hr 2 (by omega), hr 3 (by omega), hr 4 (by omega), hr 5 (by omega)⟩
      · rw [setM_other e]
        exact (h6 i (by omega)).congr (fun k hk => by rw [hcs _ (by omega), List.getElem?_append_left (by omega), List.getElem?_toArray])
  · by_cases e : j = n
    · subst e
      rw [setM_same]
      exact ⟨World.ownsRow_nil .., World.ownsRow_nil ..⟩
    · rw [setM_other e]
      have hj' : j < n := by omega
      have hvk : ∀ (b : Nat) (cs : Array Value) (e : TypeId), w.heap[b]? = some (.cells cs e (0, 0)) → e ≠ 57 → some b ≠ v.ownBlock := fun b cs e hb he h1 => by
        rcases h.row with ⟨rfl, _⟩ | ⟨g, c, cs', rfl, _, hgg, _⟩
        · cases h1
        · cases h1
          exact kinds_ne hb hgg he rfl
      refine ⟨row_other (h.rows j hj').ir (fun b hb => ?_), row_other (h.rows j hj').dr (fun b hb => ?_)⟩
      · obtain ⟨cs, hc⟩ := row_kind (h.rows j hj').ir hb
        exact hg.block b (lt_of_blk hc) (hvk b cs 45 hc (by decide))
      · obtain ⟨cs, hc⟩ := row_kind (h.rows j hj').dr hb
        exact hg.block b (lt_of_blk hc) (hvk b cs 46 hc (by decide))
  · by_cases e : j = n
    · subst e
      rw [setM_same]
      exact ⟨fun b h1 => (by cases h1), fun b h1 => (by cases h1)⟩
    · rw [setM_other e]
      by_cases e2 : l = n
      · subst e2
        rw [setM_same]
        exact ⟨fun b _ h1 => (by cases h1), fun b _ h1 => (by cases h1)⟩
      · rw [setM_other e2]
        exact h.apart j l (by omega) (by omega) hne

/-- The bytes of a slice that was cloned. -/
def DataOK (W : World) (v : Value) : Prop := ∃ A L, v = .slice A L L ∧ BytesIn W A L L ∧ L ≤ 1048576

/-- A model and a session say the same. -/
structure Fits (m : Mod) (s : Sess) : Prop where
  sb : m.sb = s.sb
  agree : Agree m.K s.res
  mark : m.mark = s.mark
  last : m.last = s.swept

structure Link (W : World) (S : Int → Option Sess) (n N : Nat) (M : Nat → Mod) : Prop where
  to : ∀ i, i < n → ∃ s, S (M i).id = some s ∧ Fits (M i) s
  all : ∀ k s, S k = some s → ∃ i, i < n ∧ (M i).id = k
  once : ∀ i j, i < n → j < n → (M i).id = (M j).id → i = j
  small : ∀ i, i < n → (M i).K.length ≤ N
  bytes : ∀ i, i < n → ∀ p ∈ (M i).K, DataOK W p.2

theorem Link.mono {W : World} {S : Int → Option Sess} {n N N' : Nat} {M : Nat → Mod} (h : Link W S n N M) (hN : N ≤ N') : Link W S n N' M := ⟨h.to, h.all, h.once, fun i hi => Nat.le_trans (h.small i hi) hN, h.bytes⟩

theorem Link.set {W : World} {S : Int → Option Sess} {n N N' i : Nat} {M : Nat → Mod} {m' : Mod} {s' : Sess} {k : Int} (h : Link W S n N M) (hi : i < n) (hk : (M i).id = k) (hid : m'.id = k) (hf : Fits m' s') (hN : N ≤ N') (hs : m'.K.length ≤ N') (hb : ∀ p ∈ m'.K, DataOK W p.2) : Link W (upd S k s') n N' (setM M i m') := by
  have hids : ∀ j, (setM M i m' j).id = (M j).id := fun j => by
    by_cases e : j = i
    · subst e; rw [setM_same, hid, hk]
    · rw [setM_other e]
  refine ⟨fun j hj => ?_, fun k' s1 h1 => ?_, fun j l hj hl e => ?_, fun j hj => ?_, fun j hj => ?_⟩
  · by_cases e : j = i
    · subst e
      rw [setM_same, hid]
      exact ⟨s', upd_same _ _ _, hf⟩
    · rw [setM_other e, upd_other (fun e' => e (h.once j i hj hi (e'.trans hk.symm)))]
      exact h.to j hj
  · by_cases e : k' = k
    · exact ⟨i, hi, by rw [setM_same, hid, e]⟩
    · rw [upd_other e] at h1
      obtain ⟨j, hj, ej⟩ := h.all k' s1 h1
      exact ⟨j, hj, by rw [hids]; exact ej⟩
  · rw [hids, hids] at e
    exact h.once j l hj hl e
  · by_cases e : j = i
    · subst e; rw [setM_same]; exact hs
    · rw [setM_other e]; exact Nat.le_trans (h.small j hj) hN
  · by_cases e : j = i
    · subst e; rw [setM_same]; exact hb
    · rw [setM_other e]; exact h.bytes j hj

theorem Link.push {W : World} {S : Int → Option Sess} {n N : Nat} {M : Nat → Mod} {m' : Mod} {s' : Sess} {k : Int} (h : Link W S n N M) (hno : ∀ i, i < n → (M i).id ≠ k) (hid : m'.id = k) (hf : Fits m' s') (hs : m'.K = []) : Link W (upd S k s') (n + 1) N (setM M n m') := by
  refine ⟨fun j hj => ?_, fun k' s1 h1 => ?_, fun j l hj hl e => ?_, fun j hj => ?_, fun j hj => ?_⟩
  · by_cases e : j = n
    · subst e
      rw [setM_same, hid]
      exact ⟨s', upd_same _ _ _, hf⟩
    · rw [setM_other e, upd_other (hno j (by omega))]
      exact h.to j (by omega)
  · by_cases e : k' = k
    · exact ⟨n, by omega, by rw [setM_same, hid, e]⟩
    · rw [upd_other e] at h1
      obtain ⟨j, hj, ej⟩ := h.all k' s1 h1
      exact ⟨j, by omega, by rw [setM_other (by omega)]; exact ej⟩
  · by_cases e1 : j = n
    · by_cases e2 : l = n
      · rw [e1, e2]
      · rw [e1, setM_same, setM_other e2, hid] at e
        exact absurd e.symm (hno l (by omega))
    · by_cases e2 : l = n
      · rw [e2, setM_same, setM_other e1, hid] at e
        exact absurd e (hno j (by omega))
      · rw [setM_other e1, setM_other e2] at e
        exact h.once j l (by omega) (by omega) e
  · by_cases e : j = n
    · subst e; rw [setM_same, hs]; exact Nat.zero_le _
    · rw [setM_other e]; exact h.small j (by omega)
  · by_cases e : j = n
    · subst e; rw [setM_same, hs]; intro p hp; cases hp
    · rw [setM_other e]; exact h.bytes j (by omega)
end Go.Proofs.Qxb6600769a.Ses
