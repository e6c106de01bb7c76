import Derived.Test.Qxb6600769aAgrees
import Derived.LaidEqlPtr
import Derived.Lib.Builder
namespace Go.Proofs.Qxb6600769a.Ses
open Go.RowKit Go.Maps
set_option linter.unusedVariables false

theorem Inv.ge {w : World} {tb N : Nat} {T : DataW Value} {S : Int → Option Sess} (h : Inv w tb N T S) {i : Nat} (hi : Own tb S i) : tb ≤ i := by
  rcases hi with rfl | ⟨k, s, hk, rfl | rfl⟩
  · exact Nat.le_refl _
  · exact (h.low k s hk).1
  · exact (h.low k s hk).2

theorem size82 : (Try.prog.info? 82).map (·.size) = some 3 := by kernel_rfl
theorem ptr_neq_same (W : World) (a : Addr) : (binOp .neq 51 (.pointer (some a)) (.pointer (some a))).run Try.prog W = .ok (.bool false) W := by
  obtain ⟨j, hj, _⟩ := Option.map_eq_some_iff.1 size82
  exact Lib.run_neq_ptr_same W a Try.underlying51 hj
theorem ptr_eql_other {W : World} {b b' : Nat} {cs cs' : Array Value} {t t' : TypeId} (hne : b ≠ b') (ha : W.heap[b]? = some (.cells cs t (0, 0))) (hb : W.heap[b']? = some (.cells cs' t' (0, 0))) :
    (binOp .eql 51 (.pointer (some ⟨b, 0, none⟩)) (.pointer (some ⟨b', 0, none⟩))).run Try.prog W = .ok (.bool false) W := by
  obtain ⟨j, hj, hjs⟩ := Option.map_eq_some_iff.1 size82
  exact run_eql_ptr_other W Try.underlying51 hj (by rw [hjs]; decide) (fun e => hne (by cases e; rfl)) ha hb

theorem info57 : (Try.prog.info? 57).map (fun i => (i.zero, i.size, i.bytes)) = some (some (.agg #[.int .u64 0, .pointer none, .int .u64 0, .slice none 0 0, .slice none 0 0, .int .i64 0]), 6, 80) := by kernel_rfl

theorem cells_new (w : World) (xs : Array Value) (t : TypeId) : ∀ j u, xs.toList[j]? = some u → (w.alloc (.cells xs t)).cell? ((⟨w.heap.size, 0, none⟩ : Addr).add j) = some u := by
  intro j u hj
  have e : (⟨w.heap.size, 0, none⟩ : Addr).add j = ⟨w.heap.size, j, none⟩ := by
    unfold Addr.add
    split
    · rename_i e; have : j = 0 := by simpa using e
      subst this; rfl
    · simp
  rw [e, World.cell?_alloc_new]
  simpa using hj

theorem ModInv.get {w : World} {B n g c kk : Nat} {M : Nat → Mod} (h : ModInv w B (.slice (some ⟨g, 0, none⟩) n c) n M) (hk : kk < n) : ∃ cs, w.heap[g]? = some (.cells cs 57 (0, 0)) ∧ Six cs (kk * 6) (M kk) ∧ B ≤ g := by
  rcases h.row with ⟨h0, _⟩ | ⟨g', c', cs, hv, hb, hg, hn, hc, hs, h6⟩
  · cases h0
  · cases hv
    exact ⟨cs, hg, h6 kk hk, hb⟩
theorem ModInv.rowAt {w : World} {B n c : Nat} {oa : Option Addr} {M : Nat → Mod} (h : ModInv w B (.slice oa n c) n M) : ∃ g, (0 < n → oa = some ⟨g, 0, none⟩) ∧ ∀ i, i < n → At6 w g (i * 6) (M i) := by
  rcases h.row with ⟨h0, hn⟩ | ⟨g', c', cs, hv, hb, hg, hn, hc, hs, h6⟩
  · exact ⟨0, fun h => by omega, fun i hi => by omega⟩
  · cases hv
    exact ⟨g', fun _ => rfl, fun i hi => (h6 i hi).at hg⟩
theorem setM_setM (M : Nat → Mod) (i : Nat) (m m' : Mod) : setM (setM M i m) i m' = setM M i m' := by
  funext j
  by_cases e : j = i
  · rw [e, setM_same, setM_same]
  · rw [setM_other e, setM_other e, setM_other e]
theorem setM_id (M : Nat → Mod) (i : Nat) : setM M i (M i) = M := by
  funext j
  by_cases e : j = i
  · rw [e, setM_same]
  · rw [setM_other e]

/-- The mark of one model is raised. -/
theorem mark_out {w : World} {g o B : Nat} {m : Mod} {cs : Array Value} (hg : w.heap[g]? = some (.cells cs 57 (0, 0))) (h6 : Six cs o m) (hR : Rows2 w B m) (x : Int) : ModOut w g o B m { m with mark := x } (w.setCell ⟨g, o + 2, none⟩ (.int .u64 x)) where
  keep := (Keep.refl _ _).setCell (p := ⟨g, o + 2, none⟩) (.inl (.inl rfl)) _
  rows := ⟨row_other hR.ir (fun b hb => by
      obtain ⟨ci, hci⟩ := row_kind hR.ir hb
      exact Below.heap_setCell _ _ _ _ (kinds_ne hci hg (by decide))), row_other hR.dr (fun b hb => by
      obtain ⟨ci, hci⟩ := row_kind hR.dr hb
      exact Below.heap_setCell _ _ _ _ (kinds_ne hci hg (by decide)))⟩
  blk := by
    have hs2 : o + 2 < cs.size := (Array.getElem?_eq_some_iff.1 h6.c2).1
    refine ⟨cs, _, hg, setCell_blk hg (o + 2) _, by simp, ⟨?_, ?_, ?_, ?_, ?_, ?_⟩, fun j hj => ?_⟩
    · rw [Array.getElem?_setIfInBounds_ne (by omega)]; exact h6.c0
    · rw [Array.getElem?_setIfInBounds_ne (by omega)]; exact h6.c1
    · rw [Array.getElem?_setIfInBounds_self_of_lt hs2]
    · rw [Array.getElem?_setIfInBounds_ne (by omega)]; exact h6.c3
    · rw [Array.getElem?_setIfInBounds_ne (by omega)]; exact h6.c4
    · rw [Array.getElem?_setIfInBounds_ne (by omega)]; exact h6.c5
    · rw [Array.getElem?_setIfInBounds_ne (by omega)]
  ib b hb := .inl hb
  db b hb := .inl hb

/-- Behind the settle, the model's place found or made; the model is not yet turned. -/
structure Ready (W w : World) (tb N : Nat) (T : DataW Value) (S : Int → Option Sess) (k m : Int) (s' : Sess) (v : Value) (n i : Nat) (M : Nat → Mod) (kk : Nat) (s0 : Sess) : Prop where
  inv : Inv w tb N T (upd S k s')
  mods : ModInv w tb v n M
  link : Link W (upd S k s0) n i M
  lt : kk < n
  id : (M kk).id = k
  sett : Settled s0 m s'
  fit : Fits (M kk) s0
  size : Maps.size s0.res = (M kk).K.length
  nonneg : 0 ≤ s0.mark
  last : (M kk).last ≤ N
  below : Below tb W w

/-- At the round's end. -/
structure Fin (W w : World) (tb N : Nat) (T : DataW Value) (S : Int → Option Sess) (k : Int) (v : Value) (n i : Nat) (M : Nat → Mod) (kk : Nat) (s : Sess) (m : Mod) : Prop where
  inv : Inv w tb N T (upd S k s)
  mods : ModInv w tb v n (setM M kk m)
  link : Link W (upd S k s) n i (setM M kk m)
  lt : kk < n
  id : m.id = k
  below : Below tb W w

section
variable {W w w' : World} {tb N N' : Nat} {T : DataW Value} {S : Int → Option Sess} {k m : Int} {s s' s0 : Sess} {v : Value} {n i kk : Nat} {M : Nat → Mod}

theorem Ready.drewN (h : Ready W w tb N T S k m s' v n i M kk s0) (q : Nat) : Ready W (w.drewN q) tb N T S k m s' v n i M kk s0 :=
  ⟨h.inv.drewN q, h.mods.drewN q, h.link, h.lt, h.id, h.sett, h.fit, h.size, h.nonneg, h.last, below_drewN h.below q⟩

theorem Fin.fits {m : Mod} (h : Fin W w tb N T S k v n i M kk s m) : Fits m s := by
  obtain ⟨s1, h1, h2⟩ := h.link.to kk h.lt
  rw [setM_same] at h1 h2
  rw [h.id, upd_same] at h1
  cases h1
  exact h2

theorem Fin.agrees {g c : Nat} {m : Mod} (h : Fin W w tb N T S k (.slice (some ⟨g, 0, none⟩) n c) n i M kk s m) (hi : i ≤ 100000) (htb : W.heap.size ≤ tb) :
    Calls Try.prog 28 #[.pointer (some ⟨s.sb, 0, none⟩), .pointer (some ⟨g, kk * 6, none⟩)] w (SaysD w true) := by
  obtain ⟨cs, hg, h6, _⟩ := h.mods.get h.lt
  have hR := h.mods.rows kk h.lt
  rw [setM_same] at h6 hR
  have hat := h.inv.sess k s (upd_same _ _ _)
  have hsm := h.link.small kk h.lt
  rw [setM_same] at hsm
  refine Ses.agrees w g (kk * 6) tb N m s cs hg h6 hR (by omega) hat h.fits (h.fits.agree.size hat.2.1) (fun p hp => ?_)
  have hb := h.link.bytes kk h.lt
  rw [setM_same] at hb
  obtain ⟨A, L, e, hB, hL⟩ := hb p hp
  exact ⟨A, L, e, hB.below (h.below.mono htb), hL⟩

theorem Ready.fin_same (h : Ready W w tb N T S k m s' v n i M kk s0) (hm : m ≤ s0.mark) : Fin W w tb N T S k v n (i + 1) M kk s' (M kk) := by
  obtain ⟨_, ⟨_, rfl⟩ | ⟨h1, _⟩⟩ := h.sett
  · refine ⟨h.inv, ?_, ?_, h.lt, h.id, h.below⟩
    · rw [setM_id]; exact h.mods
    · rw [setM_id]; exact h.link.mono (Nat.le_succ _)
  · omega

theorem Ready.fin_raise (h : Ready W w tb N T S k m s' v n i M kk s0) (hm : s0.mark < m) (hlt : (M kk).K.length < 2 * max (M kk).last 64) (hI : Inv w' tb N T (upd S k s')) (hM : ModInv w' tb v n (setM M kk { M kk with mark := m })) (hB : Below tb W w') :
    Fin W w' tb N T S k v n (i + 1) M kk s' { M kk with mark := m } := by
  obtain ⟨hsb, ⟨h1, _⟩ | ⟨_, hmk, ⟨_, _, hres, hsw⟩ | ⟨h2, _⟩⟩⟩ := h.sett
  · omega
  · refine ⟨hI, hM, ?_, h.lt, h.id, hB⟩
    have := h.link.set (N' := i + 1) (m' := { M kk with mark := m }) (s' := s') h.lt h.id h.id ⟨h.fit.sb.trans hsb.symm, by rw [hres]; exact h.fit.agree, hmk.symm, h.fit.last.trans hsw.symm⟩ (Nat.le_succ _) (Nat.le_succ_of_le (h.link.small kk h.lt)) (h.link.bytes kk h.lt)
    rwa [upd_upd] at this
  · rw [h.size, ← h.fit.last] at h2
    omega

theorem Ready.fin_sweep {m' : Mod} (h : Ready W w tb N T S k m s' v n i M kk s0) (hm : s0.mark < m) (hge : 2 * max (M kk).last 64 ≤ (M kk).K.length) (hI : Inv w' tb N T (upd S k s')) (hM : ModInv w' tb v n (setM M kk m')) (hB : Below tb W w')
    (hid : m'.id = (M kk).id) (hsb : m'.sb = (M kk).sb) (hmk : m'.mark = m) (hK : m'.K = (M kk).K.filter fun p => decide (m ≤ p.1)) (hl : m'.last = m'.K.length) :
    Fin W w' tb N T S k v n (i + 1) M kk s' m' := by
  obtain ⟨hsb', ⟨h1, _⟩ | ⟨_, hmk', ⟨h2, _⟩ | ⟨_, hF, hsw⟩⟩⟩ := h.sett
  · omega
  · rw [h.size, ← h.fit.last] at h2
    omega
  · refine ⟨hI, hM, ?_, h.lt, hid.trans h.id, hB⟩
    have hA : Agree m'.K s'.res := by rw [hK]; exact h.fit.agree.sweep hF
    have hsz := hA.size (hI.sess k s' (upd_same _ _ _)).2.1
    have hle : m'.K.length ≤ (M kk).K.length := by rw [hK]; exact List.length_filter_le ..
    have := h.link.set (N' := i + 1) (m' := m') (s' := s') h.lt h.id (hid.trans h.id) ⟨hsb.trans (h.fit.sb.trans hsb'.symm), hA, hmk.trans hmk'.symm, by rw [hl, hsw, hsz]⟩ (Nat.le_succ _) (by have := h.link.small kk h.lt; omega) (fun p hp => h.link.bytes kk h.lt p (by rw [hK] at hp; exact (List.mem_filter.1 hp).1))
    rwa [upd_upd] at this

theorem Ready.put_same (h : Ready W w tb N T S k 0 s' v n i M kk s0) : s' = s0 := by
  obtain ⟨_, ⟨_, e⟩ | ⟨h1, _⟩⟩ := h.sett
  · exact e
  · have := h.nonneg; omega

theorem Ready.fin_put {m' : Mod} {x : Int} {d : Value} (h : Ready W w tb N T S k 0 s' v n i M kk s0) (hx : U64 x) (hI : Inv w' tb N' T (upd S k { s' with res := s'.res.put (.int .u64 x) (.held d) })) (hM : ModInv w' tb v n (setM M kk m')) (hB : Below tb W w')
    (hid : m'.id = (M kk).id) (hsb : m'.sb = (M kk).sb) (hmk : m'.mark = (M kk).mark) (hl : m'.last = (M kk).last) (hd : DataOK W d)
    (hK : (∃ j u, (M kk).K[j]? = some (x, u) ∧ m'.K = (M kk).K.set j (x, d)) ∨ ((∀ p ∈ (M kk).K, p.1 ≠ x) ∧ m'.K = (M kk).K ++ [(x, d)])) :
    Fin W w' tb N' T S k v n (i + 1) M kk { s' with res := s'.res.put (.int .u64 x) (.held d) } m' := by
  obtain rfl := h.put_same
  have hmap := (h.inv.sess k s' (upd_same _ _ _)).2.1.isMap
  have hsm := h.link.small kk h.lt
  have hby := h.link.bytes kk h.lt
  have hA : Agree m'.K (s'.res.put (.int .u64 x) (.held d)) ∧ m'.K.length ≤ i + 1 ∧ ∀ p ∈ m'.K, DataOK W p.2 := by
    rcases hK with ⟨j, u, hj, e⟩ | ⟨hno, e⟩
    · rw [e]
      refine ⟨h.fit.agree.set hmap hx hj d, by rw [List.length_set]; omega, fun p hp => ?_⟩
      rcases List.mem_or_eq_of_mem_set hp with hp | rfl
      · exact hby p hp
      · exact hd
    · rw [e]
      refine ⟨h.fit.agree.add hmap hx hno d, by simp; omega, fun p hp => ?_⟩
      rcases List.mem_append.1 hp with hp | hp
      · exact hby p hp
      · simp at hp; subst hp; exact hd
  refine ⟨hI, hM, ?_, h.lt, hid.trans h.id, hB⟩
  have := h.link.set (N' := i + 1) (m' := m') (s' := { s' with res := s'.res.put (.int .u64 x) (.held d) }) h.lt h.id (hid.trans h.id) ⟨hsb.trans h.fit.sb, hA.1, hmk.trans h.fit.mark, hl.trans h.fit.last⟩ (Nat.le_succ _) hA.2.1 hA.2.2
  rwa [upd_upd] at this

/-- Behind the append of a model. -/
theorem Inv.push {B : Nat} (h : Inv w tb N T S) (hM : ModInv w B v n M) (hg : w.grownBy w' v.ownBlock) : Inv w' tb N T S := by
  refine h.kept fun j hj => hg.block j (h.own_lt hj) fun e => ?_
  rcases hM.row with ⟨rfl, _⟩ | ⟨g, c, cs, rfl, _, hgg, _⟩
  · cases e
  · cases e
    exact h.not_own hgg (by decide) hj
theorem ModInv.push_box {B b : Nat} {cs : Array Value} (hM : ModInv w B v n M) (hg : w.grownBy w' v.ownBlock) (hb : w.heap[b]? = some (.cells cs 48 (0, 0))) : w'.heap[b]? = some (.cells cs 48 (0, 0)) := by
  refine (hg.block b (lt_of_blk hb) fun e => ?_).trans hb
  rcases hM.row with ⟨rfl, _⟩ | ⟨g, c, cs', rfl, _, hgg, _⟩
  · cases e
  · cases e
    exact kinds_ne hb hgg (by decide) rfl
theorem ModInv.push_below (hM : ModInv w tb v n M) (hg : w.grownBy w' v.ownBlock) (htb : tb ≤ w.heap.size) (hB : Below tb W w) : Below tb W w' :=
  hB.grown hg htb fun j e => by
    rcases hM.row with ⟨rfl, _⟩ | ⟨g, c, cs, rfl, hb, hgg, _⟩
    · cases e
    · cases e
      exact hb
theorem ModOut.box {g o B b : Nat} {m m' : Mod} {cs : Array Value} (ho : ModOut w g o B m m' w') (hR : Rows2 w B m) (hb : w.heap[b]? = some (.cells cs 48 (0, 0))) : w'.heap[b]? = some (.cells cs 48 (0, 0)) := by
  refine (ho.keep.block b (lt_of_blk hb) ?_).trans hb
  obtain ⟨cs1, _, hg, _⟩ := ho.blk
  rintro (rfl | h1 | h1)
  · exact kinds_ne hb hg (by decide) rfl
  · obtain ⟨ci, hci⟩ := row_kind hR.ir h1
    exact kinds_ne hb hci (by decide) rfl
  · obtain ⟨ci, hci⟩ := row_kind hR.dr h1
    exact kinds_ne hb hci (by decide) rfl

/-- The session is there. -/
theorem ready_found (hI0 : ∀ s, S k = some s → 0 ≤ s.mark ∧ s.swept ≤ N ∧ ∀ K, Agree K s.res → Maps.size s.res = K.length) (hL : Link W S n i M) (hkk : kk < n) (hid : (M kk).id = k) (hAf : After (S k) m s') (hI : Inv w tb N T (upd S k s')) (hM : ModInv w tb v n M) (hB : Below tb W w) :
    ∃ s0, Ready W w tb N T S k m s' v n i M kk s0 ∧ (M kk).sb = s'.sb := by
  obtain ⟨s0, h0, hf⟩ := hL.to kk hkk
  rw [hid] at h0
  rw [h0] at hAf
  have hu : upd S k s0 = S := by
    funext k'
    by_cases e : k' = k
    · rw [e, upd_same, h0]
    · rw [upd_other e]
  exact ⟨s0, ⟨hI, hM, by rw [hu]; exact hL, hkk, hid, hAf, hf, (hI0 s0 h0).2.2 _ hf.agree, (hI0 s0 h0).1, by rw [hf.last]; exact (hI0 s0 h0).2.1, hB⟩, hf.sb.trans hAf.1.symm⟩

/-- The session is new. -/
theorem ready_new (hL : Link W S n i M) (hno : ∀ j, j < n → (M j).id ≠ k) (hAf : After (S k) m s') (hm : 0 ≤ m) (hI : Inv w tb N T (upd S k s')) (hM : ModInv w tb v (n + 1) (setM M n ⟨k, s'.sb, 0, none, 0, none, 0, 0, []⟩)) (hB : Below tb W w) :
    ∃ s0, Ready W w tb N T S k m s' v (n + 1) i (setM M n ⟨k, s'.sb, 0, none, 0, none, 0, 0, []⟩) n s0 ∧ (setM M n ⟨k, s'.sb, 0, none, 0, none, 0, 0, []⟩ n).sb = s'.sb := by
  have h0 : S k = none := by
    cases e : S k with
    | none => rfl
    | some s =>
      obtain ⟨j, hj, ej⟩ := hL.all k s e
      exact absurd ej (hno j hj)
  rw [h0] at hAf
  obtain ⟨hmk, hsw, hres⟩ := hAf
  have hf : Fits (setM M n ⟨k, s'.sb, 0, none, 0, none, 0, 0, []⟩ n) { s' with mark := 0 } := by
    rw [setM_same]
    exact ⟨rfl, by show Agree [] s'.res; rw [hres]; exact Agree.empty, rfl, hsw.symm⟩
  have hsz : Maps.size s'.res = 0 := by rw [hres]; rfl
  refine ⟨{ s' with mark := 0 }, ⟨hI, hM, ?_, by omega, by rw [setM_same], ⟨rfl, ?_⟩, hf, by rw [setM_same]; exact hsz, Int.le_refl _, by rw [setM_same]; exact Nat.zero_le _, hB⟩, by rw [setM_same]⟩
  · exact hL.push hno rfl (by rw [setM_same] at hf; exact hf) rfl
  · by_cases h1 : m ≤ 0
    · refine .inl ⟨h1, ?_⟩
      have : m = 0 := by omega
      rw [this] at hmk
      cases s'
      simp only at hmk
      subst hmk
      rfl
    · exact .inr ⟨by show (0 : Int) < m; omega, hmk, .inl ⟨by show Maps.size s'.res < _; rw [hsz]; omega, rfl, rfl, rfl⟩⟩
end
end Go.Proofs.Qxb6600769a.Ses
