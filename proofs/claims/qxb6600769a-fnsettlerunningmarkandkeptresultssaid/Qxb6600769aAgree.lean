import Derived.Test.Qxb6600769aNew
import Derived.Maps.Ext
namespace Go.Proofs.Qxb6600769a.Ses
open Go.RowKit Go.Maps Go.WideShapes
open Go.WideElems (Fit rg rd_key rg_of)
set_option linter.unusedVariables false

/-- A map of ours: entries, no key twice, each key a uint64. -/
theorem Om.entries {w : World} {b N : Nat} {D : DataW Value} (h : Om w b N D) : ∃ es, D = .map es ∧ es.Pairwise (fun p q => p.1 ≠ q.1) ∧ ∀ p ∈ es, ∃ k, p.1 = .int .u64 k ∧ U64 k := by
  obtain ⟨es', e', ha, _⟩ := World.ownsMap.entries h law
  refine ⟨es', e', ha, fun p hp => ?_⟩
  obtain ⟨es, clock, _, F, _, rfl⟩ := h
  cases e'
  obtain ⟨x, hx, rfl⟩ := List.mem_map.1 (mem_sorted.1 hp)
  obtain ⟨y, hy⟩ := F.reads x hx
  rw [rg_of hy]
  obtain ⟨k, _, e, hk⟩ := keyOf_int_inv Try.underlying45 (rd_key hy)
  exact ⟨k, e, hk⟩

theorem len_le : ∀ (l m : List Int), l.Pairwise (fun a b => a ≠ b) → (∀ x ∈ l, x ∈ m) → l.length ≤ m.length
  | [], m, _, _ => Nat.zero_le _
  | a :: l, m, hp, hm => by
    have ha : a ∈ m := hm a (List.mem_cons_self ..)
    have hp' := List.pairwise_cons.1 hp
    have := len_le l (m.erase a) hp'.2 (fun x hx => (List.mem_erase_of_ne (fun e => hp'.1 x hx e.symm)).2 (hm x (List.mem_cons_of_mem _ hx)))
    have h1 := List.length_erase_of_mem ha
    have h2 : 0 < m.length := List.length_pos_of_mem ha
    simp only [List.length_cons]
    omega

/-- The model's list (each id once, with the last bytes put) and the map hold the same. -/
structure Agree (K : List (Int × Value)) (D : DataW Value) : Prop where
  once : K.Pairwise (fun p q => p.1 ≠ q.1)
  u64 : ∀ p ∈ K, U64 p.1
  has : ∀ k, U64 k → (Maps.has D (.int .u64 k) = true ↔ ∃ p ∈ K, p.1 = k)
  at_ : ∀ p ∈ K, ∀ zd, D.atKey (.int .u64 p.1) zd = .held p.2

theorem Agree.size {K : List (Int × Value)} {D : DataW Value} (h : Agree K D) {w : World} {b N : Nat} (ho : Om w b N D) : Maps.size D = K.length := by
  obtain ⟨es, rfl, ha, hu⟩ := ho.entries
  let key : Lit × DataW Value → Int := fun p => match p.1 with | .int _ k => k | _ => 0
  have hkey : ∀ p ∈ es, p.1 = .int .u64 (key p) ∧ U64 (key p) := fun p hp => by
    obtain ⟨k, e, hk⟩ := hu p hp
    have : key p = k := by simp [key, e]
    rw [this]; exact ⟨e, hk⟩
  have hhas : ∀ k, Maps.has (.map es : DataW Value) (.int .u64 k) = true ↔ ∃ p ∈ es, key p = k := fun k => by
    rw [has_eq, List.any_eq_true]
    constructor
    · rintro ⟨p, hp, hs⟩
      rw [(hkey p hp).1, same_key] at hs
      exact ⟨p, hp, by simpa using hs⟩
    · rintro ⟨p, hp, e⟩
      exact ⟨p, hp, by rw [(hkey p hp).1, same_key]; simpa using e⟩
  have l1 := len_le (es.map key) (K.map (·.1)) (by
      rw [List.pairwise_map]
      exact ha.imp_of_mem (fun {p q} hp hq hne e => hne (by rw [(hkey p hp).1, (hkey q hq).1, e])))
    (fun x hx => by
      obtain ⟨p, hp, rfl⟩ := List.mem_map.1 hx
      obtain ⟨q, hq, e⟩ := (h.has (key p) (hkey p hp).2).1 ((hhas _).2 ⟨p, hp, rfl⟩)
      exact List.mem_map.2 ⟨q, hq, e⟩)
  have l2 := len_le (K.map (·.1)) (es.map key) (by rw [List.pairwise_map]; exact h.once)
    (fun x hx => by
      obtain ⟨q, hq, rfl⟩ := List.mem_map.1 hx
      obtain ⟨p, hp, e⟩ := (hhas _).1 ((h.has q.1 (h.u64 q hq)).2 ⟨q, hq, rfl⟩)
      exact List.mem_map.2 ⟨p, hp, e⟩)
  simp only [List.length_map] at l1 l2
  rw [size_eq]
  omega

theorem Agree.empty : Agree [] (.map []) :=
  ⟨List.Pairwise.nil, fun p hp => (by cases hp), fun k _ => ⟨fun h => (by cases h), fun ⟨p, hp, _⟩ => (by cases hp)⟩, fun p hp => (by cases hp)⟩

/-- A sweep on both sides. -/
theorem Agree.sweep {K : List (Int × Value)} {D D' : DataW Value} {m : Int} (h : Agree K D) (hf : Filtered D m D') : Agree (K.filter fun p => decide (m ≤ p.1)) D' where
  once := h.once.filter _
  u64 p hp := h.u64 p (List.mem_filter.1 hp).1
  has k hk := by
    rw [(hf k hk).1, Bool.and_eq_true, h.has k hk]
    constructor
    · rintro ⟨⟨p, hp, rfl⟩, hm⟩
      exact ⟨p, List.mem_filter.2 ⟨hp, hm⟩, rfl⟩
    · rintro ⟨p, hp, rfl⟩
      exact ⟨⟨p, (List.mem_filter.1 hp).1, rfl⟩, (List.mem_filter.1 hp).2⟩
  at_ p hp zd := by
    have hp' := List.mem_filter.1 hp
    have hu := h.u64 p hp'.1
    rw [(hf p.1 hu).2 ((h.has p.1 hu).2 ⟨p, hp'.1, rfl⟩) (by simpa using hp'.2)]
    exact h.at_ p hp'.1 zd

/-- A new id is put. -/
theorem Agree.add {K : List (Int × Value)} {D : DataW Value} (h : Agree K D) (hD : IsMap D) {k : Int} (hk : U64 k) (hn : ∀ p ∈ K, p.1 ≠ k) (v : Value) : Agree (K ++ [(k, v)]) (D.put (.int .u64 k) (.held v)) where
  once := List.pairwise_append.2 ⟨h.once, List.pairwise_singleton .., fun p hp q hq => by simp at hq; subst hq; exact hn p hp⟩
  u64 p hp := by
    rcases List.mem_append.1 hp with hp | hp
    · exact h.u64 p hp
    · simp at hp; subst hp; exact hk
  has k' hk' := by
    by_cases e : k' = k
    · subst e
      rw [has_put_same hD (law.key (key_of hk))]
      exact ⟨fun _ => ⟨(k', v), by simp, rfl⟩, fun _ => rfl⟩
    · rw [has_put_other (key_ne e), h.has k' hk']
      constructor
      · rintro ⟨p, hp, rfl⟩; exact ⟨p, List.mem_append_left _ hp, rfl⟩
      · rintro ⟨p, hp, rfl⟩
        rcases List.mem_append.1 hp with hp | hp
        · exact ⟨p, hp, rfl⟩
        · simp at hp; subst hp; exact absurd rfl e
  at_ p hp zd := by
    rcases List.mem_append.1 hp with hp | hp
    · rw [atKey_put_other (key_ne (hn p hp))]; exact h.at_ p hp zd
    · simp at hp; subst hp
      rw [atKey_put_same hD (law.key (key_of hk))]

theorem once_at {K : List (Int × Value)} (h : K.Pairwise (fun p q => p.1 ≠ q.1)) {i j : Nat} {p q : Int × Value} (hi : K[i]? = some p) (hj : K[j]? = some q) (e : p.1 = q.1) : i = j := by
  rw [List.pairwise_iff_getElem] at h
  obtain ⟨li, ei⟩ := List.getElem?_eq_some_iff.1 hi
  obtain ⟨lj, ej⟩ := List.getElem?_eq_some_iff.1 hj
  rcases Nat.lt_trichotomy i j with hlt | heq | hgt
  · exact absurd (by rw [ei, ej]; exact e) (h i j li lj hlt)
  · exact heq
  · exact absurd (by rw [ei, ej]; exact e.symm) (h j i lj li hgt)

/-- The bytes of an id that is there are put anew. -/
theorem Agree.set {K : List (Int × Value)} {D : DataW Value} (h : Agree K D) (hD : IsMap D) {k : Int} (hk : U64 k) {j : Nat} {u : Value} (hj : K[j]? = some (k, u)) (v : Value) : Agree (K.set j (k, v)) (D.put (.int .u64 k) (.held v)) := by
  have hl : j < K.length := (List.getElem?_eq_some_iff.1 hj).1
  have hfst : (K.set j (k, v)).map (·.1) = K.map (·.1) := by
    apply List.ext_getElem?
    intro i
    by_cases e : i = j
    · subst e; simp [hl]; rw [(List.getElem?_eq_some_iff.1 hj).2]
    · simp [List.getElem?_set_ne (fun h => e h.symm)]
  have hmem : ∀ p, p ∈ K.set j (k, v) → p = (k, v) ∨ (p ∈ K ∧ p.1 ≠ k) := fun p hp => by
    obtain ⟨i, hi⟩ := List.getElem?_of_mem hp
    by_cases e : i = j
    · subst e; rw [List.getElem?_set_self hl] at hi; exact .inl (Option.some.inj hi).symm
    · rw [List.getElem?_set_ne (fun h => e h.symm)] at hi
      exact .inr ⟨List.mem_of_getElem? hi, fun e' => e (once_at h.once hi hj e')⟩
  have hex : ∀ k', (∃ p ∈ K.set j (k, v), p.1 = k') ↔ ∃ p ∈ K, p.1 = k' := fun k' => by
    have := congrArg (fun l => k' ∈ l) hfst
    simp only [List.mem_map] at this
    exact iff_of_eq this
  refine ⟨?_, fun p hp => ?_, fun k' hk' => ?_, fun p hp zd => ?_⟩
  · have := h.once
    rw [← List.pairwise_map (f := fun p : Int × Value => p.1) (R := fun a b => a ≠ b)] at this ⊢
    rwa [hfst]
  · rcases hmem p hp with rfl | ⟨hp, _⟩
    · exact hk
    · exact h.u64 p hp
  · rw [hex]
    by_cases e : k' = k
    · subst e
      rw [has_put_same hD (law.key (key_of hk))]
      exact ⟨fun _ => ⟨_, List.mem_of_getElem? hj, rfl⟩, fun _ => rfl⟩
    · rw [has_put_other (key_ne e)]; exact h.has k' hk'
  · rcases hmem p hp with rfl | ⟨hp, hne⟩
    · rw [atKey_put_same hD (law.key (key_of hk))]
    · rw [atKey_put_other (key_ne hne)]; exact h.at_ p hp zd
end Go.Proofs.Qxb6600769a.Ses
