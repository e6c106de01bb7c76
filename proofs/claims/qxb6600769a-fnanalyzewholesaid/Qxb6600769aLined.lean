import Derived.Test.Qxb6600769aGrid
import Derived.Laws.MakeOwn
namespace Go.Proofs.Qxb6600769a
open Go.RowKit
set_option linter.unusedVariables false

/-- Line l, place p of the grid in the cells c reads H l p. -/
def Lined (c : Array Value) (C : Nat) (b : Bool) (CN SZ : Nat) (H : Nat → Nat → Int) : Prop :=
  ∀ l p, l < CN → p < SZ → c[cellOf C b l p]? = some (.int .u8 (H l p))

theorem Lined.to {c : Array Value} {C : Nat} {b : Bool} {CN SZ : Nat} {H H' : Nat → Nat → Int} (h : Lined c C b CN SZ H) (he : ∀ l p, l < CN → p < SZ → H l p = H' l p) : Lined c C b CN SZ H' :=
  fun l p hl hp => by rw [h l p hl hp, he l p hl hp]

theorem row_inj {C i j i' j' : Nat} (hj : j < C) (hj' : j' < C) (h : i * C + j = i' * C + j') : i = i' ∧ j = j' := by
  have h1 : (i * C + j) / C = i := by rw [Nat.mul_comm, Nat.mul_add_div (by omega), Nat.div_eq_of_lt hj]; rfl
  have h2 : (i' * C + j') / C = i' := by rw [Nat.mul_comm, Nat.mul_add_div (by omega), Nat.div_eq_of_lt hj']; rfl
  have : i = i' := by rw [← h1, ← h2, h]
  subst this
  exact ⟨rfl, by omega⟩

theorem cellOf_inj {C : Nat} {b : Bool} {CN SZ l p l' p' : Nat} (hC : (if b then CN else SZ) ≤ C) (hl : l < CN) (hp : p < SZ) (hl' : l' < CN) (hp' : p' < SZ) (h : cellOf C b l p = cellOf C b l' p') : l = l' ∧ p = p' := by
  cases b
  · simp at hC
    exact row_inj (by omega) (by omega) h
  · simp at hC
    exact (row_inj (by omega) (by omega) h).symm

theorem Lined.store {c : Array Value} {C : Nat} {b : Bool} {CN SZ : Nat} {H H' : Nat → Nat → Int} (h : Lined c C b CN SZ H) (hC : (if b then CN else SZ) ≤ C) {l0 p0 : Nat} {v : Int} (hl0 : l0 < CN) (hp0 : p0 < SZ)
    (he : ∀ l p, l < CN → p < SZ → H' l p = if l = l0 ∧ p = p0 then v else H l p) : Lined (c.setIfInBounds (cellOf C b l0 p0) (.int .u8 v)) C b CN SZ H' := by
  intro l p hl hp
  rw [he l p hl hp]
  by_cases hs : l = l0 ∧ p = p0
  · obtain ⟨rfl, rfl⟩ := hs
    have := h l p hl hp
    have hlt : cellOf C b l p < c.size := by
      rcases Nat.lt_or_ge (cellOf C b l p) c.size with h1 | h1
      · exact h1
      · rw [Array.getElem?_eq_none h1] at this; cases this
    simp [hlt]
  · rw [if_neg hs, Array.getElem?_setIfInBounds_ne (fun hc => hs ((cellOf_inj hC hl0 hp0 hl hp hc).imp Eq.symm Eq.symm))]
    exact h l p hl hp

def zeros (n : Nat) : Array Value := madeCells #[.int .u8 0] n
theorem zeros_at {n i : Nat} (h : i < n) : (zeros n)[i]? = some (.int .u8 0) := by
  simp [zeros, madeCells, h, Nat.mod_one]

theorem info5 : (Try.prog.info? 5).map (fun i => (i.zero, i.size, i.bytes)) = some (some (.int .u8 0), 1, 1) := by kernel_rfl

theorem run_zeros (R C : Nat) (h : R * C ≤ 1000000000) (w : World) :
    (Instr.makeSlice 46 (.int .i64 ((R : Int) * (C : Int))) (.int .i64 ((R : Int) * (C : Int)))).run Try.prog w = .ok (.slice (some ⟨w.heap.size, 0, none⟩) (R * C) (R * C)) (w.alloc (.cells (zeros (R * C)) 5)) := by
  obtain ⟨i0, hi, hz0, hz1, hz2⟩ := info_parts info5
  have e : (R : Int) * (C : Int) = ((R * C : Nat) : Int) := by simp
  have hr := run_make (P := Try.prog) w 46 5 i0 (.int .u8 0) Try.underlying46 hi hz0 .i64 .i64 ((R * C : Nat) : Int) ((R * C : Nat) : Int) (by omega) (by omega) (by rw [hz2]; omega) (by omega)
  rw [e, hr, hz1, Int.toNat_natCast, Nat.mul_one]
  rfl

theorem Lined.zero {C R : Nat} {b : Bool} {CN SZ : Nat} (hin : ∀ l p, l < CN → p < SZ → cellOf C b l p < R * C) : Lined (zeros (R * C)) C b CN SZ (fun _ _ => 0) :=
  fun l p hl hp => zeros_at (hin l p hl hp)
end Go.Proofs.Qxb6600769a
