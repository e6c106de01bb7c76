import Derived.Test.Qxb6600769aClone
import Derived.Deep.Slices
import Derived.ProofKit
import Derived.OpenShut
import Derived.ChangeOld
namespace Go.Proofs.Qxb6600769a.Ses
open Go.RowKit Go.Maps Go.ChangeShapes Go.WideShapes Go.ChangeAt Go.Deep
set_option linter.unusedVariables false

theorem add_none (b o j : Nat) : (⟨b, o, none⟩ : Addr).add j = ⟨b, o + j, none⟩ := by
  unfold Addr.add
  split
  · rename_i e; have : j = 0 := by simpa using e
    subst this; rfl
  · rfl

theorem cell_spot {w : World} {a : Addr} {v : Value} (h : w.cell? (a.add 0) = some v) : a = ⟨a.block, a.off, none⟩ ∧ a.block < w.heap.size := by
  obtain ⟨b, o, sp⟩ := a
  have e0 : (⟨b, o, sp⟩ : Addr).add 0 = ⟨b, o, sp⟩ := by simp [Addr.add]
  rw [e0] at h
  have hlt : b < w.heap.size := World.block_lt_of_cell? w _ h
  refine ⟨?_, hlt⟩
  cases sp with
  | none => rfl
  | some x =>
    exfalso
    simp [World.cell?] at h
    split at h <;> simp at h

theorem cells4' : Try.prog.cellsOf 4 = 1 := by kernel_rfl
theorem cells45 : Try.prog.cellsOf 45 = 1 := by kernel_rfl
theorem cells46 : Try.prog.cellsOf 46 = 1 := by kernel_rfl

section
variable {H : Type} {enc : TypeId × Value → H} {w : World}

theorem bytes_of {fuel : Nat} {v : Value} {x : DataW H × List MemPlace} (h : DataW.trod enc Try.prog w 0 (fun _ => true) true fuel 46 [v] = some x) :
    ∃ A L C, v = .slice A L C ∧ BytesIn w A L C ∧ L ≤ maxLen := by
  rcases open_ints Try.underlying46 Try.underlying5 cells5 h with ⟨hcs, _⟩ | ⟨a, l, c, zs, hcs, _, hl, hm, hz, _, hcell, hwz⟩
  · simp at hcs
    exact ⟨none, 0, 0, hcs, .inl ⟨rfl, rfl, rfl⟩, Nat.zero_le _⟩
  · simp at hcs
    refine ⟨some a, l, c, hcs, .inr ⟨a, rfl, fun h0 => ?_⟩, by omega⟩
    simp at hz
    obtain ⟨e, hb⟩ := cell_spot (hcell 0 (by omega))
    refine ⟨a.block, a.off, e, hb, fun i hi => ⟨zs.getD i 0, ?_⟩⟩
    rw [← hcell i (by omega), ← add_none, ← e]

structure StepData where
  pu : Bool
  se : Int
  va : Int
  A : Option Addr
  L : Nat
  C : Nat
instance : Inhabited StepData := ⟨⟨false, 0, 0, none, 0, 0⟩⟩

theorem steps_of {fuel : Nat} {oa : Option Addr} {n c : Nat} {x : DataW H × List MemPlace} (h : DataW.trod enc Try.prog w 0 (fun _ => true) true fuel 38 (Value.slice oa n c).cells.toList = some x) :
    ∃ q : Nat → StepData, ArgSteps w oa n c (fun i => (q i).pu) (fun i => (q i).se) (fun i => (q i).va) (fun i => (q i).A) (fun i => (q i).L) (fun i => (q i).C) ∧
      (∀ i, i < n → U64 (q i).se ∧ U64 (q i).va) ∧ n ≤ maxLen ∧ ∀ i, i < n → (q i).L ≤ maxLen := by
  rcases open_slice Try.underlying38 h with ⟨hcs, _⟩ | ⟨a, len, cap, m, k, D, Pl, hcs, hb, hl, hm, hmm, rfl, hx⟩
  · simp [Value.cells] at hcs
    obtain ⟨rfl, rfl, rfl⟩ := hcs
    exact ⟨fun _ => default, ⟨.inl ⟨rfl, rfl, rfl⟩, fun i hi => by omega⟩, fun i hi => by omega, Nat.zero_le _, fun i hi => by omega⟩
  · simp [Value.cells] at hcs
    obtain ⟨rfl, rfl, rfl⟩ := hcs
    simp at hmm
    have each : ∀ i, i < n → ∃ q : StepData, (w.cell? (a.add (i * 4)) = some (.bool q.pu) ∧ w.cell? (a.add (i * 4 + 1)) = some (.int .u64 q.se) ∧ w.cell? (a.add (i * 4 + 2)) = some (.int .u64 q.va) ∧ w.cell? (a.add (i * 4 + 3)) = some (.slice q.A q.L q.C)) ∧
        U64 q.se ∧ U64 q.va ∧ BytesIn w q.A q.L q.C ∧ q.L ≤ maxLen := by
      intro i hi
      obtain ⟨cs', h1, h2⟩ := hx i (by omega)
      rw [cells48] at h1
      obtain ⟨_, hlen, hcell⟩ := World.cells?_some h1
      obtain ⟨xs, k', hk, hxy, _, hxl, hf⟩ := DataW.trod_struct Try.underlying48 h2
      match xs, hxl, cs', hlen with
      | [y0, y1, y2, y3], _, [v0, v1, v2, v3], _ =>
        have g0 := hf 0 _ rfl
        have g1 := hf 1 _ rfl
        have g2 := hf 2 _ rfl
        have g3 := hf 3 _ rfl
        simp [cells4', cells45, cells46] at g0 g1 g2 g3
        obtain ⟨b0, e0, _⟩ := DataW.trod_bool Try.underlying4 g0
        obtain ⟨z1, e1, _, u1⟩ := DataW.trod_int Try.underlying45 g1
        obtain ⟨z2, e2, _, u2⟩ := DataW.trod_int Try.underlying45 g2
        obtain ⟨A, L, C, e3, hB, hL⟩ := bytes_of g3
        simp at e0 e1 e2
        subst e0 e1 e2 e3
        have c0 := hcell 0 (by omega)
        have c1 := hcell 1 (by omega)
        have c2 := hcell 2 (by omega)
        have c3 := hcell 3 (by omega)
        rw [add_add] at c0 c1 c2 c3
        exact ⟨⟨b0, z1, z2, A, L, C⟩, ⟨by simpa using c0, by simpa using c1, by simpa using c2, by simpa using c3⟩, u1, u2, hB, hL⟩
    obtain ⟨q, hq⟩ := choose_lt each
    refine ⟨q, ⟨.inr ⟨a, rfl, fun h0 => ?_⟩, fun i hi => (hq i hi).2.2.2.1⟩, fun i hi => ⟨(hq i hi).2.1, (hq i hi).2.2.1⟩, by omega, fun i hi => (hq i hi).2.2.2.2⟩
    obtain ⟨e, hb⟩ := cell_spot (by simpa using (hq 0 h0).1.1)
    have hadd : ∀ j, a.add j = ⟨a.block, a.off + j, none⟩ := fun j => by rw [← add_none, ← e]
    refine ⟨a.block, a.off, e, hb, fun i hi => ?_, fun i hi => ?_, fun i hi => ?_, fun i hi => ?_⟩
    · have := (hq i hi).1.1; rwa [hadd] at this
    · have := (hq i hi).1.2.1; rwa [hadd, ← Nat.add_assoc] at this
    · have := (hq i hi).1.2.2.1; rwa [hadd, ← Nat.add_assoc] at this
    · have := (hq i hi).1.2.2.2; rwa [hadd, ← Nat.add_assoc] at this
end
end Go.Proofs.Qxb6600769a.Ses
