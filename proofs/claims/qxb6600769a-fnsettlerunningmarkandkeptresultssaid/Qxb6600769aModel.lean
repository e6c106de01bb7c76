import Derived.Test.Qxb6600769aFind
import Derived.Test.Qxb6600769aAgree
import Derived.Maps.AppendAt
namespace Go.Proofs.Qxb6600769a.Ses
open Go.RowKit Go.Maps
set_option linter.unusedVariables false

theorem cells45m : Try.prog.cellsOf 45 = 1 := by kernel_rfl
theorem cells46m : Try.prog.cellsOf 46 = 1 := by kernel_rfl
theorem info45 : (Try.prog.info? 45).map (fun i => (i.zero, i.size, i.bytes)) = some (some (.int .u64 0), 1, 8) := by kernel_rfl
theorem info46 : (Try.prog.info? 46).map (fun i => (i.zero, i.size, i.bytes)) = some (some (.slice none 0 0), 1, 24) := by kernel_rfl

/-- One model session: ids and data lie in rows of their own. -/
structure Mod where
  id : Int
  sb : Nat
  mark : Int
  ia : Option Addr
  ic : Nat
  da : Option Addr
  dc : Nat
  last : Nat
  K : List (Int × Value)

abbrev Mod.iv (m : Mod) : Value := .slice m.ia m.K.length m.ic
abbrev Mod.dv (m : Mod) : Value := .slice m.da m.K.length m.dc
def Mod.cells (m : Mod) : List Value := [.int .u64 m.id, .pointer (some ⟨m.sb, 0, none⟩), .int .u64 m.mark, m.iv, m.dv, .int .i64 (m.last : Int)]

structure Rows2 (w : World) (B : Nat) (m : Mod) : Prop where
  ir : w.ownsRow B 45 1 m.iv m.K.length (m.K.map fun p => .int .u64 p.1)
  dr : w.ownsRow B 46 1 m.dv m.K.length (m.K.map fun p => p.2)

/-- The six cells of a model lie at o in block g. -/
structure At6 (w : World) (g o : Nat) (m : Mod) : Prop where
  c0 : w.cell? ⟨g, o, none⟩ = some (.int .u64 m.id)
  c1 : w.cell? ⟨g, o + 1, none⟩ = some (.pointer (some ⟨m.sb, 0, none⟩))
  c2 : w.cell? ⟨g, o + 2, none⟩ = some (.int .u64 m.mark)
  c3 : w.cell? ⟨g, o + 3, none⟩ = some m.iv
  c4 : w.cell? ⟨g, o + 4, none⟩ = some m.dv
  c5 : w.cell? ⟨g, o + 5, none⟩ = some (.int .i64 (m.last : Int))

theorem row_at {w : World} {B n c : Nat} {e : TypeId} {a : Option Addr} {xs : List Value} (h : w.ownsRow B e 1 (.slice a n c) n xs) (h0 : 0 < n) :
    ∃ g, a = some ⟨g, 0, none⟩ ∧ B ≤ g ∧ (∃ cur, w.heap[g]? = some (.cells cur e (0, 0))) ∧ ∀ (j : Nat) u, xs[j]? = some u → w.cell? ⟨g, j, none⟩ = some u := by
  obtain ⟨hl, ⟨h1, h2⟩ | ⟨g, cap, cur, hv, hb, hg, hn, hm, hs, ht⟩⟩ := h
  · omega
  · cases hv
    refine ⟨g, rfl, hb, ⟨cur, hg⟩, fun j u hj => ?_⟩
    rw [cell_of hg]
    have hj' : j < xs.length := (List.getElem?_eq_some_iff.1 hj).1
    rw [← ht, List.getElem?_take] at hj
    split at hj
    · simpa using hj
    · cases hj
end Go.Proofs.Qxb6600769a.Ses
