import Derived.Test.Qxb6601930aProg
import Derived.WalkKit
import Derived.WalkSpells
import Derived.WalkLawsBesides
import Derived.Below
import Derived.Laws.MakeOwn
import Derived.Laws.CopyRow
namespace Go.Proofs.Qxb6601930a
open Go.RowKit
set_option linter.unusedVariables false

theorem hide {p : Prop} (h : p) : Hid p := h
theorem ret_bool {a b : Bool} (h : a = b) : Ending.returned (.bool a) = .returned (.bool b) := by rw [h]
theorem ret_int {k : IntKind} {a b : Int} (h : a = b) : Ending.returned (.int k a) = .returned (.int k b) := by rw [h]

/-- The cells of the first n of the numbers zs. -/
def arr (zs : List Int) (n : Nat) : Array Value := ((zs.take n).map (Value.int .u8)).toArray

def nth (zs : List Int) (i : Nat) : Int := zs.getD i 0
theorem arr_at {zs : List Int} {n i : Nat} (h : i < n) (hz : n ≤ zs.length) : (arr zs n)[i]? = some (.int .u8 (nth zs i)) := by
  have : i < zs.length := by omega
  simp [arr, nth, h, this]

def zeros (n : Nat) : Array Value := madeCells #[.int .u8 0] n

theorem info5 : (Try.prog.info? 5).map (fun i => (i.zero, i.size, i.bytes)) = some (some (.int .u8 0), 1, 1) := by kernel_rfl

theorem run_zeros (n : Nat) (h : n ≤ 1000000000) (w : World) :
    (Instr.makeSlice 22 (.int .i64 (n : Int)) (.int .i64 (n : Int))).run Try.prog w = .ok (.slice (some ⟨w.heap.size, 0, none⟩) n n) (w.alloc (.cells (zeros n) 5)) := by
  obtain ⟨i0, hi, hz0, hz1, hz2⟩ := info_parts info5
  have hr := run_make (P := Try.prog) w 22 5 i0 (.int .u8 0) Try.underlying22 hi hz0 .i64 .i64 (n : Int) (n : Int) (by omega) (by omega) (by rw [hz2]; omega) (by omega)
  rw [hr, hz1, Int.toNat_natCast, Nat.mul_one]
  rfl

theorem setRow_new (w : World) (c d : Array Value) : (w.alloc (.cells c 5)).setRow w.heap.size d = w.alloc (.cells d 5) := by
  unfold World.setRow World.alloc
  congr 1
  apply Array.ext
  · simp
  · intro k h1 h2
    simp only [Array.getElem_modify, Array.getElem_push]
    by_cases hk : k < w.heap.size
    · have : ¬ w.heap.size = k := by omega
      simp [this, hk]
    · have : w.heap.size = k := by simp at h1; omega
      simp [this]

theorem run_copy (w : World) (x : Addr) (zs : List Int) (n cap : Nat) (ty : TypeId) (hz : n ≤ zs.length) (hcell : ∀ i, i < zs.length → w.cell? (x.add i) = some (.int .u8 (zs.getD i 0))) :
    (Builtin.copy_ #[22, 22] ty #[.slice (some ⟨w.heap.size, 0, none⟩) n n, .slice (some x) n cap]).run Try.prog (w.alloc (.cells (zeros n) 5)) =
      .ok (goInt n) (w.alloc (.cells (arr zs n) 5)) := by
  have hl : ((zs.take n).map (Value.int .u8)).length = n := by simp; omega
  have h := run_copy_row Try.prog (w.alloc (.cells (zeros n) 5)) 22 22 ty 5 w.heap.size 0 n n x n cap (zeros n) 5 ((zs.take n).map (Value.int .u8)) Try.underlying22 (by kernel_rfl)
    (by show (w.heap.push _)[w.heap.size]? = _; simp) (by rw [hl]; simp [Nat.min]) (fun j v hj => by
      have hjn : j < n := by
        rcases Nat.lt_or_ge j n with h1 | h1
        · exact h1
        · rw [List.getElem?_eq_none (by omega)] at hj; cases hj
      have hc := hcell j (by omega)
      rw [World.cell?_alloc_lt _ _ _ (World.block_lt_of_cell? w _ hc), hc]
      have hjz : j < zs.length := by omega
      simp [hjn, hjz] at hj
      simp [← hj, hjz]) (by rw [hl]; simp [zeros, size_madeCells]) (fun v hv => by
      obtain ⟨a, _, rfl⟩ := List.mem_map.1 hv
      rfl)
  rw [hl] at h
  rw [h, setRow_new]
  have hd : List.drop n (zeros n).toList = [] := by apply List.drop_eq_nil_of_le; simp [zeros, size_madeCells]
  simp [hd, arr]

theorem clone_nil (w : World) : Calls Try.prog 9 #[.slice none 0 0] w fun e w' => e = .returned (.slice none 0 0) ∧ w' = w := by
  have hq := fun w => Lib.run_eql_slice_nil (P := Try.prog) w 22 5 none 0 0 0 0 Try.underlying22
  go_enter Try.func9, Try.ntmps9
  go_wp2
  go_ret
  exact ⟨rfl, rfl⟩

theorem clone_some (w : World) (x : Addr) (zs : List Int) (n cap : Nat) (hn : n ≤ 1048576) (hz : n ≤ zs.length) (hcell : ∀ i, i < zs.length → w.cell? (x.add i) = some (.int .u8 (zs.getD i 0))) :
    Calls Try.prog 9 #[.slice (some x) n cap] w fun e w' => e = .returned (.slice (some ⟨w.heap.size, 0, none⟩) n n) ∧ w' = w.alloc (.cells (arr zs n) 5) := by
  have hmk := run_zeros n (by omega)
  have hcp := fun ty => run_copy w x zs n cap ty hz hcell
  have hq := fun w => Lib.run_eql_slice_nil (P := Try.prog) w 22 5 (some x) n cap 0 0 Try.underlying22
  clear hcell
  go_enter Try.func9, Try.ntmps9
  go_wp2
  go_ret
  exact ⟨rfl, rfl⟩
end Go.Proofs.Qxb6601930a
