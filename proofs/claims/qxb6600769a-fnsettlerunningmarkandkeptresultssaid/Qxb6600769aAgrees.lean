import Derived.Test.Qxb6600769aMSweep
import Derived.Test.Qxb6600769aSameB
namespace Go.Proofs.Qxb6600769a.Ses
open Go.RowKit Go.Maps
set_option linter.unusedVariables false

theorem SessAt.drewN {w : World} {N : Nat} {s : Sess} (h : SessAt w N s) (n : Nat) : SessAt (w.drewN n) N s := h.of_block rfl rfl

theorem result_at (w : World) (N : Nat) (s : Sess) (K : List (Int × Value)) (p : Int × Value) (h : SessAt w N s) (ha : Agree K s.res) (hp : p ∈ K) :
    Calls Try.prog 32 #[.pointer (some ⟨s.sb, 0, none⟩), .int .u64 p.1] w fun e w' => e = .returned (.tuple #[p.2, .bool true]) ∧ w' = w := by
  refine (zresult w N s p.1 h (ha.u64 p hp)).mono ?_
  rintro e w' ⟨v, rfl, rfl, hv⟩
  rw [ha.at_ p hp] at hv
  cases hv
  rw [(ha.has p.1 (ha.u64 p hp)).2 ⟨p, hp, rfl⟩]
  exact ⟨rfl, rfl⟩

set_option maxRecDepth 100000 in
set_option maxHeartbeats 1000000 in
theorem agrees (w : World) (g o B N : Nat) (m : Mod) (s : Sess) (cs : Array Value) (hg : w.heap[g]? = some (.cells cs 57 (0, 0))) (h6 : Six cs o m) (hR : Rows2 w B m) (hn : m.K.length ≤ 100000) (hs : SessAt w N s) (hf : Fits m s) (hsz : Maps.size s.res = m.K.length) (hD : ∀ p ∈ m.K, DataOK w p.2) :
    Calls Try.prog 28 #[.pointer (some ⟨s.sb, 0, none⟩), .pointer (some ⟨g, o, none⟩)] w (SaysD w true) := by
  have h45 := cells45m
  have h46 := cells46m
  have c2 := (h6.at hg).c2
  have c3 := (h6.at hg).c3
  have c4 := (h6.at hg).c4
  rw [hf.mark] at c2
  have k30 : Hid (∀ n, Calls Try.prog 30 #[.pointer (some ⟨s.sb, 0, none⟩)] (w.drewN n) fun e w' => e = .returned (.int .u64 s.mark) ∧ w' = w.drewN n) := fun n => zsettled _ N s (hs.drewN n)
  have Hsz := hide hsz
  have HR := hide hR
  have Hs := hide hs
  have Hf := hide hf
  have HD := hide hD
  clear hg h6 hR hs hf hD hsz
  go_enter Try.func28, Try.ntmps28
  go_wp2_with fail
  go_quiet ((go_at_call 30; exact Calls.quiet_of_same (k30.out _)))
  refine gen_then (fun W => ∃ q, W = w.drewN q ∧ W.cell? ⟨g, o + 3, none⟩ = some m.iv ∧ W.cell? ⟨g, o + 4, none⟩ = some m.dv) ⟨_, rfl, c3, c4⟩ ?_
  rintro W ⟨q, hW, x3, x4⟩
  have k31 : Hid (∀ n, Calls Try.prog 31 #[.pointer (some ⟨s.sb, 0, none⟩)] (W.drewN n) fun e w' => e = .returned (.int .i64 (m.K.length : Int)) ∧ w' = W.drewN n) := fun n => by rw [← Hsz.out, hW]; exact zheld _ N s ((Hs.out.drewN q).drewN n)
  have HW := hide hW
  clear hW
  go_wp2_with fail
  go_quiet ((go_at_call 31; exact Calls.quiet_of_same (k31.out _)))
  go_wp2_with fail
  go_loopw [5] (fun j wr => ∃ (i n : Nat), j = Value.int .i64 (i : Int) ∧ i ≤ m.K.length ∧ wr = W.drewN n) (fun j _ => m.K.length - (intOf j).toNat)
  case atStart => exact ⟨0, _, rfl, by omega, rfl⟩
  case round =>
    obtain ⟨i, n, rfl, hi, rfl⟩ := hrel
    by_cases hin : (i : Int) < m.K.length
    · have hlt : i < m.K.length := by omega
      obtain ⟨gi, hia, _, _, hci⟩ := row_at HR.out.ir (by omega)
      obtain ⟨gd, hda, _, _, hcd⟩ := row_at HR.out.dr (by omega)
      have hKi : m.K[i]? = some m.K[i] := List.getElem?_eq_getElem hlt
      have hmem := List.mem_of_getElem? hKi
      obtain ⟨A, L, hsh, hby, hL⟩ := HD.out m.K[i] hmem
      have di : W.cell? ⟨gi, i, none⟩ = some (.int .u64 m.K[i].1) := by rw [HW.out]; exact hci i (.int .u64 m.K[i].1) (by simp [hKi])
      have dd : W.cell? ⟨gd, i, none⟩ = some (.slice A L L) := by rw [HW.out]; exact hcd i (.slice A L L) (by simp [hKi, hsh])
      have c32 := result_at (W.drewN n) N s m.K m.K[i] (by rw [HW.out]; exact (Hs.out.drewN q).drewN n) Hf.out.agree hmem
      rw [hsh] at c32
      have c42 := sameBytes (W.drewN n) A L L (by rw [HW.out]; exact hby.below (below_drewN (below_drewN (Below.refl _ _) q) n)) hL
      have C32 := hide c32
      have C42 := hide c42
      simp only [Mod.iv, hia] at x3
      simp only [Mod.dv, hda] at x4
      clear hci hcd hia hda hsh hby hmem c32 c42
      go_wp2_with fail
      refine C32.out.mono ?_
      rintro e w1 ⟨rfl, hw1⟩
      subst w1
      go_wp2_with fail
      refine C42.out.mono ?_
      rintro e w1 ⟨rfl, n', hw1⟩
      subst w1
      go_wp2
      go_roundw
      case rel => exact ⟨i + 1, n + n', by go_num, by omega, by first | rfl | rw [World.drewN_drewN]⟩
      case measure => simp [intOf]; omega
    · go_wp2
      go_ret
      exact ⟨rfl, _, by rw [HW.out, World.drewN_drewN]⟩
end Go.Proofs.Qxb6600769a.Ses
