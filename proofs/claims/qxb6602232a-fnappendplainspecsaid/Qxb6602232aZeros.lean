/-
  appendZeros (function 24).
-/
import Derived.Test.Qxb6602232aRows
import Derived.Test.Qxb6602232aOwn
namespace Go.Proofs.Qxb6602232a
open Go.RowKit
set_option linter.unusedVariables false
set_option linter.unusedSimpArgs false

theorem info5 : (Try.prog.info? 5).map (fun i => (i.zero, i.size, i.bytes)) = some (some (.int .u8 0), 1, 1) := by kernel_rfl

/-- one byte in a new block, as a source of an append -/
theorem src_one (w : World) (c : Int) : Src Try.prog 1 22 (.slice (some ⟨w.heap.size, 0, none⟩) 1 1) 1 [.int .u8 c] (w.alloc (.cells #[.int .u8 c] 5)) :=
  Src.ofSlice _ Try.underlying22 ⟨w.heap.size, 0, none⟩ 1 1 [.int .u8 c] rfl (cell_one_new _ _ _) (by intro u hu; simp at hu; subst hu; rfl)

theorem own_succ {w : World} {B : Nat} {v : Value} {n k : Nat} {xs : List Value} {x : Value} (h : w.ownsRow B 5 1 v (n + k + 1) (xs ++ (List.replicate k x ++ [x]))) : w.ownsRow B 5 1 v (n + (k + 1)) (xs ++ List.replicate (k + 1) x) := by
  rw [← List.replicate_succ'] at h
  exact h

theorem appendZeros_none (v : Value) (n : Int) (w : World) (hn : n ≤ 0) :
    Calls Try.prog 24 #[v, .int .i64 n] w fun e w' => e = .returned v ∧ w' = w := by
  go_enter Try.func24, Try.ntmps24
  go_wp2
  go_loopw [0, 1] (fun v' n' wr => v' = v ∧ n' = .int .i64 n ∧ wr = w) (fun _ n _ => (intOf n).toNat)
  case atStart => exact ⟨rfl, rfl, rfl⟩
  case round =>
    obtain ⟨rfl, rfl, rfl⟩ := hrel
    go_wp2
    go_ret
    exact ⟨rfl, rfl⟩

set_option maxHeartbeats 400000 in
theorem appendZeros_some (v : Value) (N : Nat) (w : World) (B : Nat) (zs : List Value) (hv : w.ownsRow B 5 1 v zs.length zs) (hB : B ≤ w.heap.size) (hN : N ≤ 2097152) (hz : zs.length ≤ 8388608) :
    Calls Try.prog 24 #[v, .int .i64 N] w fun e w' => ∃ v', e = .returned v' ∧ w'.ownsRow B 5 1 v' (zs.length + N) (zs ++ List.replicate N (.int .u8 48)) ∧ Adv w v w' v' := by
  obtain ⟨i0, hi, hz0, hz1, hz2⟩ := info_parts info5
  go_enter Try.func24, Try.ntmps24
  go_wp2
  go_loopw [0, 1] (fun v' n' wr => ∃ k : Nat, k ≤ N ∧ n' = .int .i64 ((N : Int) - k) ∧ wr.ownsRow B 5 1 v' (zs.length + k) (zs ++ List.replicate k (.int .u8 48)) ∧ Adv w v wr v') (fun _ n _ => (intOf n).toNat)
  case atStart => exact ⟨0, Nat.zero_le _, by simp, by simpa using hv, Adv.refl _ _⟩
  case round =>
    obtain ⟨k, hk, rfl, hown, hadv⟩ := hrel
    by_cases hlt : k < N
    · have hsz := hadv.grow.size
      go_wp2_with (at_builtin; refine wpList_append_src _ rfl _ _ 22 22 rfl B 5 i0 (.int .u8 0) 1 1 Try.underlying22 hi hz0 hz1 hz2 rfl (by decide) _ _ _ rfl (hown.alloc _) _ 1 [.int .u8 48] rfl (src_one wr 48) ?c1 ?c2 ?c3 ?_)
      case c1 => unfold maxLen; omega
      case c2 => omega
      case c3 => simp; omega
      intro v1 w1 hown1 hadv1
      have R := own_succ hown1
      have A := (hadv.alloc _).trans hadv1
      clear hown1 hadv1 hown hadv
      go_wp2
      go_roundw
      case rel => exact ⟨k + 1, by omega, by go_num, R, A⟩
      case measure => simp [intOf]; omega
    · go_wp2
      go_ret
      have e : k = N := by omega
      subst e
      exact ⟨_, rfl, hown, hadv⟩
end Go.Proofs.Qxb6602232a
