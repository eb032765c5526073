/-
  zzFileSideOK (14), zzSameStrings (21).
-/
import Derived.Test.Qxb6001683aSizes2
namespace Go.Proofs.Qxb6001683a
open Go.RowKit
set_option linter.unusedVariables false
set_option linter.unusedSimpArgs false

/-- byte order of two strings -/
def lessB (a b : ByteArray) : Bool := Op.bytesLess a.toList b.toList

/-- what a true answer of zzFileSideOK says -/
def SideRes (n0 n1 n2 : Nat) (z0 : List ByteArray) (e : Ending) : Prop :=
  ∃ b, e = .returned (.bool b) ∧ (b = true → n0 ≤ 4096 ∧ n1 = n0 ∧ n2 = n0 ∧ ∀ i, i + 1 < n0 → lessB (z0.getD i ByteArray.empty) (z0.getD (i + 1) ByteArray.empty) = true)

theorem drewN_two (w : World) (a b : Nat) : (w.drewN a).drewN b = w.drewN (a + b) := by simp [World.drewN, Nat.add_assoc]

theorem sideRes_false (n0 n1 n2 : Nat) (z0 : List ByteArray) : SideRes n0 n1 n2 z0 (.returned (.bool false)) := ⟨false, rfl, fun h => by cases h⟩

set_option maxHeartbeats 1000000 in
theorem sideOK_any (a0 : Option Addr) (n0 c0 : Nat) (z0 : List ByteArray) (a1 : Option Addr) (n1 c1 : Nat) (a2 : Option Addr) (n2 c2 : Nat) (w : World) (h0 : RowIn Value.string ByteArray.empty w a0 n0 z0) :
    Calls Try.prog 14 #[.slice a0 n0 c0, .slice a1 n1 c1, .slice a2 n2 c2] w fun e w' => SideRes n0 n1 n2 z0 e ∧ ∃ q, w' = w.drewN q := by
  have H0 : Hid (RowIn Value.string ByteArray.empty w a0 n0 z0) := h0
  clear h0
  by_cases g0 : 4096 < n0
  · go_enter Try.func14, Try.ntmps14
    go_wp2
    go_ret
    exact ⟨sideRes_false _ _ _ _, 0, rfl⟩
  by_cases g1 : n1 = n0
  case neg =>
    have g1' : ¬ (n1 : Int) = (n0 : Int) := by omega
    clear g1
    go_enter Try.func14, Try.ntmps14
    go_wp2
    go_ret
    exact ⟨sideRes_false _ _ _ _, 0, rfl⟩
  by_cases g2 : n2 = n0
  case neg =>
    have g2' : ((n2 : Int) != (n0 : Int)) = true := by simp; omega
    obtain rfl : n0 = n1 := g1.symm
    clear g1 g2
    go_enter Try.func14, Try.ntmps14
    go_wp2
    go_ret
    exact ⟨sideRes_false _ _ _ _, 0, rfl⟩
  obtain rfl : n0 = n1 := g1.symm
  obtain rfl : n0 = n2 := g2.symm
  go_enter Try.func14, Try.ntmps14
  go_wp2
  go_loopw [7] (fun i wr => ∃ k : Nat, 1 ≤ k ∧ (k ≤ n0 ∨ k = 1) ∧ i = .int .i64 k ∧ Hid (∀ i, i + 1 < k → lessB (z0.getD i ByteArray.empty) (z0.getD (i + 1) ByteArray.empty) = true) ∧ ∃ q, wr = w.drewN q) (fun i _ => n0 - (intOf i).toNat)
  case atStart => exact ⟨1, by omega, .inr rfl, rfl, fun i hi => by omega, 0, rfl⟩
  case round =>
    obtain ⟨k, hk1, hk, rfl, HJ, q, rfl⟩ := hrel
    by_cases hlt : k < n0
    · obtain ⟨b, off, ea, hc⟩ := row_string H0.out k hlt
      subst ea
      obtain ⟨b', off', ea', hc'⟩ := row_string H0.out (k - 1) (by omega)
      obtain ⟨rfl, rfl⟩ := (by simpa using ea' : b = b' ∧ off = off')
      obtain ⟨y1, hy1, HY1⟩ : ∃ y, w.cell? ⟨b, off + k, none⟩ = some (.string y) ∧ Hid (y = z0.getD k ByteArray.empty) := ⟨_, hc, rfl⟩
      obtain ⟨y0, hy0, HY0⟩ : ∃ y, w.cell? ⟨b, off + (k - 1), none⟩ = some (.string y) ∧ Hid (y = z0.getD (k - 1) ByteArray.empty) := ⟨_, hc', rfl⟩
      clear hc hc' ea'
      have hk0 : (1 : Int) ≤ (k : Int) := by omega
      have hkn : (k : Int) < (n0 : Int) := by omega
      by_cases hl : Op.bytesLess y0.toList y1.toList = true
      · go_wp2
        go_quiet (fail)
        go_wp2
        go_roundw
        case rel =>
          refine ⟨k + 1, by omega, .inl (by omega), by go_num, fun i hi => ?_, _, rfl⟩
          by_cases hik : i + 1 < k
          · exact HJ.out i hik
          · have : i = k - 1 := by omega
            subst this
            rw [show k - 1 + 1 = k by omega, ← HY0.out, ← HY1.out]
            exact hl
        case measure => simp [intOf]; omega
      · have hl' : Op.bytesLess y0.toList y1.toList = false := by simpa using hl
        clear hl
        go_wp2
        go_quiet (fail)
        go_wp2
        go_ret
        exact ⟨sideRes_false _ _ _ _, _, drewN_two w q _⟩
    · go_wp2
      go_ret
      exact ⟨⟨true, rfl, fun _ => ⟨by omega, rfl, rfl, fun i hi => HJ.out i (by omega)⟩⟩, _, rfl⟩

set_option maxHeartbeats 400000 in
theorem sameS_eq (g c g' c' n : Nat) (zs ys : List ByteArray) (w : World) (hn : n ≤ 9223372036854775806) (he : ∀ k, k < n → (zs.getD k ByteArray.empty).toList = (ys.getD k ByteArray.empty).toList)
    (hA : ∀ k, k < n → w.cell? ⟨g, k, none⟩ = some (.string (zs.getD k ByteArray.empty))) (hB : ∀ k, k < n → w.cell? ⟨g', k, none⟩ = some (.string (ys.getD k ByteArray.empty))) :
    Calls Try.prog 21 #[.slice (some ⟨g, 0, none⟩) n c, .slice (some ⟨g', 0, none⟩) n c'] w fun e w' => e = .returned (.bool true) ∧ ∃ q, w' = w.drewN q := by
  have HA : Hid (∀ k, k < n → w.cell? ⟨g, k, none⟩ = some (.string (zs.getD k ByteArray.empty))) := hA
  have HB : Hid (∀ k, k < n → w.cell? ⟨g', k, none⟩ = some (.string (ys.getD k ByteArray.empty))) := hB
  have HE : Hid (∀ k, k < n → (zs.getD k ByteArray.empty).toList = (ys.getD k ByteArray.empty).toList) := he
  clear hA hB he
  go_enter Try.func21, Try.ntmps21
  go_wp2
  go_loopw [5] (fun i wr => ∃ k : Nat, k ≤ n ∧ i = .int .i64 k ∧ ∃ q, wr = w.drewN q) (fun i _ => n - (intOf i).toNat)
  case atStart => exact ⟨0, Nat.zero_le _, rfl, 0, rfl⟩
  case round =>
    obtain ⟨k, hk, rfl, q, rfl⟩ := hrel
    by_cases hlt : k < n
    · obtain ⟨y, z, h1, h2, h3⟩ : ∃ y z : ByteArray, w.cell? ⟨g, k, none⟩ = some (.string y) ∧ w.cell? ⟨g', k, none⟩ = some (.string z) ∧ (y.toList == z.toList) = true := ⟨_, _, HA.out k hlt, HB.out k hlt, by simpa using HE.out k hlt⟩
      go_wp2
      go_quiet (fail)
      go_wp2
      go_roundw
      case rel => exact ⟨k + 1, by omega, by go_num, _, rfl⟩
      case measure => simp [intOf]; omega
    · go_wp2
      go_ret
      exact ⟨rfl, _, rfl⟩

theorem sameS_zero (a a' : Option Addr) (c c' : Nat) (w : World) : Calls Try.prog 21 #[.slice a 0 c, .slice a' 0 c'] w fun e w' => e = .returned (.bool true) ∧ w' = w := by
  go_enter Try.func21, Try.ntmps21
  go_wp2
  refine wp_loop_rounds 1 ?_
  rw [rounds_succ]
  go_wp2
  go_ret
  exact ⟨rfl, rfl⟩
end Go.Proofs.Qxb6001683a
