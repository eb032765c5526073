/-
  sameBytes (function 17) at two slices that hold the same bytes.
-/
import Derived.Test.Qxb6602232aZeros
namespace Go.Proofs.Qxb6602232a
open Go.RowKit
set_option linter.unusedVariables false
set_option linter.unusedSimpArgs false

set_option maxHeartbeats 400000 in
theorem same_eq (g o c g' o' c' n : Nat) (zs : List Int) (w : World) (hn : n ≤ 9223372036854775806)
    (hA : ∀ k, k < n → w.cell? ⟨g, o + k, none⟩ = some (.int .u8 (zs.getD k 0))) (hB : ∀ k, k < n → w.cell? ⟨g', o' + k, none⟩ = some (.int .u8 (zs.getD k 0))) :
    Calls Try.prog 17 #[.slice (some ⟨g, o, none⟩) n c, .slice (some ⟨g', o', none⟩) n c'] w fun e w' => e = .returned (.bool true) ∧ ∃ q, w' = w.drewN q := by
  have HA : Hid (∀ k, k < n → w.cell? ⟨g, o + k, none⟩ = some (.int .u8 (zs.getD k 0))) := hA
  have HB : Hid (∀ k, k < n → w.cell? ⟨g', o' + k, none⟩ = some (.int .u8 (zs.getD k 0))) := hB
  clear hA hB
  go_enter Try.func17, Try.ntmps17
  go_wp2
  go_loopw [5] (fun i wr => ∃ k : Nat, k ≤ n ∧ i = .int .i64 k ∧ ∃ q, wr = w.drewN q) (fun i _ => n - (intOf i).toNat)
  case atStart => exact ⟨0, Nat.zero_le _, rfl, 0, rfl⟩
  case round =>
    obtain ⟨k, hk, rfl, q, rfl⟩ := hrel
    by_cases hlt : k < n
    · obtain ⟨y, h1, h2⟩ : ∃ y, w.cell? ⟨g, o + k, none⟩ = some (.int .u8 y) ∧ w.cell? ⟨g', o' + k, none⟩ = some (.int .u8 y) := ⟨_, HA.out k hlt, HB.out k hlt⟩
      go_wp2
      go_quiet (fail)
      go_wp2
      go_roundw
      case rel => exact ⟨k + 1, by omega, by go_num, _, rfl⟩
      case measure => simp [intOf]; omega
    · go_wp2
      go_ret
      exact ⟨rfl, _, rfl⟩
end Go.Proofs.Qxb6602232a
