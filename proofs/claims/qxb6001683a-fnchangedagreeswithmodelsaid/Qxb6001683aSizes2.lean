/-
  zzChangedBytes (13), zzBytes (12): each returns something, and the world is as it was.
-/
import Derived.Test.Qxb6001683aSizes
namespace Go.Proofs.Qxb6001683a
open Go.RowKit
set_option linter.unusedVariables false
set_option linter.unusedSimpArgs false

theorem changedBytes_any (a0 : Option Addr) (n0 c0 : Nat) (z0 : List ByteArray) (a1 : Option Addr) (n1 c1 : Nat) (a2 : Option Addr) (n2 c2 : Nat) (a3 : Option Addr) (n3 c3 : Nat) (z3 : List ByteArray) (a4 : Option Addr) (n4 c4 : Nat) (a5 : Option Addr) (n5 c5 : Nat) (w : World)
    (h0 : RowIn Value.string ByteArray.empty w a0 n0 z0) (h3 : RowIn Value.string ByteArray.empty w a3 n3 z3) :
    Calls Try.prog 13 #[.slice a0 n0 c0, .slice a1 n1 c1, .slice a2 n2 c2, .slice a3 n3 c3, .slice a4 n4 c4, .slice a5 n5 c5] w fun e w' => (∃ z, e = .returned (.int .i64 z)) ∧ w = w' := by
  have H0 : Hid (RowIn Value.string ByteArray.empty w a0 n0 z0) := h0
  have H3 : Hid (RowIn Value.string ByteArray.empty w a3 n3 z3) := h3
  clear h0 h3
  go_enter Try.func13, Try.ntmps13
  go_wp2_with fail
  refine (stringsBytes_any a0 n0 c0 z0 w H0.out).mono ?_
  rintro e w' ⟨⟨x0, rfl⟩, rfl⟩
  go_wp2_with (first | (go_at_call 24; refine (add_any _ _ _).mono ?_; rintro e w' ⟨⟨z', rfl⟩, hw⟩; subst hw) | (go_at_call 25; refine (boolsBytes_any _ _ _ _).mono ?_; rintro e w' ⟨⟨z', rfl⟩, hw⟩; subst hw) | (go_at_call 26; refine (sumsBytes_any _ _ _ _).mono ?_; rintro e w' ⟨⟨z', rfl⟩, hw⟩; subst hw))
  refine (stringsBytes_any a3 n3 c3 z3 _ H3.out).mono ?_
  rintro e w' ⟨⟨x3, rfl⟩, rfl⟩
  go_wp2_with (first | (go_at_call 24; refine (add_any _ _ _).mono ?_; rintro e w' ⟨⟨z', rfl⟩, hw⟩; subst hw) | (go_at_call 25; refine (boolsBytes_any _ _ _ _).mono ?_; rintro e w' ⟨⟨z', rfl⟩, hw⟩; subst hw) | (go_at_call 26; refine (sumsBytes_any _ _ _ _).mono ?_; rintro e w' ⟨⟨z', rfl⟩, hw⟩; subst hw))
  go_ret
  exact ⟨⟨_, rfl⟩, rfl⟩

/-- it returned a bool -/
def SomeBool (e : Ending) : Prop := ∃ b, e = .returned (.bool b)

set_option maxRecDepth 100000 in
set_option maxHeartbeats 2000000 in
theorem zz12_any (a0 : Option Addr) (n0 c0 : Nat) (z0 : List ByteArray) (a1 : Option Addr) (n1 c1 : Nat) (a2 : Option Addr) (n2 c2 : Nat) (a3 : Option Addr) (n3 c3 : Nat) (z3 : List ByteArray) (a4 : Option Addr) (n4 c4 : Nat) (a5 : Option Addr) (n5 c5 : Nat) (w : World)
    (h0 : RowIn Value.string ByteArray.empty w a0 n0 z0) (h3 : RowIn Value.string ByteArray.empty w a3 n3 z3) :
    Calls Try.prog 12 #[.slice a0 n0 c0, .slice a1 n1 c1, .slice a2 n2 c2, .slice a3 n3 c3, .slice a4 n4 c4, .slice a5 n5 c5] w fun e w' => SomeBool e ∧ w = w' := by
  have H0 : Hid (RowIn Value.string ByteArray.empty w a0 n0 z0) := h0
  have H3 : Hid (RowIn Value.string ByteArray.empty w a3 n3 z3) := h3
  clear h0 h3
  by_cases g0 : 1048576 < n0
  · go_enter Try.func12, Try.ntmps12
    go_wp2
    go_ret
    exact ⟨⟨_, rfl⟩, rfl⟩
  go_enter Try.func12, Try.ntmps12
  go_wp2
  go_loop [13, 14] (fun s i => ∃ (k : Nat) (z : Int), k ≤ n0 ∧ i = .int .i64 k ∧ s = .int .i64 z) (fun _ i => n0 - (intOf i).toNat)
  case atStart => exact ⟨0, _, by omega, rfl, rfl⟩
  case round =>
    obtain ⟨k, z, hk, rfl, rfl⟩ := hrel
    by_cases hlt : k < n0
    · obtain ⟨b, off, ea, hc⟩ := row_string H0.out k hlt
      subst ea
      go_wp2
      all_goals try (go_ret; exact ⟨⟨_, rfl⟩, rfl⟩)
      go_round
      case rel => exact ⟨k + 1, _, by omega, by go_num, rfl⟩
      case measure => simp [intOf]; omega
    · go_wp2
      all_goals try (go_ret; exact ⟨⟨_, rfl⟩, rfl⟩)
      go_loop [13, 15] (fun s i => ∃ (k : Nat) (z : Int), k ≤ n3 ∧ i = .int .i64 k ∧ s = .int .i64 z) (fun _ i => n3 - (intOf i).toNat)
      case atStart => exact ⟨0, _, by omega, rfl, rfl⟩
      case round =>
        obtain ⟨k, z, hk, rfl, rfl⟩ := hrel
        by_cases hlt : k < n3
        · obtain ⟨b, off, ea, hc⟩ := row_string H3.out k hlt
          subst ea
          go_wp2
          all_goals try (go_ret; exact ⟨⟨_, rfl⟩, rfl⟩)
          go_round
          case rel => exact ⟨k + 1, _, by omega, by go_num, rfl⟩
          case measure => simp [intOf]; omega
        · go_wp2
          all_goals (go_ret; exact ⟨⟨_, rfl⟩, rfl⟩)
end Go.Proofs.Qxb6001683a
