/-
  zzAdd (24), zzBoolsBytes (25), zzSumsBytes (26), zzStringsBytes (23), zzChangedBytes (13), zzBytes (12): each returns something, and the world is as it was.
-/
import Derived.Test.Qxb6001683aClone
namespace Go.Proofs.Qxb6001683a
open Go.RowKit
set_option linter.unusedVariables false
set_option linter.unusedSimpArgs false

theorem add_any (n m : Int) (w : World) : Calls Try.prog 24 #[.int .i64 n, .int .i64 m] w fun e w' => (∃ z, e = .returned (.int .i64 z)) ∧ w' = w := by
  by_cases c1 : n < 0
  · go_enter Try.func24, Try.ntmps24
    go_wp2
    go_ret
    exact ⟨⟨_, rfl⟩, rfl⟩
  by_cases c2 : m < 0
  · go_enter Try.func24, Try.ntmps24
    go_wp2
    go_ret
    exact ⟨⟨_, rfl⟩, rfl⟩
  by_cases c3 : 1048576 < n
  · go_enter Try.func24, Try.ntmps24
    go_wp2
    go_ret
    exact ⟨⟨_, rfl⟩, rfl⟩
  by_cases c4 : 1048576 - n < m
  · go_enter Try.func24, Try.ntmps24
    go_wp2
    go_ret
    exact ⟨⟨_, rfl⟩, rfl⟩
  · go_enter Try.func24, Try.ntmps24
    go_wp2
    go_ret
    exact ⟨⟨_, rfl⟩, rfl⟩

theorem boolsBytes_any (a : Option Addr) (n c : Nat) (w : World) : Calls Try.prog 25 #[.slice a n c] w fun e w' => (∃ z, e = .returned (.int .i64 z)) ∧ w' = w := by
  by_cases c1 : 1048576 < n
  · go_enter Try.func25, Try.ntmps25
    go_wp2
    go_ret
    exact ⟨⟨_, rfl⟩, rfl⟩
  · go_enter Try.func25, Try.ntmps25
    go_wp2
    go_ret
    exact ⟨⟨_, rfl⟩, rfl⟩

theorem sumsBytes_any (a : Option Addr) (n c : Nat) (w : World) : Calls Try.prog 26 #[.slice a n c] w fun e w' => (∃ z, e = .returned (.int .i64 z)) ∧ w' = w := by
  by_cases c1 : 1048576 < n
  · go_enter Try.func26, Try.ntmps26
    go_wp2
    go_ret
    exact ⟨⟨_, rfl⟩, rfl⟩
  · go_enter Try.func26, Try.ntmps26
    go_wp2_with (go_at_call 24; refine (add_any _ _ _).mono ?_; rintro e w' ⟨⟨z, rfl⟩, rfl⟩)
    go_ret
    exact ⟨⟨_, rfl⟩, rfl⟩

/-- a string of a row that came in -/
theorem row_string {w : World} {a : Option Addr} {n : Nat} {zs : List ByteArray} (h : RowIn Value.string ByteArray.empty w a n zs) (k : Nat) (hk : k < n) : ∃ b off, a = some ⟨b, off, none⟩ ∧ w.cell? ⟨b, off + k, none⟩ = some (.string (zs.getD k ByteArray.empty)) := by
  rcases h.2 with ⟨_, h0⟩ | ⟨x, rfl, hc⟩
  · omega
  · obtain ⟨b, off, spot⟩ := x
    have hspot : spot = none := by simpa [Addr.add] using World.cell?_spot (hc 0 (by omega))
    subst hspot
    exact ⟨b, off, rfl, by rw [← Addr.add_lit]; exact hc k hk⟩

set_option maxHeartbeats 400000 in
theorem stringsBytes_any (a : Option Addr) (n c : Nat) (zs : List ByteArray) (w : World) (h : RowIn Value.string ByteArray.empty w a n zs) :
    Calls Try.prog 23 #[.slice a n c] w fun e w' => (∃ z, e = .returned (.int .i64 z)) ∧ w = w' := by
  have H : Hid (RowIn Value.string ByteArray.empty w a n zs) := h
  clear h
  by_cases c1 : 1048576 < n
  · go_enter Try.func23, Try.ntmps23
    go_wp2
    go_ret
    exact ⟨⟨_, rfl⟩, rfl⟩
  · go_enter Try.func23, Try.ntmps23
    go_wp2_with (go_at_call 24; refine (add_any _ _ _).mono ?_; rintro e w' ⟨⟨z, rfl⟩, hw⟩; subst hw)
    go_loop [3, 4] (fun s i => ∃ (k : Nat) (z : Int), k ≤ n ∧ i = .int .i64 k ∧ s = .int .i64 z) (fun _ i => n - (intOf i).toNat)
    case atStart => exact ⟨0, _, by omega, rfl, rfl⟩
    case round =>
      obtain ⟨k, z, hk, rfl, rfl⟩ := hrel
      by_cases hlt : k < n
      · by_cases hz : z ≤ 1048576
        · obtain ⟨b, off, ea, hc⟩ := row_string H.out k hlt
          subst ea
          go_wp2_with (go_at_call 24; refine (add_any _ _ _).mono ?_; rintro e w' ⟨⟨z', rfl⟩, hw⟩; subst hw)
          go_round
          case rel => exact ⟨k + 1, _, by omega, by go_num, rfl⟩
          case measure => simp [intOf]; omega
        · go_wp2
          go_ret
          exact ⟨⟨_, rfl⟩, rfl⟩
      · go_wp2
        go_ret
        exact ⟨⟨_, rfl⟩, rfl⟩
end Go.Proofs.Qxb6001683a
