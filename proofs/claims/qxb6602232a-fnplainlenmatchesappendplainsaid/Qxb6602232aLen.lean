/-
  plainLen (function 22) and ZZPlainLen (function 19): what they compute, as a plain function of integers.
-/
import Derived.Test.Qxb6602232aRows
import Derived.WalkKit
import Derived.WalkSpells
namespace Go.Proofs.Qxb6602232a
open Go.RowKit
set_option linter.unusedVariables false
set_option linter.unusedSimpArgs false

/-- the length of the plain form -/
def plen (neg : Bool) (n adj : Int) : Int :=
  (if adj + 1 ≤ 0 then n + 1 + (1 - (adj + 1)) else if n ≤ adj + 1 then adj + 1 else n + 1) + (if neg = true then 1 else 0)

theorem ret_int {k : IntKind} {a b : Int} (h : a = b) : Ending.returned (.int k a) = .returned (.int k b) := by rw [h]

theorem plainLen_any (neg : Bool) (n adj : Int) (w : World) (h0 : 0 ≤ n) (h1 : n ≤ 2305843009213693951) (h2 : -2305843009213693951 ≤ adj) (h3 : adj ≤ 2305843009213693951) :
    Calls Try.prog 22 #[.bool neg, .int .i64 n, .int .i64 adj] w fun e w' => e = .returned (.int .i64 (plen neg n adj)) ∧ w' = w := by
  cases neg
  · by_cases c1 : adj + 1 ≤ 0
    · go_enter Try.func22, Try.ntmps22
      go_wp2
      go_ret
      exact ⟨ret_int (by unfold plen; simp only [if_true, Bool.false_eq_true, if_false]; split <;> (try split) <;> omega), rfl⟩
    · by_cases c2 : n ≤ adj + 1
      · go_enter Try.func22, Try.ntmps22
        go_wp2
        go_ret
        exact ⟨ret_int (by unfold plen; simp only [if_true, Bool.false_eq_true, if_false]; split <;> (try split) <;> omega), rfl⟩
      · go_enter Try.func22, Try.ntmps22
        go_wp2
        go_ret
        exact ⟨ret_int (by unfold plen; simp only [if_true, Bool.false_eq_true, if_false]; split <;> (try split) <;> omega), rfl⟩
  · by_cases c1 : adj + 1 ≤ 0
    · go_enter Try.func22, Try.ntmps22
      go_wp2
      go_ret
      exact ⟨ret_int (by unfold plen; simp only [if_true, Bool.false_eq_true, if_false]; split <;> (try split) <;> omega), rfl⟩
    · by_cases c2 : n ≤ adj + 1
      · go_enter Try.func22, Try.ntmps22
        go_wp2
        go_ret
        exact ⟨ret_int (by unfold plen; simp only [if_true, Bool.false_eq_true, if_false]; split <;> (try split) <;> omega), rfl⟩
      · go_enter Try.func22, Try.ntmps22
        go_wp2
        go_ret
        exact ⟨ret_int (by unfold plen; simp only [if_true, Bool.false_eq_true, if_false]; split <;> (try split) <;> omega), rfl⟩

theorem zzPlainLen_any (neg : Bool) (n adj : Int) (w : World) (h0 : 0 ≤ n) (h1 : n ≤ 2305843009213693951) (h2 : -2305843009213693951 ≤ adj) (h3 : adj ≤ 2305843009213693951) :
    Calls Try.prog 19 #[.bool neg, .int .i64 n, .int .i64 adj] w fun e w' => e = .returned (.int .i64 (plen neg n adj)) ∧ w' = w := by
  go_enter Try.func19, Try.ntmps19
  go_wp2_with (go_at_call 22; refine (plainLen_any _ _ _ _ h0 h1 h2 h3).mono ?_; rintro e w' ⟨rfl, rfl⟩)
  go_ret
  exact ⟨rfl, rfl⟩
end Go.Proofs.Qxb6602232a
