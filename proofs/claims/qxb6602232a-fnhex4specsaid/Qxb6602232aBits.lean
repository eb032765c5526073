/-
  r<<4 | d, over int32: plain arithmetic.
-/
import Derived.WalkKit
import Derived.Laws.BitsAllLaws
namespace Go.Proofs.Qxb6602232a
open Go.RowKit
set_option linter.unusedVariables false
set_option linter.unusedSimpArgs false

theorem ofInt_32 (a : Nat) (ha : a < 4294967296) : (BitVec.ofInt 32 (a : Int)).toNat = a := by
  rw [BitVec.ofInt_natCast, BitVec.toNat_ofNat]; exact Nat.mod_eq_of_lt (by omega)
theorem i32_or_nat (a b : Nat) (ha : a < 2147483648) (hb : b < 2147483648) : bits .or .i32 (a : Int) (b : Int) = ((a ||| b : Nat) : Int) := by
  have hx : a ||| b < 2 ^ 31 := Nat.or_lt_two_pow (by omega) (by omega)
  show IntKind.i32.wrap ((BitVec.ofInt 32 (a : Int) ||| BitVec.ofInt 32 (b : Int)).toNat : Int) = _
  rw [BitVec.toNat_or, ofInt_32 a (by omega), ofInt_32 b (by omega)]
  simp [IntKind.wrap, IntKind.bits, IntKind.signed]
  omega

theorem shl4_or (r d : Int) (h0 : 0 ≤ r) (h1 : r < 4096) (h2 : 0 ≤ d) (h3 : d < 16) : bits .or .i32 (wrap32 (r * 16)) d = r * 16 + d := by
  have e : wrap32 (r * 16) = r * 16 := by unfold wrap32; omega
  rw [e]
  obtain ⟨R, rfl⟩ := Int.eq_ofNat_of_zero_le h0
  obtain ⟨D, rfl⟩ := Int.eq_ofNat_of_zero_le h2
  have e2 : ((R : Int) * 16) = ((R * 16 : Nat) : Int) := by omega
  rw [e2, i32_or_nat _ _ (by omega) (by omega)]
  have e3 : R * 16 ||| D = R * 16 + D := by
    have := Nat.shiftLeft_add_eq_or_of_lt (a := R) (b := D) (i := 4) (by omega)
    rw [Nat.shiftLeft_eq] at this
    exact this.symm
  rw [e3]
  omega

theorem pow16_le (n k : Nat) (hk : k < 4) (h : n ≤ k) : (16 : Int) ^ n ≤ 4096 := by
  have : n = 0 ∨ n = 1 ∨ n = 2 ∨ n = 3 := by omega
  rcases this with rfl | rfl | rfl | rfl <;> decide
end Go.Proofs.Qxb6602232a
