/-
  hexIndex (function 12); FnHex4Spec (function 3): the walk.
-/
import Derived.Test.Qxb6602232aRound
namespace Go.Proofs.Qxb6602232a
open Go.RowKit
set_option linter.unusedVariables false
set_option linter.unusedSimpArgs false

/-- hexIndex: the digit's value, or -1 -/
def hidx (c : Int) : Int := if dv c < 16 then dv c else -1

theorem hit_low (k : Nat) (c : Int) (hk : k < 16) (hl : k < ({ data := #[48, 49, 50, 51, 52, 53, 54, 55, 56, 57, 97, 98, 99, 100, 101, 102] } : ByteArray).size) (h : ((({ data := #[48, 49, 50, 51, 52, 53, 54, 55, 56, 57, 97, 98, 99, 100, 101, 102] } : ByteArray)[k]'hl).toNat : Int) = c) : hidx c = k := by
  have h1 := low_dv k (by omega) (by omega) hl
  have h2 : dv c = k := by rw [← h]; exact h1
  unfold hidx
  rw [h2, if_pos (by omega)]

theorem hit_up (k : Nat) (c : Int) (hk : k < 16) (hl : k < ({ data := #[48, 49, 50, 51, 52, 53, 54, 55, 56, 57, 97, 98, 99, 100, 101, 102] } : ByteArray).size) (hu : k < ({ data := #[48, 49, 50, 51, 52, 53, 54, 55, 56, 57, 65, 66, 67, 68, 69, 70] } : ByteArray).size) (h : (((({ data := #[48, 49, 50, 51, 52, 53, 54, 55, 56, 57, 97, 98, 99, 100, 101, 102] } : ByteArray)[k]'hl).toNat : Int) == c) = true ∨ (((({ data := #[48, 49, 50, 51, 52, 53, 54, 55, 56, 57, 65, 66, 67, 68, 69, 70] } : ByteArray)[k]'hu).toNat : Int) == c) = true) : hidx c = k := by
  rcases h with h | h
  · exact hit_low k c hk hl (by simpa using h)
  · have h1 := up_dv k (by omega) (by omega) hu
    have h2 : dv c = k := by
      have h3 : ((({ data := #[48, 49, 50, 51, 52, 53, 54, 55, 56, 57, 65, 66, 67, 68, 69, 70] } : ByteArray)[k]'hu).toNat : Int) = c := by simpa using h
      rw [← h3]; exact h1
    unfold hidx
    rw [h2, if_pos (by omega)]

theorem dv_no (c k a b : Int) (ha : a = if k < 10 then 48 + k else 87 + k) (hb : b = if k < 10 then 48 + k else 55 + k) (h1 : a ≠ c) (h2 : b ≠ c) (h : dv c = k) (h0 : 0 ≤ k) (h16 : k < 16) : False := by
  unfold dv at h
  subst ha
  subst hb
  split at h1 <;> split at h2 <;> split at h <;> (try split at h) <;> (try split at h) <;> omega

theorem miss (k : Nat) (c : Int) (hk : k < 16) (hl : k < ({ data := #[48, 49, 50, 51, 52, 53, 54, 55, 56, 57, 97, 98, 99, 100, 101, 102] } : ByteArray).size) (hu : k < ({ data := #[48, 49, 50, 51, 52, 53, 54, 55, 56, 57, 65, 66, 67, 68, 69, 70] } : ByteArray).size) (h : (((({ data := #[48, 49, 50, 51, 52, 53, 54, 55, 56, 57, 97, 98, 99, 100, 101, 102] } : ByteArray)[k]'hl).toNat : Int) == c) = false ∧ (((({ data := #[48, 49, 50, 51, 52, 53, 54, 55, 56, 57, 65, 66, 67, 68, 69, 70] } : ByteArray)[k]'hu).toNat : Int) == c) = false) : dv c ≠ k := by
  obtain ⟨h1, h2⟩ := h
  have h1 : ((({ data := #[48, 49, 50, 51, 52, 53, 54, 55, 56, 57, 97, 98, 99, 100, 101, 102] } : ByteArray)[k]'hl).toNat : Int) ≠ c := by simpa using h1
  have h2 : ((({ data := #[48, 49, 50, 51, 52, 53, 54, 55, 56, 57, 65, 66, 67, 68, 69, 70] } : ByteArray)[k]'hu).toNat : Int) ≠ c := by simpa using h2
  intro e
  have : k = 0 ∨ k = 1 ∨ k = 2 ∨ k = 3 ∨ k = 4 ∨ k = 5 ∨ k = 6 ∨ k = 7 ∨ k = 8 ∨ k = 9 ∨ k = 10 ∨ k = 11 ∨ k = 12 ∨ k = 13 ∨ k = 14 ∨ k = 15 := by omega
  rcases this with rfl | rfl | rfl | rfl | rfl | rfl | rfl | rfl | rfl | rfl | rfl | rfl | rfl | rfl | rfl | rfl
  · exact dv_no c 0 48 48 (by decide) (by decide) h1 h2 e (by decide) (by decide)
  · exact dv_no c 1 49 49 (by decide) (by decide) h1 h2 e (by decide) (by decide)
  · exact dv_no c 2 50 50 (by decide) (by decide) h1 h2 e (by decide) (by decide)
  · exact dv_no c 3 51 51 (by decide) (by decide) h1 h2 e (by decide) (by decide)
  · exact dv_no c 4 52 52 (by decide) (by decide) h1 h2 e (by decide) (by decide)
  · exact dv_no c 5 53 53 (by decide) (by decide) h1 h2 e (by decide) (by decide)
  · exact dv_no c 6 54 54 (by decide) (by decide) h1 h2 e (by decide) (by decide)
  · exact dv_no c 7 55 55 (by decide) (by decide) h1 h2 e (by decide) (by decide)
  · exact dv_no c 8 56 56 (by decide) (by decide) h1 h2 e (by decide) (by decide)
  · exact dv_no c 9 57 57 (by decide) (by decide) h1 h2 e (by decide) (by decide)
  · exact dv_no c 10 97 65 (by decide) (by decide) h1 h2 e (by decide) (by decide)
  · exact dv_no c 11 98 66 (by decide) (by decide) h1 h2 e (by decide) (by decide)
  · exact dv_no c 12 99 67 (by decide) (by decide) h1 h2 e (by decide) (by decide)
  · exact dv_no c 13 100 68 (by decide) (by decide) h1 h2 e (by decide) (by decide)
  · exact dv_no c 14 101 69 (by decide) (by decide) h1 h2 e (by decide) (by decide)
  · exact dv_no c 15 102 70 (by decide) (by decide) h1 h2 e (by decide) (by decide)

set_option maxHeartbeats 400000 in
theorem hexIndex_any (c : Int) (w : World) (h0 : 0 ≤ c) (h1 : c ≤ 255) :
    Calls Try.prog 12 #[.int .u8 c] w fun e w' => e = .returned (.int .i64 (hidx c)) ∧ w' = w := by
  go_enter Try.func12, Try.ntmps12
  go_wp2
  go_loop [3] (fun i => ∃ k : Nat, k ≤ 16 ∧ i = .int .i64 k ∧ Hid (∀ j : Nat, j < k → dv c ≠ j)) (fun i => 16 - (intOf i).toNat)
  case atStart => exact ⟨0, by omega, rfl, fun j hj => by omega⟩
  case round =>
    obtain ⟨k, hk, rfl, HJ⟩ := hrel
    by_cases hlt : k < 16
    · go_wp2
      · go_ret
        exact ⟨ret_int' (hit_low k c hlt _ ‹_›).symm, rfl⟩
      · go_ret
        exact ⟨ret_int' (hit_up k c hlt _ _ ‹_›).symm, rfl⟩
      · have hms := miss k c hlt _ _ ‹_›
        go_round
        case rel =>
          refine ⟨k + 1, by omega, by go_num, fun j hj => ?_⟩
          by_cases hjk : j < k
          · exact HJ.out j hjk
          · have : j = k := by omega
            subst this
            exact hms
        case measure => simp [intOf]; omega
    · have e16 : hidx c = -1 := by
        have hd := dv_bd c
        unfold hidx
        rw [if_neg]
        intro h
        exact HJ.out (dv c).toNat (by omega) (by omega)
      have E : Hid (hidx c = -1) := e16
      clear e16
      go_wp2
      go_ret
      exact ⟨ret_int' E.out.symm, rfl⟩
end Go.Proofs.Qxb6602232a
