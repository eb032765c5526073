/-
  FnPlainLenMatchesAppendPlain (function 8): the walk.
-/
import Derived.Test.Qxb6602232aLen
import Derived.Test.Qxb6602232aAppend
namespace Go.Proofs.Qxb6602232a
open Go.RowKit
set_option linter.unusedVariables false
set_option linter.unusedSimpArgs false

theorem plainL_plen {α : Type} (z p m : α) (neg : Bool) (ds : List α) (adj : Int) (n : Nat) (h : ds.length = n) : ((plainL z p m neg ds adj).length : Int) = plen neg n adj := by
  rw [plainL_length, h]; rfl

theorem ret_beq' {a b : Int} (h : a = b) : Ending.returned (.bool (a == b)) = .returned (.bool true) := by rw [h]; simp

theorem one_set {xs : List Value} {k : Nat} {z : Int} (h : ∀ u ∈ xs, u.oneCell' = true) : ∀ u ∈ xs.set k (.int .u8 z), u.oneCell' = true := by
  intro u hu
  rcases List.mem_or_eq_of_mem_set hu with h' | rfl
  · exact h u h'
  · rfl

set_option maxHeartbeats 400000 in
theorem matches_in (neg : Bool) (n : Nat) (adj : Int) (w : World) (h1 : n ≤ 65536) (h2 : -65536 ≤ adj) (h3 : adj ≤ 65536) :
    Calls Try.prog 8 #[.bool neg, .int .i64 n, .int .i64 adj] w fun e w' => e = .returned (.bool true) ∧ Below w.heap.size w w' := by
  obtain ⟨i0, hi, hz0, hz1, hz2⟩ := info_parts info5
  go_enter Try.func8, Try.ntmps8
  go_wp2_with (at_make; refine wpList_make_full _ rfl _ _ 22 rfl w.heap.size 5 i0 (.int .u8 0) 1 Try.underlying22 hi hz0 hz1 _ _ _ _ n rfl rfl rfl rfl (by rw [hz2]; omega) (by unfold maxLen; omega) (Nat.le_refl _) ?_)
  intro w1 hown1 hgrow1
  have hone : ∀ u ∈ (madeCells #[Value.int IntKind.u8 0] n).toList, u.oneCell' = true := by
    intro u hu
    simp [toList_madeCells_one] at hu
    rw [hu.2]; rfl
  have hex : ∃ xs, w1.ownsRow w.heap.size 5 1 (.slice (some ⟨w.heap.size, 0, none⟩) n n) n xs ∧ ∀ u ∈ xs, u.oneCell' = true := ⟨_, hown1, hone⟩
  have hb1 : Below w.heap.size w w1 := (Below.refl _ _).grown hgrow1 (Nat.le_refl _) (by simp)
  clear hown1 hgrow1 hone
  go_wp2
  go_loopw [8] (fun i wr => ∃ k : Nat, k ≤ n ∧ i = .int .i64 k ∧ (∃ xs, wr.ownsRow w.heap.size 5 1 (.slice (some ⟨w.heap.size, 0, none⟩) n n) n xs ∧ ∀ u ∈ xs, u.oneCell' = true) ∧ Below w.heap.size w wr) (fun i _ => n - (intOf i).toNat)
  case atStart => exact ⟨0, Nat.zero_le _, rfl, hex, hb1⟩
  case round =>
    obtain ⟨k, hk, rfl, ⟨xs, hown, hone⟩, hb⟩ := hrel
    by_cases hlt : k < n
    · obtain ⟨x, hc⟩ : ∃ x, wr.cell? ⟨w.heap.size, k, none⟩ = some x := by
        have hxl : xs.length = n := by simpa using hown.1
        exact ⟨xs[k], by rw [hown.cellAt k (by omega), List.getElem?_eq_getElem]⟩
      have hf := hown.frozenAt k
      go_wp2
      go_roundw
      case rel => exact ⟨k + 1, by omega, by go_num, ⟨_, (hown.stored k _).1, one_set hone⟩, hb.setCell (Nat.le_refl _) _⟩
      case measure => simp [intOf]; omega
    · have hxl : xs.length = n := by simpa using hown.1
      have HL := plainL_plen (Value.int .u8 48) (.int .u8 46) (.int .u8 45) neg xs adj n hxl
      have hsz := hb.size
      go_wp2_with fail
      refine (zzAppendPlain_slice _ neg _ n n adj _ w.heap.size 0 [] xs (World.ownsRow_nil _ _ _ _) hown hone (by intro k _ h; simp [Value.ownBlock] at h) hsz (by omega) (by omega) h2 h3).mono ?_
      rintro e w2 ⟨a', c', rfl, hown2, hadv2⟩
      have hb2 : Below w.heap.size w w2 := hb.trans (hadv2.below hsz (by simp [Value.ownBlock]))
      clear hown2 hadv2
      go_wp2_with (go_at_call 19; refine (zzPlainLen_any _ _ _ _ (by omega) (by omega) (by omega) (by omega)).mono ?_; rintro e w' ⟨rfl, rfl⟩)
      go_ret
      exact ⟨rfl, hb2⟩
end Go.Proofs.Qxb6602232a
