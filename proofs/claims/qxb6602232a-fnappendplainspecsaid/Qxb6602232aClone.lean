/-
  cloneBytes (function 10).
-/
import Derived.Test.Qxb6602232aZeros
namespace Go.Proofs.Qxb6602232a
open Go.RowKit
set_option linter.unusedVariables false
set_option linter.unusedSimpArgs false

/-- what is known of a slice of integers that came in (the shells' own words) -/
def IsRow (k : IntKind) (w : World) (a : Option Addr) (len cap : Nat) (zs : List Int) : Prop :=
  (a = none ∧ len = 0 ∧ cap = 0 ∧ zs = []) ∨
  ∃ x, a = some x ∧ len ≤ cap ∧ cap ≤ maxLen ∧ zs.length = cap ∧ (∀ i, i < zs.length → w.cell? (x.add i) = some (.int k (zs.getD i 0))) ∧ ∀ n ∈ zs, (Lit.int k n).wf = true

theorem set_fill {α : Type} (A : List α) (z x : α) (n k : Nat) (hA : A.length = k) (hk : k < n) : (A ++ List.replicate (n - k) z).set k x = (A ++ [x]) ++ List.replicate (n - (k + 1)) z := by
  subst hA
  obtain ⟨m, hm⟩ : ∃ m, n - A.length = m + 1 := ⟨n - A.length - 1, by omega⟩
  have hm' : n - (A.length + 1) = m := by omega
  rw [hm, hm', List.set_append_right _ _ (Nat.le_refl _)]
  simp [List.replicate_succ]

theorem eqlNil22 (w : World) (a : Option Addr) (n c : Nat) : (binOp .eql 22 (.slice a n c) (.slice none 0 0)).run Try.prog w = .ok (.bool a.isNone) w := Lib.run_eql_slice_nil w _ _ a n c 0 0 Try.underlying22

theorem clone_nil (w : World) : Calls Try.prog 10 #[.slice none 0 0] w fun e w' => e = .returned (.slice none 0 0) ∧ w' = w := by
  have q := eqlNil22
  go_enter Try.func10, Try.ntmps10
  go_wp2
  go_ret
  exact ⟨rfl, rfl⟩

set_option maxHeartbeats 400000 in
theorem clone_zero (x : Addr) (cap : Nat) (w : World) : Calls Try.prog 10 #[.slice (some x) 0 cap] w fun e w' => ∃ a' c', e = .returned (.slice a' 0 c') ∧ w'.ownsRow w.heap.size 5 1 (.slice a' 0 c') 0 [] ∧ Below w.heap.size w w' := by
  obtain ⟨i0, hi, hz0, hz1, hz2⟩ := info_parts info5
  have q := eqlNil22
  go_enter Try.func10, Try.ntmps10
  go_wp2_with (at_make; refine wpList_make_full _ rfl _ _ 22 rfl w.heap.size 5 i0 (.int .u8 0) 1 Try.underlying22 hi hz0 hz1 _ _ _ _ 0 rfl rfl rfl rfl (by omega) (by unfold maxLen; omega) (Nat.le_refl _) ?_)
  intro w1 hown1 hgrow1
  have hb1 : Below w.heap.size w w1 := (Below.refl _ _).grown hgrow1 (Nat.le_refl _) (by simp)
  have hown2 : w1.ownsRow w.heap.size 5 1 (.slice (some ⟨w.heap.size, 0, none⟩) 0 0) 0 [] := by
    simpa [toList_madeCells_one] using hown1
  clear hown1 hgrow1
  go_wp2
  refine wp_loop_rounds 1 ?_
  rw [rounds_succ]
  go_wp2
  go_ret
  exact ⟨_, _, rfl, hown2, hb1⟩

set_option maxHeartbeats 400000 in
theorem clone_some (b off len cap : Nat) (zs : List Int) (w : World) (hlen : len ≤ zs.length) (hm : len ≤ 16777216) (hbw : b < w.heap.size)
    (hcell : ∀ k, k < len → w.cell? ⟨b, off + k, none⟩ = some (.int .u8 (zs.getD k 0))) :
    Calls Try.prog 10 #[.slice (some ⟨b, off, none⟩) len cap] w fun e w' => ∃ a' c', e = .returned (.slice a' len c') ∧ w'.ownsRow w.heap.size 5 1 (.slice a' len c') len ((zs.take len).map (Value.int .u8)) ∧ Below w.heap.size w w' := by
  obtain ⟨i0, hi, hz0, hz1, hz2⟩ := info_parts info5
  have q := eqlNil22
  have HC : Hid (∀ k, k < len → w.cell? ⟨b, off + k, none⟩ = some (.int .u8 (zs.getD k 0))) := hcell
  clear hcell
  go_enter Try.func10, Try.ntmps10
  go_wp2_with (at_make; refine wpList_make_full _ rfl _ _ 22 rfl w.heap.size 5 i0 (.int .u8 0) 1 Try.underlying22 hi hz0 hz1 _ _ _ _ len rfl rfl rfl rfl (by rw [hz2]; omega) (by unfold maxLen; omega) (Nat.le_refl _) ?_)
  intro w1 hown1 hgrow1
  have hb1 : Below w.heap.size w w1 := (Below.refl _ _).grown hgrow1 (Nat.le_refl _) (by simp)
  have hown2 : w1.ownsRow w.heap.size 5 1 (.slice (some ⟨w.heap.size, 0, none⟩) len len) len ((zs.take 0).map (Value.int .u8) ++ List.replicate (len - 0) (.int .u8 0)) := by
    simpa [toList_madeCells_one] using hown1
  clear hown1 hgrow1
  go_wp2
  go_loopw [4] (fun i wr => ∃ k : Nat, k ≤ len ∧ i = .int .i64 k ∧ wr.ownsRow w.heap.size 5 1 (.slice (some ⟨w.heap.size, 0, none⟩) len len) len ((zs.take k).map (Value.int .u8) ++ List.replicate (len - k) (.int .u8 0)) ∧ Below w.heap.size w wr) (fun i _ => len - (intOf i).toNat)
  case atStart => exact ⟨0, Nat.zero_le _, rfl, hown2, hb1⟩
  case round =>
    obtain ⟨k, hk, rfl, hown, hb⟩ := hrel
    by_cases hlt : k < len
    · obtain ⟨ck, hck, hts⟩ : ∃ ck, wr.cell? ⟨b, off + k, none⟩ = some (.int .u8 ck) ∧ Hid (zs.take (k + 1) = zs.take k ++ [ck]) :=
        ⟨zs.getD k 0, (hb.cell (by exact hbw)).trans (HC.out k hlt), by
          have hkl : k < zs.length := by omega
          have e : zs.getD k 0 = zs[k] := by simp [List.getD, hkl]
          rw [e]
          exact List.take_succ_eq_append_getElem hkl⟩
      obtain ⟨x, hc⟩ : ∃ x, wr.cell? ⟨w.heap.size, k, none⟩ = some x := by
        have hxl := hown.1
        exact ⟨_, by rw [hown.cellAt k (by omega), List.getElem?_eq_getElem (by omega)]⟩
      have hf := hown.frozenAt k
      go_wp2
      go_roundw
      case rel =>
        refine ⟨k + 1, by omega, by go_num, ?_, hb.setCell (Nat.le_refl _) _⟩
        have h2 := (hown.stored k (.int .u8 ck)).1
        rw [set_fill _ _ _ _ _ (by simp; omega) hlt] at h2
        rw [hts.out, List.map_append]
        exact h2
      case measure => simp [intOf]; omega
    · have e : k = len := by omega
      subst e
      go_wp2
      go_ret
      exact ⟨_, _, rfl, by simpa using hown, hb⟩

theorem clone_any (a : Option Addr) (len cap : Nat) (zs : List Int) (w : World) (h : IsRow .u8 w a len cap zs) (hm : len ≤ 16777216) :
    Calls Try.prog 10 #[.slice a len cap] w fun e w' => ∃ a' c', e = .returned (.slice a' len c') ∧ w'.ownsRow w.heap.size 5 1 (.slice a' len c') len ((zs.take len).map (Value.int .u8)) ∧ Below w.heap.size w w' := by
  rcases h with ⟨rfl, rfl, rfl, rfl⟩ | ⟨x, rfl, hlc, hcm, hzl, hcell, hwf⟩
  · refine (clone_nil w).mono ?_
    rintro e w' ⟨rfl, hw⟩
    rw [hw]
    exact ⟨_, _, rfl, World.ownsRow_nil _ _ _ _, Below.refl _ _⟩
  · by_cases h0 : len = 0
    · subst h0
      simpa using clone_zero x cap w
    · obtain ⟨b, off, spot⟩ := x
      have hspot : spot = none := by simpa [Addr.add] using World.cell?_spot (hcell 0 (by omega))
      subst hspot
      have hc0 := hcell 0 (by omega)
      exact clone_some b off len cap zs w (by omega) hm (World.block_lt_of_cell? w _ (by simpa [Addr.add_lit] using hc0)) (fun k hk => by rw [← Addr.add_lit]; exact hcell k (by omega))
end Go.Proofs.Qxb6602232a
