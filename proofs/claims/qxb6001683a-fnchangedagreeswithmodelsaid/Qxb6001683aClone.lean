/-
  zzCloneStrings (15), zzCloneBools (16).
-/
import Derived.Test.Qxb6001683aCopy
namespace Go.Proofs.Qxb6001683a
open Go.RowKit
set_option linter.unusedVariables false
set_option linter.unusedSimpArgs false

theorem cloneS_info : (Try.prog.info? 9).map (fun i => (i.zero, i.size, i.bytes)) = some (some (.string ByteArray.empty), 1, 16) := by kernel_rfl

theorem cloneS_eqlNil (w : World) (a : Option Addr) (n c : Nat) : (binOp .eql 34 (.slice a n c) (.slice none 0 0)).run Try.prog w = .ok (.bool a.isNone) w := Lib.run_eql_slice_nil w _ _ a n c 0 0 Try.underlying34

theorem cloneS_nil (w : World) (c : Nat) : Calls Try.prog 15 #[.slice none 0 c] w fun e w' => e = .returned (.slice none 0 0) ∧ w' = w := by
  have q := cloneS_eqlNil
  go_enter Try.func15, Try.ntmps15
  go_wp2
  go_ret
  exact ⟨rfl, rfl⟩

set_option maxHeartbeats 400000 in
theorem cloneS_zero (x : Addr) (cap : Nat) (w : World) : Calls Try.prog 15 #[.slice (some x) 0 cap] w fun e w' => ∃ a' c', e = .returned (.slice a' 0 c') ∧ w'.ownsRow w.heap.size 9 1 (.slice a' 0 c') 0 [] ∧ Below w.heap.size w w' := by
  obtain ⟨i0, hi, hz0, hz1, hz2⟩ := info_parts cloneS_info
  have q := cloneS_eqlNil
  go_enter Try.func15, Try.ntmps15
  go_wp2_with (at_make; refine wpList_make_full _ rfl _ _ 34 rfl w.heap.size 9 i0 (.string ByteArray.empty) 1 Try.underlying34 hi hz0 hz1 _ _ _ _ 0 rfl rfl rfl rfl (by omega) (by unfold maxLen; omega) (Nat.le_refl _) ?_)
  intro w1 hown1 hgrow1
  have hb1 : Below w.heap.size w w1 := (Below.refl _ _).grown hgrow1 (Nat.le_refl _) (by simp)
  have hown2 : w1.ownsRow w.heap.size 9 1 (.slice (some ⟨w.heap.size, 0, none⟩) 0 0) 0 [] := by
    simpa [toList_madeCells_one] using hown1
  clear hown1 hgrow1
  go_wp2
  refine wp_loop_rounds 1 ?_
  rw [rounds_succ]
  go_wp2
  go_ret
  exact ⟨_, _, rfl, hown2, hb1⟩

set_option maxHeartbeats 400000 in
theorem cloneS_some (b off len cap : Nat) (zs : List ByteArray) (w : World) (hlen : zs.length = len) (hm : len ≤ 16777216) (hbw : b < w.heap.size)
    (hcell : ∀ k, k < len → w.cell? ⟨b, off + k, none⟩ = some (Value.string (zs.getD k ByteArray.empty))) :
    Calls Try.prog 15 #[.slice (some ⟨b, off, none⟩) len cap] w fun e w' => ∃ a' c', e = .returned (.slice a' len c') ∧ w'.ownsRow w.heap.size 9 1 (.slice a' len c') len (zs.map Value.string) ∧ Below w.heap.size w w' := by
  obtain ⟨i0, hi, hz0, hz1, hz2⟩ := info_parts cloneS_info
  have q := cloneS_eqlNil
  have HC : Hid (∀ k, k < len → w.cell? ⟨b, off + k, none⟩ = some (Value.string (zs.getD k ByteArray.empty))) := hcell
  have HL : Hid (zs.length = len) := hlen
  clear hcell hlen
  go_enter Try.func15, Try.ntmps15
  go_wp2_with (at_make; refine wpList_make_full _ rfl _ _ 34 rfl w.heap.size 9 i0 (.string ByteArray.empty) 1 Try.underlying34 hi hz0 hz1 _ _ _ _ len rfl rfl rfl rfl (by rw [hz2]; omega) (by unfold maxLen; omega) (Nat.le_refl _) ?_)
  intro w1 hown1 hgrow1
  have hb1 : Below w.heap.size w w1 := (Below.refl _ _).grown hgrow1 (Nat.le_refl _) (by simp)
  have hown2 : w1.ownsRow w.heap.size 9 1 (.slice (some ⟨w.heap.size, 0, none⟩) len len) len ((zs.take 0).map Value.string ++ List.replicate (len - 0) (.string ByteArray.empty)) := by
    simpa [toList_madeCells_one] using hown1
  clear hown1 hgrow1
  go_wp2
  go_loopw [4] (fun i wr => ∃ k : Nat, k ≤ len ∧ i = .int .i64 k ∧ wr.ownsRow w.heap.size 9 1 (.slice (some ⟨w.heap.size, 0, none⟩) len len) len ((zs.take k).map Value.string ++ List.replicate (len - k) (.string ByteArray.empty)) ∧ Below w.heap.size w wr) (fun i _ => len - (intOf i).toNat)
  case atStart => exact ⟨0, Nat.zero_le _, rfl, hown2, hb1⟩
  case round =>
    obtain ⟨k, hk, rfl, hown, hb⟩ := hrel
    by_cases hlt : k < len
    · obtain ⟨ck, hck, hts⟩ : ∃ ck, wr.cell? ⟨b, off + k, none⟩ = some (Value.string ck) ∧ Hid (zs.take (k + 1) = zs.take k ++ [ck]) :=
        ⟨zs.getD k ByteArray.empty, (hb.cell (by exact hbw)).trans (HC.out k hlt), by
          have hkl : k < zs.length := by have := HL.out; omega
          have e : zs.getD k ByteArray.empty = zs[k] := by simp [List.getD, hkl]
          rw [e]
          exact List.take_succ_eq_append_getElem hkl⟩
      obtain ⟨x, hc⟩ : ∃ x, wr.cell? ⟨w.heap.size, k, none⟩ = some x := by
        have hxl := hown.1
        exact ⟨_, by rw [hown.cellAt k (by omega), List.getElem?_eq_getElem (by omega)]⟩
      have hf := hown.frozenAt k
      go_wp2
      go_roundw
      case rel =>
        refine ⟨k + 1, by omega, by go_num, ?_, hb.setCell (Nat.le_refl _) _⟩
        have h2 := (hown.stored k (Value.string ck)).1
        rw [set_fill _ _ _ _ _ (by have := HL.out; simp; omega) hlt] at h2
        rw [hts.out, List.map_append]
        exact h2
      case measure => simp [intOf]; omega
    · have e : k = len := by omega
      subst e
      go_wp2
      go_ret
      refine ⟨_, _, rfl, ?_, hb⟩
      rw [List.take_of_length_le (by have := HL.out; omega)] at hown
      simpa using hown

theorem cloneS_any (a : Option Addr) (len cap : Nat) (zs : List ByteArray) (w : World) (h : RowIn Value.string ByteArray.empty w a len zs) (hm : len ≤ 16777216) :
    Calls Try.prog 15 #[.slice a len cap] w fun e w' => ∃ a' c', e = .returned (.slice a' len c') ∧ w'.ownsRow w.heap.size 9 1 (.slice a' len c') len (zs.map Value.string) ∧ Below w.heap.size w w' := by
  obtain ⟨hl, h⟩ := h
  rcases h with ⟨rfl, rfl⟩ | ⟨x, rfl, hcell⟩
  · have e : zs = [] := List.eq_nil_of_length_eq_zero hl
    subst e
    refine (cloneS_nil w cap).mono ?_
    rintro e w' ⟨rfl, hw⟩
    rw [hw]
    exact ⟨_, _, rfl, World.ownsRow_nil _ _ _ _, Below.refl _ _⟩
  · by_cases h0 : len = 0
    · subst h0
      have e : zs = [] := List.eq_nil_of_length_eq_zero hl
      subst e
      simpa using cloneS_zero x cap w
    · obtain ⟨b, off, spot⟩ := x
      have hspot : spot = none := by simpa [Addr.add] using World.cell?_spot (hcell 0 (by omega))
      subst hspot
      have hc0 := hcell 0 (by omega)
      exact cloneS_some b off len cap zs w hl hm (World.block_lt_of_cell? w _ (by simpa [Addr.add_lit] using hc0)) (fun k hk => by rw [← Addr.add_lit]; exact hcell k hk)

theorem cloneB_info : (Try.prog.info? 4).map (fun i => (i.zero, i.size, i.bytes)) = some (some (.bool false), 1, 1) := by kernel_rfl

theorem cloneB_eqlNil (w : World) (a : Option Addr) (n c : Nat) : (binOp .eql 23 (.slice a n c) (.slice none 0 0)).run Try.prog w = .ok (.bool a.isNone) w := Lib.run_eql_slice_nil w _ _ a n c 0 0 Try.underlying23

theorem cloneB_nil (w : World) (c : Nat) : Calls Try.prog 16 #[.slice none 0 c] w fun e w' => e = .returned (.slice none 0 0) ∧ w' = w := by
  have q := cloneB_eqlNil
  go_enter Try.func16, Try.ntmps16
  go_wp2
  go_ret
  exact ⟨rfl, rfl⟩

set_option maxHeartbeats 400000 in
theorem cloneB_zero (x : Addr) (cap : Nat) (w : World) : Calls Try.prog 16 #[.slice (some x) 0 cap] w fun e w' => ∃ a' c', e = .returned (.slice a' 0 c') ∧ w'.ownsRow w.heap.size 4 1 (.slice a' 0 c') 0 [] ∧ Below w.heap.size w w' := by
  obtain ⟨i0, hi, hz0, hz1, hz2⟩ := info_parts cloneB_info
  have q := cloneB_eqlNil
  go_enter Try.func16, Try.ntmps16
  go_wp2_with (at_make; refine wpList_make_full _ rfl _ _ 23 rfl w.heap.size 4 i0 (.bool false) 1 Try.underlying23 hi hz0 hz1 _ _ _ _ 0 rfl rfl rfl rfl (by omega) (by unfold maxLen; omega) (Nat.le_refl _) ?_)
  intro w1 hown1 hgrow1
  have hb1 : Below w.heap.size w w1 := (Below.refl _ _).grown hgrow1 (Nat.le_refl _) (by simp)
  have hown2 : w1.ownsRow w.heap.size 4 1 (.slice (some ⟨w.heap.size, 0, none⟩) 0 0) 0 [] := by
    simpa [toList_madeCells_one] using hown1
  clear hown1 hgrow1
  go_wp2
  refine wp_loop_rounds 1 ?_
  rw [rounds_succ]
  go_wp2
  go_ret
  exact ⟨_, _, rfl, hown2, hb1⟩

set_option maxHeartbeats 400000 in
theorem cloneB_some (b off len cap : Nat) (zs : List Bool) (w : World) (hlen : zs.length = len) (hm : len ≤ 16777216) (hbw : b < w.heap.size)
    (hcell : ∀ k, k < len → w.cell? ⟨b, off + k, none⟩ = some (Value.bool (zs.getD k false))) :
    Calls Try.prog 16 #[.slice (some ⟨b, off, none⟩) len cap] w fun e w' => ∃ a' c', e = .returned (.slice a' len c') ∧ w'.ownsRow w.heap.size 4 1 (.slice a' len c') len (zs.map Value.bool) ∧ Below w.heap.size w w' := by
  obtain ⟨i0, hi, hz0, hz1, hz2⟩ := info_parts cloneB_info
  have q := cloneB_eqlNil
  have HC : Hid (∀ k, k < len → w.cell? ⟨b, off + k, none⟩ = some (Value.bool (zs.getD k false))) := hcell
  have HL : Hid (zs.length = len) := hlen
  clear hcell hlen
  go_enter Try.func16, Try.ntmps16
  go_wp2_with (at_make; refine wpList_make_full _ rfl _ _ 23 rfl w.heap.size 4 i0 (.bool false) 1 Try.underlying23 hi hz0 hz1 _ _ _ _ len rfl rfl rfl rfl (by rw [hz2]; omega) (by unfold maxLen; omega) (Nat.le_refl _) ?_)
  intro w1 hown1 hgrow1
  have hb1 : Below w.heap.size w w1 := (Below.refl _ _).grown hgrow1 (Nat.le_refl _) (by simp)
  have hown2 : w1.ownsRow w.heap.size 4 1 (.slice (some ⟨w.heap.size, 0, none⟩) len len) len ((zs.take 0).map Value.bool ++ List.replicate (len - 0) (.bool false)) := by
    simpa [toList_madeCells_one] using hown1
  clear hown1 hgrow1
  go_wp2
  go_loopw [4] (fun i wr => ∃ k : Nat, k ≤ len ∧ i = .int .i64 k ∧ wr.ownsRow w.heap.size 4 1 (.slice (some ⟨w.heap.size, 0, none⟩) len len) len ((zs.take k).map Value.bool ++ List.replicate (len - k) (.bool false)) ∧ Below w.heap.size w wr) (fun i _ => len - (intOf i).toNat)
  case atStart => exact ⟨0, Nat.zero_le _, rfl, hown2, hb1⟩
  case round =>
    obtain ⟨k, hk, rfl, hown, hb⟩ := hrel
    by_cases hlt : k < len
    · obtain ⟨ck, hck, hts⟩ : ∃ ck, wr.cell? ⟨b, off + k, none⟩ = some (Value.bool ck) ∧ Hid (zs.take (k + 1) = zs.take k ++ [ck]) :=
        ⟨zs.getD k false, (hb.cell (by exact hbw)).trans (HC.out k hlt), by
          have hkl : k < zs.length := by have := HL.out; omega
          have e : zs.getD k false = zs[k] := by simp [List.getD, hkl]
          rw [e]
          exact List.take_succ_eq_append_getElem hkl⟩
      obtain ⟨x, hc⟩ : ∃ x, wr.cell? ⟨w.heap.size, k, none⟩ = some x := by
        have hxl := hown.1
        exact ⟨_, by rw [hown.cellAt k (by omega), List.getElem?_eq_getElem (by omega)]⟩
      have hf := hown.frozenAt k
      go_wp2
      go_roundw
      case rel =>
        refine ⟨k + 1, by omega, by go_num, ?_, hb.setCell (Nat.le_refl _) _⟩
        have h2 := (hown.stored k (Value.bool ck)).1
        rw [set_fill _ _ _ _ _ (by have := HL.out; simp; omega) hlt] at h2
        rw [hts.out, List.map_append]
        exact h2
      case measure => simp [intOf]; omega
    · have e : k = len := by omega
      subst e
      go_wp2
      go_ret
      refine ⟨_, _, rfl, ?_, hb⟩
      rw [List.take_of_length_le (by have := HL.out; omega)] at hown
      simpa using hown

theorem cloneB_any (a : Option Addr) (len cap : Nat) (zs : List Bool) (w : World) (h : RowIn Value.bool false w a len zs) (hm : len ≤ 16777216) :
    Calls Try.prog 16 #[.slice a len cap] w fun e w' => ∃ a' c', e = .returned (.slice a' len c') ∧ w'.ownsRow w.heap.size 4 1 (.slice a' len c') len (zs.map Value.bool) ∧ Below w.heap.size w w' := by
  obtain ⟨hl, h⟩ := h
  rcases h with ⟨rfl, rfl⟩ | ⟨x, rfl, hcell⟩
  · have e : zs = [] := List.eq_nil_of_length_eq_zero hl
    subst e
    refine (cloneB_nil w cap).mono ?_
    rintro e w' ⟨rfl, hw⟩
    rw [hw]
    exact ⟨_, _, rfl, World.ownsRow_nil _ _ _ _, Below.refl _ _⟩
  · by_cases h0 : len = 0
    · subst h0
      have e : zs = [] := List.eq_nil_of_length_eq_zero hl
      subst e
      simpa using cloneB_zero x cap w
    · obtain ⟨b, off, spot⟩ := x
      have hspot : spot = none := by simpa [Addr.add] using World.cell?_spot (hcell 0 (by omega))
      subst hspot
      have hc0 := hcell 0 (by omega)
      exact cloneB_some b off len cap zs w hl hm (World.block_lt_of_cell? w _ (by simpa [Addr.add_lit] using hc0)) (fun k hk => by rw [← Addr.add_lit]; exact hcell k hk)

end Go.Proofs.Qxb6001683a
