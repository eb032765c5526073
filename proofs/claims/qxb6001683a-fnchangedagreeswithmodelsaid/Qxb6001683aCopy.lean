/-
  zzCopyInts (7), zzCopyBools (8).
-/
import Derived.Test.Qxb6001683aRows
import Derived.Test.Qxb6001683aOwn
namespace Go.Proofs.Qxb6001683a
open Go.RowKit
set_option linter.unusedVariables false
set_option linter.unusedSimpArgs false

/-- what is known of a slice that came in, an element a cell -/
def RowIn {α : Type} (C : α → Value) (d : α) (w : World) (a : Option Addr) (len : Nat) (zs : List α) : Prop :=
  zs.length = len ∧ ((a = none ∧ len = 0) ∨ ∃ x, a = some x ∧ ∀ i, i < len → w.cell? (x.add i) = some (C (zs.getD i d)))

theorem rowIn_below {α : Type} {C : α → Value} {d : α} {w w' : World} {a : Option Addr} {len : Nat} {zs : List α} (h : RowIn C d w a len zs) (hb : Below w.heap.size w w') : RowIn C d w' a len zs := by
  refine ⟨h.1, ?_⟩
  rcases h.2 with h | ⟨x, h1, h2⟩
  · exact .inl h
  · refine .inr ⟨x, h1, fun i hi => ?_⟩
    have hc := h2 i hi
    rw [hb.cell (World.block_lt_of_cell? w _ hc)]
    exact hc

theorem set_fill {α : Type} (A : List α) (z x : α) (n k : Nat) (hA : A.length = k) (hk : k < n) : (A ++ List.replicate (n - k) z).set k x = (A ++ [x]) ++ List.replicate (n - (k + 1)) z := by
  subst hA
  obtain ⟨m, hm⟩ : ∃ m, n - A.length = m + 1 := ⟨n - A.length - 1, by omega⟩
  have hm' : n - (A.length + 1) = m := by omega
  rw [hm, hm', List.set_append_right _ _ (Nat.le_refl _)]
  simp [List.replicate_succ]

theorem copyI_info : (Try.prog.info? 2).map (fun i => (i.zero, i.size, i.bytes)) = some (some (.int .i64 0), 1, 8) := by kernel_rfl

theorem copyI_eqlNil (w : World) (a : Option Addr) (n c : Nat) : (binOp .eql 22 (.slice a n c) (.slice none 0 0)).run Try.prog w = .ok (.bool a.isNone) w := Lib.run_eql_slice_nil w _ _ a n c 0 0 Try.underlying22

theorem copyI_nil (w : World) (c : Nat) : Calls Try.prog 7 #[.slice none 0 c] w fun e w' => e = .returned (.slice none 0 0) ∧ w' = w := by
  have q := copyI_eqlNil
  go_enter Try.func7, Try.ntmps7
  go_wp2
  go_ret
  exact ⟨rfl, rfl⟩

set_option maxHeartbeats 400000 in
theorem copyI_zero (x : Addr) (cap : Nat) (w : World) : Calls Try.prog 7 #[.slice (some x) 0 cap] w fun e w' => ∃ a' c', e = .returned (.slice a' 0 c') ∧ w'.ownsRow w.heap.size 2 1 (.slice a' 0 c') 0 [] ∧ Below w.heap.size w w' := by
  obtain ⟨i0, hi, hz0, hz1, hz2⟩ := info_parts copyI_info
  have q := copyI_eqlNil
  go_enter Try.func7, Try.ntmps7
  go_wp2_with (at_make; refine wpList_make_full _ rfl _ _ 22 rfl w.heap.size 2 i0 (.int .i64 0) 1 Try.underlying22 hi hz0 hz1 _ _ _ _ 0 rfl rfl rfl rfl (by omega) (by unfold maxLen; omega) (Nat.le_refl _) ?_)
  intro w1 hown1 hgrow1
  have hb1 : Below w.heap.size w w1 := (Below.refl _ _).grown hgrow1 (Nat.le_refl _) (by simp)
  have hown2 : w1.ownsRow w.heap.size 2 1 (.slice (some ⟨w.heap.size, 0, none⟩) 0 0) 0 [] := by
    simpa [toList_madeCells_one] using hown1
  clear hown1 hgrow1
  go_wp2
  refine wp_loop_rounds 1 ?_
  rw [rounds_succ]
  go_wp2
  go_ret
  exact ⟨_, _, rfl, hown2, hb1⟩

set_option maxHeartbeats 400000 in
theorem copyI_some (b off len cap : Nat) (zs : List Int) (w : World) (hlen : zs.length = len) (hm : len ≤ 16777216) (hbw : b < w.heap.size)
    (hcell : ∀ k, k < len → w.cell? ⟨b, off + k, none⟩ = some ((Value.int .i64) (zs.getD k 0))) :
    Calls Try.prog 7 #[.slice (some ⟨b, off, none⟩) len cap] w fun e w' => ∃ a' c', e = .returned (.slice a' len c') ∧ w'.ownsRow w.heap.size 2 1 (.slice a' len c') len (zs.map (Value.int .i64)) ∧ Below w.heap.size w w' := by
  obtain ⟨i0, hi, hz0, hz1, hz2⟩ := info_parts copyI_info
  have q := copyI_eqlNil
  have HC : Hid (∀ k, k < len → w.cell? ⟨b, off + k, none⟩ = some ((Value.int .i64) (zs.getD k 0))) := hcell
  have HL : Hid (zs.length = len) := hlen
  clear hcell hlen
  go_enter Try.func7, Try.ntmps7
  go_wp2_with (at_make; refine wpList_make_full _ rfl _ _ 22 rfl w.heap.size 2 i0 (.int .i64 0) 1 Try.underlying22 hi hz0 hz1 _ _ _ _ len rfl rfl rfl rfl (by rw [hz2]; omega) (by unfold maxLen; omega) (Nat.le_refl _) ?_)
  intro w1 hown1 hgrow1
  have hb1 : Below w.heap.size w w1 := (Below.refl _ _).grown hgrow1 (Nat.le_refl _) (by simp)
  have hown2 : w1.ownsRow w.heap.size 2 1 (.slice (some ⟨w.heap.size, 0, none⟩) len len) len ((zs.take 0).map (Value.int .i64) ++ List.replicate (len - 0) (.int .i64 0)) := by
    simpa [toList_madeCells_one] using hown1
  clear hown1 hgrow1
  go_wp2
  go_loopw [4] (fun i wr => ∃ k : Nat, k ≤ len ∧ i = .int .i64 k ∧ wr.ownsRow w.heap.size 2 1 (.slice (some ⟨w.heap.size, 0, none⟩) len len) len ((zs.take k).map (Value.int .i64) ++ List.replicate (len - k) (.int .i64 0)) ∧ Below w.heap.size w wr) (fun i _ => len - (intOf i).toNat)
  case atStart => exact ⟨0, Nat.zero_le _, rfl, hown2, hb1⟩
  case round =>
    obtain ⟨k, hk, rfl, hown, hb⟩ := hrel
    by_cases hlt : k < len
    · obtain ⟨ck, hck, hts⟩ : ∃ ck, wr.cell? ⟨b, off + k, none⟩ = some ((Value.int .i64) ck) ∧ Hid (zs.take (k + 1) = zs.take k ++ [ck]) :=
        ⟨zs.getD k 0, (hb.cell (by exact hbw)).trans (HC.out k hlt), by
          have hkl : k < zs.length := by have := HL.out; omega
          have e : zs.getD k 0 = zs[k] := by simp [List.getD, hkl]
          rw [e]
          exact List.take_succ_eq_append_getElem hkl⟩
      obtain ⟨x, hc⟩ : ∃ x, wr.cell? ⟨w.heap.size, k, none⟩ = some x := by
        have hxl := hown.1
        exact ⟨_, by rw [hown.cellAt k (by omega), List.getElem?_eq_getElem (by omega)]⟩
      have hf := hown.frozenAt k
      go_wp2
      go_roundw
      case rel =>
        refine ⟨k + 1, by omega, by go_num, ?_, hb.setCell (Nat.le_refl _) _⟩
        have h2 := (hown.stored k ((Value.int .i64) ck)).1
        rw [set_fill _ _ _ _ _ (by have := HL.out; simp; omega) hlt] at h2
        rw [hts.out, List.map_append]
        exact h2
      case measure => simp [intOf]; omega
    · have e : k = len := by omega
      subst e
      go_wp2
      go_ret
      refine ⟨_, _, rfl, ?_, hb⟩
      rw [List.take_of_length_le (by have := HL.out; omega)] at hown
      simpa using hown

theorem copyI_any (a : Option Addr) (len cap : Nat) (zs : List Int) (w : World) (h : RowIn (Value.int .i64) 0 w a len zs) (hm : len ≤ 16777216) :
    Calls Try.prog 7 #[.slice a len cap] w fun e w' => ∃ a' c', e = .returned (.slice a' len c') ∧ w'.ownsRow w.heap.size 2 1 (.slice a' len c') len (zs.map (Value.int .i64)) ∧ Below w.heap.size w w' := by
  obtain ⟨hl, h⟩ := h
  rcases h with ⟨rfl, rfl⟩ | ⟨x, rfl, hcell⟩
  · have e : zs = [] := List.eq_nil_of_length_eq_zero hl
    subst e
    refine (copyI_nil w cap).mono ?_
    rintro e w' ⟨rfl, hw⟩
    rw [hw]
    exact ⟨_, _, rfl, World.ownsRow_nil _ _ _ _, Below.refl _ _⟩
  · by_cases h0 : len = 0
    · subst h0
      have e : zs = [] := List.eq_nil_of_length_eq_zero hl
      subst e
      simpa using copyI_zero x cap w
    · obtain ⟨b, off, spot⟩ := x
      have hspot : spot = none := by simpa [Addr.add] using World.cell?_spot (hcell 0 (by omega))
      subst hspot
      have hc0 := hcell 0 (by omega)
      exact copyI_some b off len cap zs w hl hm (World.block_lt_of_cell? w _ (by simpa [Addr.add_lit] using hc0)) (fun k hk => by rw [← Addr.add_lit]; exact hcell k hk)

theorem copyB_info : (Try.prog.info? 4).map (fun i => (i.zero, i.size, i.bytes)) = some (some (.bool false), 1, 1) := by kernel_rfl

theorem copyB_eqlNil (w : World) (a : Option Addr) (n c : Nat) : (binOp .eql 23 (.slice a n c) (.slice none 0 0)).run Try.prog w = .ok (.bool a.isNone) w := Lib.run_eql_slice_nil w _ _ a n c 0 0 Try.underlying23

theorem copyB_nil (w : World) (c : Nat) : Calls Try.prog 8 #[.slice none 0 c] w fun e w' => e = .returned (.slice none 0 0) ∧ w' = w := by
  have q := copyB_eqlNil
  go_enter Try.func8, Try.ntmps8
  go_wp2
  go_ret
  exact ⟨rfl, rfl⟩

set_option maxHeartbeats 400000 in
theorem copyB_zero (x : Addr) (cap : Nat) (w : World) : Calls Try.prog 8 #[.slice (some x) 0 cap] w fun e w' => ∃ a' c', e = .returned (.slice a' 0 c') ∧ w'.ownsRow w.heap.size 4 1 (.slice a' 0 c') 0 [] ∧ Below w.heap.size w w' := by
  obtain ⟨i0, hi, hz0, hz1, hz2⟩ := info_parts copyB_info
  have q := copyB_eqlNil
  go_enter Try.func8, Try.ntmps8
  go_wp2_with (at_make; refine wpList_make_full _ rfl _ _ 23 rfl w.heap.size 4 i0 (.bool false) 1 Try.underlying23 hi hz0 hz1 _ _ _ _ 0 rfl rfl rfl rfl (by omega) (by unfold maxLen; omega) (Nat.le_refl _) ?_)
  intro w1 hown1 hgrow1
  have hb1 : Below w.heap.size w w1 := (Below.refl _ _).grown hgrow1 (Nat.le_refl _) (by simp)
  have hown2 : w1.ownsRow w.heap.size 4 1 (.slice (some ⟨w.heap.size, 0, none⟩) 0 0) 0 [] := by
    simpa [toList_madeCells_one] using hown1
  clear hown1 hgrow1
  go_wp2
  refine wp_loop_rounds 1 ?_
  rw [rounds_succ]
  go_wp2
  go_ret
  exact ⟨_, _, rfl, hown2, hb1⟩

set_option maxHeartbeats 400000 in
theorem copyB_some (b off len cap : Nat) (zs : List Bool) (w : World) (hlen : zs.length = len) (hm : len ≤ 16777216) (hbw : b < w.heap.size)
    (hcell : ∀ k, k < len → w.cell? ⟨b, off + k, none⟩ = some (Value.bool (zs.getD k false))) :
    Calls Try.prog 8 #[.slice (some ⟨b, off, none⟩) len cap] w fun e w' => ∃ a' c', e = .returned (.slice a' len c') ∧ w'.ownsRow w.heap.size 4 1 (.slice a' len c') len (zs.map Value.bool) ∧ Below w.heap.size w w' := by
  obtain ⟨i0, hi, hz0, hz1, hz2⟩ := info_parts copyB_info
  have q := copyB_eqlNil
  have HC : Hid (∀ k, k < len → w.cell? ⟨b, off + k, none⟩ = some (Value.bool (zs.getD k false))) := hcell
  have HL : Hid (zs.length = len) := hlen
  clear hcell hlen
  go_enter Try.func8, Try.ntmps8
  go_wp2_with (at_make; refine wpList_make_full _ rfl _ _ 23 rfl w.heap.size 4 i0 (.bool false) 1 Try.underlying23 hi hz0 hz1 _ _ _ _ len rfl rfl rfl rfl (by rw [hz2]; omega) (by unfold maxLen; omega) (Nat.le_refl _) ?_)
  intro w1 hown1 hgrow1
  have hb1 : Below w.heap.size w w1 := (Below.refl _ _).grown hgrow1 (Nat.le_refl _) (by simp)
  have hown2 : w1.ownsRow w.heap.size 4 1 (.slice (some ⟨w.heap.size, 0, none⟩) len len) len ((zs.take 0).map Value.bool ++ List.replicate (len - 0) (.bool false)) := by
    simpa [toList_madeCells_one] using hown1
  clear hown1 hgrow1
  go_wp2
  go_loopw [4] (fun i wr => ∃ k : Nat, k ≤ len ∧ i = .int .i64 k ∧ wr.ownsRow w.heap.size 4 1 (.slice (some ⟨w.heap.size, 0, none⟩) len len) len ((zs.take k).map Value.bool ++ List.replicate (len - k) (.bool false)) ∧ Below w.heap.size w wr) (fun i _ => len - (intOf i).toNat)
  case atStart => exact ⟨0, Nat.zero_le _, rfl, hown2, hb1⟩
  case round =>
    obtain ⟨k, hk, rfl, hown, hb⟩ := hrel
    by_cases hlt : k < len
    · obtain ⟨ck, hck, hts⟩ : ∃ ck, wr.cell? ⟨b, off + k, none⟩ = some (Value.bool ck) ∧ Hid (zs.take (k + 1) = zs.take k ++ [ck]) :=
        ⟨zs.getD k false, (hb.cell (by exact hbw)).trans (HC.out k hlt), by
          have hkl : k < zs.length := by have := HL.out; omega
          have e : zs.getD k false = zs[k] := by simp [List.getD, hkl]
          rw [e]
          exact List.take_succ_eq_append_getElem hkl⟩
      obtain ⟨x, hc⟩ : ∃ x, wr.cell? ⟨w.heap.size, k, none⟩ = some x := by
        have hxl := hown.1
        exact ⟨_, by rw [hown.cellAt k (by omega), List.getElem?_eq_getElem (by omega)]⟩
      have hf := hown.frozenAt k
      go_wp2
      go_roundw
      case rel =>
        refine ⟨k + 1, by omega, by go_num, ?_, hb.setCell (Nat.le_refl _) _⟩
        have h2 := (hown.stored k (Value.bool ck)).1
        rw [set_fill _ _ _ _ _ (by have := HL.out; simp; omega) hlt] at h2
        rw [hts.out, List.map_append]
        exact h2
      case measure => simp [intOf]; omega
    · have e : k = len := by omega
      subst e
      go_wp2
      go_ret
      refine ⟨_, _, rfl, ?_, hb⟩
      rw [List.take_of_length_le (by have := HL.out; omega)] at hown
      simpa using hown

theorem copyB_any (a : Option Addr) (len cap : Nat) (zs : List Bool) (w : World) (h : RowIn Value.bool false w a len zs) (hm : len ≤ 16777216) :
    Calls Try.prog 8 #[.slice a len cap] w fun e w' => ∃ a' c', e = .returned (.slice a' len c') ∧ w'.ownsRow w.heap.size 4 1 (.slice a' len c') len (zs.map Value.bool) ∧ Below w.heap.size w w' := by
  obtain ⟨hl, h⟩ := h
  rcases h with ⟨rfl, rfl⟩ | ⟨x, rfl, hcell⟩
  · have e : zs = [] := List.eq_nil_of_length_eq_zero hl
    subst e
    refine (copyB_nil w cap).mono ?_
    rintro e w' ⟨rfl, hw⟩
    rw [hw]
    exact ⟨_, _, rfl, World.ownsRow_nil _ _ _ _, Below.refl _ _⟩
  · by_cases h0 : len = 0
    · subst h0
      have e : zs = [] := List.eq_nil_of_length_eq_zero hl
      subst e
      simpa using copyB_zero x cap w
    · obtain ⟨b, off, spot⟩ := x
      have hspot : spot = none := by simpa [Addr.add] using World.cell?_spot (hcell 0 (by omega))
      subst hspot
      have hc0 := hcell 0 (by omega)
      exact copyB_some b off len cap zs w hl hm (World.block_lt_of_cell? w _ (by simpa [Addr.add_lit] using hc0)) (fun k hk => by rw [← Addr.add_lit]; exact hcell k hk)

end Go.Proofs.Qxb6001683a
