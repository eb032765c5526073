/-
  FnHex4Spec (function 3): the walk.
-/
import Derived.Test.Qxb6602232aHexIdx
namespace Go.Proofs.Qxb6602232a
open Go.RowKit
set_option linter.unusedVariables false
set_option linter.unusedSimpArgs false

theorem clone_four (b off len cap : Nat) (zs : List Int) (w : World) (hl : zs.length = len) (hp : 4 ≤ len) (hm : len ≤ 16777216) (hbw : b < w.heap.size)
    (hcell : ∀ k, k < len → w.cell? ⟨b, off + k, none⟩ = some (.int .u8 (zs.getD k 0))) :
    Calls Try.prog 10 #[.slice (some ⟨b, off, none⟩) len cap] w fun e w' => ∃ g c', e = .returned (.slice (some ⟨g, 0, none⟩) len c') ∧ len ≤ c' ∧ c' ≤ 9223372036854775807 ∧ (∀ k, k < len → w'.cell? ⟨g, k, none⟩ = some (.int .u8 (zs.getD k 0))) ∧ Below w.heap.size w w' := by
  refine (clone_some b off len cap zs w (by omega) hm hbw hcell).mono ?_
  rintro e w' ⟨a', c', rfl, hown, hb⟩
  rw [List.take_of_length_le (by omega)] at hown
  rcases hown.2 with ⟨_, h0⟩ | ⟨g, cap', cur, he, _, _, h1, h2, _⟩
  · omega
  · obtain ⟨rfl, rfl⟩ := (by simpa using he : a' = some ⟨g, 0, none⟩ ∧ c' = cap')
    unfold maxLen at h2
    refine ⟨g, c', rfl, h1, by omega, fun k hk => ?_, hb⟩
    rw [hown.cellAt k (by omega), List.getElem?_map, List.getElem?_eq_getElem (by omega)]
    simp [List.getD, show k < zs.length by omega]

theorem hidx_bad {c : Int} (h : dv c = 16) : hidx c = -1 := by unfold hidx; rw [if_neg (by omega)]
theorem hidx_good {c : Int} (h : dv c < 16) : hidx c = dv c := by unfold hidx; rw [if_pos h]

theorem hide_cells {w : World} {g len : Nat} {zs : List Int} (h : ∀ k, k < len → w.cell? ⟨g, k, none⟩ = some (.int .u8 (zs.getD k 0))) : Hid (∀ k, k < len → w.cell? ⟨g, k, none⟩ = some (.int .u8 (zs.getD k 0))) := h

theorem zz9_any (a : Option Addr) (n c : Nat) (w : World) (h : n ≤ 1048576) : Calls Try.prog 9 #[.slice a n c] w fun e w' => e = .returned (.bool true) ∧ w' = w := by
  go_enter Try.func9, Try.ntmps9
  go_wp2
  go_ret
  exact ⟨rfl, rfl⟩

theorem spec_short (a : Option Addr) (len cap : Nat) (zs : List Int) (w : World) (h : IsRow .u8 w a len cap zs) (hl : len < 4) :
    Calls Try.prog 3 #[.slice a len cap] w fun e w' => e = .returned (.bool true) ∧ Below w.heap.size w w' := by
  have H : Hid (IsRow .u8 w a len cap zs) := h
  clear h
  go_enter Try.func3, Try.ntmps3
  go_wp2_with (first | (go_at_call 10; refine (clone_any a len cap zs _ H.out (by omega)).mono ?_; rintro e w1 ⟨a1, c1, rfl, hown1, hb1⟩) | (go_at_call 11; refine (zzHex4_short _ _ _ _ hl).mono ?_; rintro e w' ⟨rfl, rfl⟩) | go_in)
  go_ret
  exact ⟨rfl, hb1⟩

set_option maxHeartbeats 1000000 in
theorem spec_in (b off len cap : Nat) (zs : List Int) (w : World) (hl : zs.length = len) (hp : 4 ≤ len) (hm : len ≤ 1048576) (hbw : b < w.heap.size)
    (hcell : ∀ k, k < len → w.cell? ⟨b, off + k, none⟩ = some (.int .u8 (zs.getD k 0))) (hbd : ∀ k, 0 ≤ zs.getD k 0 ∧ zs.getD k 0 ≤ 255) :
    Calls Try.prog 3 #[.slice (some ⟨b, off, none⟩) len cap] w fun e w' => e = .returned (.bool true) ∧ Below w.heap.size w w' := by
  have HC : Hid (∀ k, k < len → w.cell? ⟨b, off + k, none⟩ = some (.int .u8 (zs.getD k 0))) := hcell
  have HB : Hid (∀ k, 0 ≤ zs.getD k 0 ∧ zs.getD k 0 ≤ 255) := hbd
  have HL : Hid (zs.length = len) := hl
  clear hcell hbd hl
  go_enter Try.func3, Try.ntmps3
  go_wp2_with (first | (go_at_call 9; refine (zz9_any _ _ _ _ hm).mono ?_; rintro e w' ⟨rfl, rfl⟩) | (go_at_call 10; refine (clone_four b off len cap zs _ HL.out hp (by omega) hbw HC.out).mono ?_; rintro e w1 ⟨g, c1, rfl, hlc, hcm, hcl, hb1⟩; have HK := hide_cells hcl; clear hcl))
  have hb0 := HB.out 0
  have hb1' := HB.out 1
  have hb2 := HB.out 2
  have hb3 := HB.out 3
  have k0 := HK.out 0 (by omega)
  have k1 := HK.out 1 (by omega)
  have k2 := HK.out 2 (by omega)
  have k3 := HK.out 3 (by omega)
  have hlist : ∀ k, k < 4 → zs.getD k 0 = [zs.getD 0 0, zs.getD 1 0, zs.getD 2 0, zs.getD 3 0].getD k 0 := by
    intro k hk
    have : k = 0 ∨ k = 1 ∨ k = 2 ∨ k = 3 := by omega
    rcases this with rfl | rfl | rfl | rfl <;> rfl
  generalize zs.getD 0 0 = c0 at *
  generalize zs.getD 1 0 = c1' at *
  generalize zs.getD 2 0 = c2 at *
  generalize zs.getD 3 0 = c3 at *
  have HZ : Hid (Calls Try.prog 11 #[.slice (some ⟨g, 0, none⟩) len c1] w1 fun e w' => (((∃ x ∈ [c0, c1', c2, c3], dv x = 16) ∧ e = .returned (.tuple #[.int .i32 0, .bool false])) ∨ ((∀ x ∈ [c0, c1', c2, c3], dv x < 16) ∧ e = .returned (.tuple #[.int .i32 (hacc [c0, c1', c2, c3]), .bool true]))) ∧ w' = w1) :=
    zzHex4_any g len c1 [c0, c1', c2, c3] w1 hp hlc hcm rfl (by
      intro k
      have : k = 0 ∨ k = 1 ∨ k = 2 ∨ k = 3 ∨ 4 ≤ k := by omega
      rcases this with rfl | rfl | rfl | rfl | h4
      · exact hb0
      · exact hb1'
      · exact hb2
      · exact hb3
      · simp [List.getD, h4]) (fun k hk => by rw [← hlist k hk]; exact HK.out k (by omega))
  clear hlist HK HC HB
  by_cases hall : dv c0 < 16 ∧ dv c1' < 16 ∧ dv c2 < 16 ∧ dv c3 < 16
  · obtain ⟨d0, d1, d2, d3⟩ := hall
    refine HZ.out.mono ?_
    rintro e w2 ⟨⟨⟨x, hx, h16⟩, _⟩ | ⟨_, rfl⟩, hw⟩
    · simp only [List.mem_cons, List.not_mem_nil, or_false] at hx
      rcases hx with rfl | rfl | rfl | rfl <;> omega
    · subst hw
      have n0 := dv_bd c0
      have n1 := dv_bd c1'
      have n2 := dv_bd c2
      have n3 := dv_bd c3
      obtain ⟨V0, e0, v0, v0'⟩ : ∃ V, hidx c0 = V ∧ 0 ≤ V ∧ V < 16 := ⟨dv c0, hidx_good d0, by omega, d0⟩
      obtain ⟨V1, e1, v1, v1'⟩ : ∃ V, hidx c1' = V ∧ 0 ≤ V ∧ V < 16 := ⟨dv c1', hidx_good d1, by omega, d1⟩
      obtain ⟨V2, e2, v2, v2'⟩ : ∃ V, hidx c2 = V ∧ 0 ≤ V ∧ V < 16 := ⟨dv c2, hidx_good d2, by omega, d2⟩
      obtain ⟨V3, e3, v3, v3'⟩ : ∃ V, hidx c3 = V ∧ 0 ≤ V ∧ V < 16 := ⟨dv c3, hidx_good d3, by omega, d3⟩
      have hq : hacc [c0, c1', c2, c3] = V0 * 4096 + V1 * 256 + V2 * 16 + V3 := by
        rw [← e0, ← e1, ← e2, ← e3, hidx_good d0, hidx_good d1, hidx_good d2, hidx_good d3]
        simp [hacc]
        omega
      go_wp2_with (go_at_call 12; refine (hexIndex_any _ _ (by omega) (by omega)).mono ?_; rintro e w' ⟨rfl, rfl⟩)
      go_ret
      exact ⟨rfl, hb1⟩
  · refine HZ.out.mono ?_
    rintro e w2 ⟨⟨_, rfl⟩ | ⟨hx, _⟩, hw⟩
    · subst hw
      by_cases d0 : dv c0 < 16
      · by_cases d1 : dv c1' < 16
        · by_cases d2 : dv c2 < 16
          · have n0 := dv_bd c0
            have n1 := dv_bd c1'
            have n2 := dv_bd c2
            have n3 := dv_bd c3
            have e0 : 0 ≤ hidx c0 := by rw [hidx_good d0]; omega
            have e1 : 0 ≤ hidx c1' := by rw [hidx_good d1]; omega
            have e2 : 0 ≤ hidx c2 := by rw [hidx_good d2]; omega
            have e3 : hidx c3 = -1 := hidx_bad (by omega)
            clear hall
            go_wp2_with (go_at_call 12; refine (hexIndex_any _ _ (by omega) (by omega)).mono ?_; rintro e w' ⟨rfl, rfl⟩)
            go_ret
            exact ⟨rfl, hb1⟩
          · have n0 := dv_bd c0
            have n1 := dv_bd c1'
            have n2 := dv_bd c2
            have e0 : 0 ≤ hidx c0 := by rw [hidx_good d0]; omega
            have e1 : 0 ≤ hidx c1' := by rw [hidx_good d1]; omega
            have e2 : hidx c2 = -1 := hidx_bad (by omega)
            clear hall
            go_wp2_with (go_at_call 12; refine (hexIndex_any _ _ (by omega) (by omega)).mono ?_; rintro e w' ⟨rfl, rfl⟩)
            go_ret
            exact ⟨rfl, hb1⟩
        · have n0 := dv_bd c0
          have n1 := dv_bd c1'
          have e0 : 0 ≤ hidx c0 := by rw [hidx_good d0]; omega
          have e1 : hidx c1' = -1 := hidx_bad (by omega)
          clear hall
          go_wp2_with (go_at_call 12; refine (hexIndex_any _ _ (by omega) (by omega)).mono ?_; rintro e w' ⟨rfl, rfl⟩)
          go_ret
          exact ⟨rfl, hb1⟩
      · have n0 := dv_bd c0
        have e0 : hidx c0 = -1 := hidx_bad (by omega)
        clear hall
        go_wp2_with (go_at_call 12; refine (hexIndex_any _ _ (by omega) (by omega)).mono ?_; rintro e w' ⟨rfl, rfl⟩)
        go_ret
        exact ⟨rfl, hb1⟩
    · exact absurd ⟨hx c0 (by simp), hx c1' (by simp), hx c2 (by simp), hx c3 (by simp)⟩ hall
end Go.Proofs.Qxb6602232a
