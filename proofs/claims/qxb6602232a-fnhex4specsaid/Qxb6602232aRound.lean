/-
  FnHex4RoundTrip (function 4): the walk.
-/
import Derived.Test.Qxb6602232aClone
import Derived.Test.Qxb6602232aHex
import Derived.Test.Qxb6602232aBits
namespace Go.Proofs.Qxb6602232a
open Go.RowKit
set_option linter.unusedVariables false
set_option linter.unusedSimpArgs false

theorem low_dv (D : Int) (h0 : 0 ≤ D) (h1 : D < 16) (h : D.toNat < ({ data := #[48, 49, 50, 51, 52, 53, 54, 55, 56, 57, 97, 98, 99, 100, 101, 102] } : ByteArray).size) :
    dv ((({ data := #[48, 49, 50, 51, 52, 53, 54, 55, 56, 57, 97, 98, 99, 100, 101, 102] } : ByteArray)[D.toNat]'h).toNat : Int) = D := by
  obtain ⟨n, rfl⟩ := Int.eq_ofNat_of_zero_le h0
  have : n = 0 ∨ n = 1 ∨ n = 2 ∨ n = 3 ∨ n = 4 ∨ n = 5 ∨ n = 6 ∨ n = 7 ∨ n = 8 ∨ n = 9 ∨ n = 10 ∨ n = 11 ∨ n = 12 ∨ n = 13 ∨ n = 14 ∨ n = 15 := by omega
  rcases this with rfl | rfl | rfl | rfl | rfl | rfl | rfl | rfl | rfl | rfl | rfl | rfl | rfl | rfl | rfl | rfl <;> rfl
theorem up_dv (D : Int) (h0 : 0 ≤ D) (h1 : D < 16) (h : D.toNat < ({ data := #[48, 49, 50, 51, 52, 53, 54, 55, 56, 57, 65, 66, 67, 68, 69, 70] } : ByteArray).size) :
    dv ((({ data := #[48, 49, 50, 51, 52, 53, 54, 55, 56, 57, 65, 66, 67, 68, 69, 70] } : ByteArray)[D.toNat]'h).toNat : Int) = D := by
  obtain ⟨n, rfl⟩ := Int.eq_ofNat_of_zero_le h0
  have : n = 0 ∨ n = 1 ∨ n = 2 ∨ n = 3 ∨ n = 4 ∨ n = 5 ∨ n = 6 ∨ n = 7 ∨ n = 8 ∨ n = 9 ∨ n = 10 ∨ n = 11 ∨ n = 12 ∨ n = 13 ∨ n = 14 ∨ n = 15 := by omega
  rcases this with rfl | rfl | rfl | rfl | rfl | rfl | rfl | rfl | rfl | rfl | rfl | rfl | rfl | rfl | rfl | rfl <;> rfl

theorem byte_bd (c : UInt8) : (0 : Int) ≤ (c.toNat : Int) ∧ (c.toNat : Int) ≤ 255 := by
  have := c.toNat_lt
  omega

/-- what is known of the digits written so far -/
def Good (x : Int) (k : Nat) (ys : List Int) : Prop := ys.length = k ∧ (∀ y ∈ ys, 0 ≤ y ∧ y ≤ 255 ∧ dv y < 16) ∧ hacc ys = x / 16 ^ (4 - k)

theorem good_start (x : Int) (h0 : 0 ≤ x) (h1 : x ≤ 65535) : Good x 0 [] := ⟨rfl, by simp, by simp [hacc]; omega⟩

theorem good_step (x : Int) (k : Nat) (ys : List Int) (D c : Int) (p : Int) (hk : k < 4) (hp : p = 16 ^ (3 - k)) (h : Good x k ys) (h0 : 0 ≤ x) (hc : 0 ≤ c ∧ c ≤ 255) (hd : dv c = D) (hD : D = x / p % 16) : Good x (k + 1) (ys ++ [c]) := by
  obtain ⟨h1, h2, h3⟩ := h
  refine ⟨by simp [h1], ?_, ?_⟩
  · intro y hy
    rcases List.mem_append.1 hy with h | h
    · exact h2 y h
    · simp at h; subst h; refine ⟨hc.1, hc.2, ?_⟩; rw [hd, hD]; omega
  · rw [hacc_snoc, h3, hd, hD, hp]
    have : k = 0 ∨ k = 1 ∨ k = 2 ∨ k = 3 := by omega
    rcases this with rfl | rfl | rfl | rfl <;> simp <;> omega

theorem nib (y : Int) (h0 : 0 ≤ y) (h1 : y ≤ 65535) : ∃ D, bits .and .i64 y 15 = D ∧ 0 ≤ D ∧ D < 16 ∧ Hid (D = y % 16) := by
  refine ⟨_, rfl, ?_⟩
  obtain ⟨Y, rfl⟩ := Int.eq_ofNat_of_zero_le h0
  have e : bits .and .i64 (Y : Int) 15 = ((Y &&& 15 : Nat) : Int) := by
    have hx : Y &&& 15 < 2 ^ 4 := Nat.and_lt_two_pow _ (by omega)
    show IntKind.i64.wrap ((BitVec.ofInt 64 (Y : Int) &&& BitVec.ofInt 64 ((15 : Nat) : Int)).toNat : Int) = _
    rw [BitVec.toNat_and, BitVec.ofInt_natCast, BitVec.ofInt_natCast, BitVec.toNat_ofNat, BitVec.toNat_ofNat, Nat.mod_eq_of_lt (show Y < 2 ^ 64 by omega), Nat.mod_eq_of_lt (show 15 < 2 ^ 64 by omega)]
    simp [IntKind.wrap, IntKind.bits, IntKind.signed]
    omega
  have e2 : Y &&& 15 = Y % 16 := Nat.and_two_pow_sub_one_eq_mod Y 4
  rw [e, e2]
  exact ⟨by omega, by omega, by show _ = _; omega⟩

theorem own_snoc {w : World} {B : Nat} {v : Value} {k : Nat} {ys : List Int} {c : Int} (h : w.ownsRow B 5 1 v (k + 1) (ys.map (Value.int .u8) ++ [.int .u8 c])) : w.ownsRow B 5 1 v (k + 1) ((ys ++ [c]).map (Value.int .u8)) := by
  rw [List.map_append]; exact h

theorem own_tail {w : World} {B : Nat} {v : Value} {k : Nat} {ys rest : List Value} {c : Value} (h : w.ownsRow B 5 1 v (4 + k + 1) (ys ++ (rest ++ [c]))) : w.ownsRow B 5 1 v (4 + (k + 1)) (ys ++ (rest ++ [c])) := h

set_option maxHeartbeats 1000000 in
theorem round_in (x m : Int) (a : Option Addr) (len cap : Nat) (zs : List Int) (w : World) (hx0 : 0 ≤ x) (hx1 : x ≤ 65535) (hm0 : 0 ≤ m) (hm1 : m ≤ 255) (h : IsRow .u8 w a len cap zs) (hl : len ≤ 1048576) :
    Calls Try.prog 4 #[.int .u16 x, .int .u8 m, .slice a len cap] w fun e w' => e = .returned (.bool true) ∧ Below w.heap.size w w' := by
  obtain ⟨i0, hi, hz0, hz1, hz2⟩ := info_parts info5
  have H : Hid (IsRow .u8 w a len cap zs) := h
  clear h
  go_enter Try.func4, Try.ntmps4
  go_wp2_with (first | (go_at_call 10; refine (clone_any a len cap zs _ H.out (by omega)).mono ?_; rintro e w1 ⟨a1, c1, rfl, hown1, hb1⟩; have hsz1 := hb1.size) | (at_make; refine wpList_make_own _ rfl _ _ 22 rfl w.heap.size 5 i0 (.int .u8 0) 1 Try.underlying22 hi hz0 hz1 _ _ _ (4 + len) rfl rfl (by omega) (by rw [hz2]; omega) (by unfold maxLen; omega) (by omega) ?_) | go_in)
  intro w2 hown2 hgrow2
  have hb2 : Below w.heap.size w w2 := hb1.grown hgrow2 hsz1 (by simp)
  have hsz2 := hb2.size
  have htail : w2.ownsRow w.heap.size 5 1 (.slice a1 len c1) len ((zs.take len).map (Value.int .u8)) := hown1.kept hgrow2 (by cases hv : (Value.slice a1 len c1).ownBlock <;> simp)
  have hap : Apart (.slice a1 len c1) (.slice (some ⟨w1.heap.size, 0, none⟩) 0 (4 + len)) := by
    intro k hk hk2
    have := (hown1.lt k hk).2
    simp [Value.ownBlock] at hk2
    omega
  clear hown1 hgrow2
  go_wp2
  go_loopw [7, 8] (fun v i wr => ∃ (k : Nat) (ys : List Int), k ≤ 4 ∧ i = .int .i64 k ∧ Hid (Good x k ys) ∧ wr.ownsRow w.heap.size 5 1 v k (ys.map (Value.int .u8)) ∧ Adv w2 (.slice (some ⟨w1.heap.size, 0, none⟩) 0 (4 + len)) wr v) (fun _ i _ => 4 - (intOf i).toNat)
  case atStart => exact ⟨0, [], by omega, rfl, good_start x hx0 hx1, hown2, Adv.refl _ _⟩
  case round =>
    obtain ⟨k, ys, hk, rfl, hgood, hown, hadv⟩ := hrel
    have hszr := hadv.grow.size
    rcases (show k = 0 ∨ k = 1 ∨ k = 2 ∨ k = 3 ∨ k = 4 from by omega) with rfl | rfl | rfl | rfl | rfl
    · obtain ⟨D, hD, hD0, hD1, HD⟩ := nib (x / 4096) (by omega) (by omega)
      by_cases hmk : (bits .and .u8 m 1 == 1) = true
      all_goals
        go_wp2_with (at_builtin; refine wpList_append_src _ rfl _ _ 22 22 rfl w.heap.size 5 i0 (.int .u8 0) 1 1 Try.underlying22 hi hz0 hz1 hz2 rfl (by decide) _ _ _ rfl (hown.alloc _) _ 1 [.int .u8 _] rfl (src_one wr _) (by unfold maxLen; omega) (by omega) (by first | omega | (simp; omega)) ?_)
        intro v3 w3 hown3 hadv3
        have R := own_snoc hown3
        have A := (hadv.alloc _).trans hadv3
        clear hown3 hadv3 hown hadv
        go_wp2
        go_roundw
        case rel => exact ⟨1, _, by omega, by go_num, good_step x 0 ys D _ 4096 (by omega) (by decide) hgood.out hx0 (byte_bd _) (by first | exact up_dv D hD0 hD1 _ | exact low_dv D hD0 hD1 _) (by rw [HD.out]), R, A⟩
        case measure => simp [intOf]
    · obtain ⟨D, hD, hD0, hD1, HD⟩ := nib (x / 256) (by omega) (by omega)
      by_cases hmk : (bits .and .u8 (m / 2) 1 == 1) = true
      all_goals
        go_wp2_with (at_builtin; refine wpList_append_src _ rfl _ _ 22 22 rfl w.heap.size 5 i0 (.int .u8 0) 1 1 Try.underlying22 hi hz0 hz1 hz2 rfl (by decide) _ _ _ rfl (hown.alloc _) _ 1 [.int .u8 _] rfl (src_one wr _) (by unfold maxLen; omega) (by omega) (by first | omega | (simp; omega)) ?_)
        intro v3 w3 hown3 hadv3
        have R := own_snoc hown3
        have A := (hadv.alloc _).trans hadv3
        clear hown3 hadv3 hown hadv
        go_wp2
        go_roundw
        case rel => exact ⟨2, _, by omega, by go_num, good_step x 1 ys D _ 256 (by omega) (by decide) hgood.out hx0 (byte_bd _) (by first | exact up_dv D hD0 hD1 _ | exact low_dv D hD0 hD1 _) (by rw [HD.out]), R, A⟩
        case measure => simp [intOf]
    · obtain ⟨D, hD, hD0, hD1, HD⟩ := nib (x / 16) (by omega) (by omega)
      by_cases hmk : (bits .and .u8 (m / 4) 1 == 1) = true
      all_goals
        go_wp2_with (at_builtin; refine wpList_append_src _ rfl _ _ 22 22 rfl w.heap.size 5 i0 (.int .u8 0) 1 1 Try.underlying22 hi hz0 hz1 hz2 rfl (by decide) _ _ _ rfl (hown.alloc _) _ 1 [.int .u8 _] rfl (src_one wr _) (by unfold maxLen; omega) (by omega) (by first | omega | (simp; omega)) ?_)
        intro v3 w3 hown3 hadv3
        have R := own_snoc hown3
        have A := (hadv.alloc _).trans hadv3
        clear hown3 hadv3 hown hadv
        go_wp2
        go_roundw
        case rel => exact ⟨3, _, by omega, by go_num, good_step x 2 ys D _ 16 (by omega) (by decide) hgood.out hx0 (byte_bd _) (by first | exact up_dv D hD0 hD1 _ | exact low_dv D hD0 hD1 _) (by rw [HD.out]), R, A⟩
        case measure => simp [intOf]
    · obtain ⟨D, hD, hD0, hD1, HD⟩ := nib x (by omega) (by omega)
      by_cases hmk : (bits .and .u8 (m / 8) 1 == 1) = true
      all_goals
        go_wp2_with (at_builtin; refine wpList_append_src _ rfl _ _ 22 22 rfl w.heap.size 5 i0 (.int .u8 0) 1 1 Try.underlying22 hi hz0 hz1 hz2 rfl (by decide) _ _ _ rfl (hown.alloc _) _ 1 [.int .u8 _] rfl (src_one wr _) (by unfold maxLen; omega) (by omega) (by first | omega | (simp; omega)) ?_)
        intro v3 w3 hown3 hadv3
        have R := own_snoc hown3
        have A := (hadv.alloc _).trans hadv3
        clear hown3 hadv3 hown hadv
        go_wp2
        go_roundw
        case rel => exact ⟨4, _, by omega, by go_num, good_step x 3 ys D _ 1 (by omega) (by decide) hgood.out hx0 (byte_bd _) (by first | exact up_dv D hD0 hD1 _ | exact low_dv D hD0 hD1 _) (by rw [HD.out]; simp), R, A⟩
        case measure => simp [intOf]
    · have htl := hadv.kept htail hap
      have hapr := hadv.apart htail hap
      have hbr : Below w.heap.size w wr := hb2.trans (hadv.below hsz2 (by intro k hk; simp [Value.ownBlock] at hk; omega))
      have HT : Hid (wr.ownsRow w.heap.size 5 1 (.slice a1 len c1) len ((zs.take len).map (Value.int .u8))) := htl
      have HA : Hid (Apart (.slice a1 len c1) u7) := hapr
      clear htl hapr htail hap
      go_wp2
      go_loopw [7, 11] (fun v i ws => ∃ (j : Nat) (rest : List Value), j ≤ len ∧ i = .int .i64 j ∧ ws.ownsRow w.heap.size 5 1 v (4 + j) (ys.map (Value.int .u8) ++ rest) ∧ Adv wr u7 ws v) (fun _ i _ => len - (intOf i).toNat)
      case atStart => exact ⟨0, [], by omega, rfl, by simpa using hown, Adv.refl _ _⟩
      case round =>
        obtain ⟨j, rest, hj, rfl, hownj, hadvj⟩ := hrel
        have hszj := hadvj.grow.size
        by_cases hlt : j < len
        · have htj := hadvj.kept HT.out HA.out
          rcases htj.2 with ⟨_, h0⟩ | ⟨g, cap', cur, he, _⟩
          · omega
          · obtain ⟨rfl, rfl⟩ := (by simpa using he : a1 = some ⟨g, 0, none⟩ ∧ c1 = cap')
            obtain ⟨y, hy⟩ : ∃ y, wr.cell? ⟨g, j, none⟩ = some (.int .u8 y) := by
              have hll := htj.1
              simp only [List.length_map, Nat.mul_one] at hll
              exact ⟨_, by rw [htj.cellAt j (by omega), List.getElem?_map, List.getElem?_eq_getElem (by omega)]; rfl⟩
            clear htj he
            go_wp2_with (at_builtin; refine wpList_append_src _ rfl _ _ 22 22 rfl w.heap.size 5 i0 (.int .u8 0) 1 1 Try.underlying22 hi hz0 hz1 hz2 rfl (by decide) _ _ _ rfl (hownj.alloc _) _ 1 [.int .u8 y] rfl (src_one wr _) (by unfold maxLen; omega) (by omega) (by first | omega | (simp; omega)) ?_)
            intro v3 w3 hown3 hadv3
            have A := (hadvj.alloc _).trans hadv3
            have R := own_tail hown3
            clear hown3 hadv3 hownj hadvj
            go_wp2
            go_roundw
            case rel => first | exact ⟨j + 1, _, by omega, by go_num, R, A⟩ | ((repeat apply Exists.intro); exact ⟨⟨j + 1, _, by omega, by go_num, R, A⟩, rfl⟩)
            case measure => simp [intOf]; omega
        · have ej : j = len := by omega
          subst ej
          obtain ⟨hg1, hg2, hg3⟩ := hgood.out
          have hg3' : hacc ys = x := by simpa using hg3
          rcases hownj.2 with ⟨_, h0⟩ | ⟨g, cap', cur, rfl, _, _, hnc, hcm, _⟩
          · omega
          · unfold maxLen at hcm
            have hcl : ∀ k, k < 4 → wr.cell? ⟨g, k, none⟩ = some (.int .u8 (ys.getD k 0)) := by
              intro k hk4
              have := hownj.cells (g := g) rfl k (.int .u8 (ys.getD k 0)) (by rw [List.getElem?_append_left (by simp; omega), List.getElem?_map, List.getElem?_eq_getElem (by omega)]; simp [List.getD, show k < ys.length by omega])
              simpa [Addr.add_lit] using this
            have hbd : ∀ k, 0 ≤ ys.getD k 0 ∧ ys.getD k 0 ≤ 255 := by
              intro k
              by_cases hkl : k < ys.length
              · have := hg2 ys[k] (List.getElem_mem _)
                simp [List.getD, hkl]
                omega
              · simp [List.getD, show ys.length ≤ k by omega]
            have HZ : Hid (Calls Try.prog 11 #[.slice (some ⟨g, 0, none⟩) (4 + j) cap'] wr fun e w' => (((∃ x ∈ ys, dv x = 16) ∧ e = .returned (.tuple #[.int .i32 0, .bool false])) ∨ ((∀ x ∈ ys, dv x < 16) ∧ e = .returned (.tuple #[.int .i32 (hacc ys), .bool true]))) ∧ w' = wr) := zzHex4_any g (4 + j) cap' ys wr (by omega) hnc (by omega) hg1 hbd hcl
            have HG : Hid (∀ y ∈ ys, 0 ≤ y ∧ y ≤ 255 ∧ dv y < 16) := hg2
            have hbs : Below w.heap.size w wr := hbr.trans (hadvj.below (by omega) (fun k hk => (hown.lt k hk).1))
            clear hcl hbd hg2 hg3 hownj hadvj hown hadv hbr
            go_wp2_with fail
            refine HZ.out.mono ?_
            rintro e w' ⟨⟨⟨y, hy, h16⟩, _⟩ | ⟨hx, rfl⟩, hw⟩
            · have := HG.out y hy
              omega
            · subst hw
              clear hx
              go_wp2
              go_ret
              exact ⟨rfl, hbs⟩
end Go.Proofs.Qxb6602232a
