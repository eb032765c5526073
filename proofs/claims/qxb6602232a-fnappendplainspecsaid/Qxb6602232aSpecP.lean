/-
  FnAppendPlainSpec (function 5): the walk.
-/
import Derived.Test.Qxb6602232aModel2
import Derived.Test.Qxb6602232aClone
import Derived.Test.Qxb6602232aSame
namespace Go.Proofs.Qxb6602232a
open Go.RowKit
set_option linter.unusedVariables false
set_option linter.unusedSimpArgs false

theorem model_any (v : Value) (neg : Bool) (a : Option Addr) (n c : Nat) (adj : Int) (w : World) (B k : Nat) (zs : List Value) (ds : List Int) (hv : w.ownsRow B 5 1 v k zs) (hd : w.ownsRow B 5 1 (.slice a n c) n (ds.map (Value.int .u8)))
    (hap : Apart (.slice a n c) v) (hB : B ≤ w.heap.size) (hk : k ≤ 2097152) (hn : n ≤ 2097152) (ha1 : -65536 ≤ adj) (ha3 : adj ≤ 65536) :
    Calls Try.prog 15 #[v, .bool neg, .slice a n c, .int .i64 adj] w fun e w' => ∃ v' m, e = .returned v' ∧ w'.ownsRow B 5 1 v' m (zs ++ (plainL 48 46 45 neg ds adj).map (Value.int .u8)) ∧ Adv w v w' v' := by
  have e0 : (plainL (48 : Int) 46 45 false ds adj).map (Value.int .u8) = (bodyL 48 46 ds adj).map (Value.int .u8) := by simp [plainL]
  have e1 : (plainL (48 : Int) 46 45 true ds adj).map (Value.int .u8) = [Value.int .u8 45] ++ (bodyL 48 46 ds adj).map (Value.int .u8) := by simp [plainL]
  by_cases c1 : adj + 1 ≤ 0
  · cases neg
    · rw [e0]; exact model_low_false v a n c adj w B k zs ds hv hd hap hB hk hn ha1 ha3 c1
    · rw [e1]; exact model_low_true v a n c adj w B k zs ds hv hd hap hB hk hn ha1 ha3 c1
  · by_cases c2 : 0 < adj - n + 1
    · cases neg
      · rw [e0]; exact model_high_false v a n c adj w B k zs ds hv hd hap hB hk hn ha1 ha3 (by omega) c2
      · rw [e1]; exact model_high_true v a n c adj w B k zs ds hv hd hap hB hk hn ha1 ha3 (by omega) c2
    · by_cases c3 : 0 ≤ adj - n + 1
      · cases neg
        · rw [e0]; exact model_edge_false v a n c adj w B k zs ds hv hd hap hB hk hn ha1 ha3 (by omega) (by omega) c3
        · rw [e1]; exact model_edge_true v a n c adj w B k zs ds hv hd hap hB hk hn ha1 ha3 (by omega) (by omega) c3
      · cases neg
        · rw [e0]; exact model_mid_false v a n c adj w B k zs ds hv hd hap hB hk hn ha1 ha3 (by omega) (by omega)
        · rw [e1]; exact model_mid_true v a n c adj w B k zs ds hv hd hap hB hk hn ha1 ha3 (by omega) (by omega)

theorem own_base {w : World} {B B' : Nat} {v : Value} {n : Nat} {xs : List Value} (h : w.ownsRow B 5 1 v n xs) (hb : B' ≤ B) : w.ownsRow B' 5 1 v n xs := by
  refine ⟨h.1, ?_⟩
  rcases h.2 with hn | ⟨g, cap, cur, hv, hg, r⟩
  · exact .inl hn
  · exact .inr ⟨g, cap, cur, hv, by omega, r⟩

theorem own_below {w w' : World} {B : Nat} {v : Value} {n : Nat} {xs : List Value} (h : w.ownsRow B 5 1 v n xs) (hb : Below w.heap.size w w') : w'.ownsRow B 5 1 v n xs := by
  refine ⟨h.1, ?_⟩
  rcases h.2 with hn | ⟨g, cap, cur, hv, hg, hh, r⟩
  · exact .inl hn
  · exact .inr ⟨g, cap, cur, hv, hg, by rw [hb.block g (Array.getElem?_eq_some_iff.1 hh).1]; exact hh, r⟩

theorem isRow_below {w w' : World} {a : Option Addr} {len cap : Nat} {zs : List Int} (h : IsRow .u8 w a len cap zs) (hb : Below w.heap.size w w') : IsRow .u8 w' a len cap zs := by
  rcases h with h | ⟨x, h1, h2, h3, h4, h5, h6⟩
  · exact .inl h
  · refine .inr ⟨x, h1, h2, h3, h4, fun i hi => ?_, h6⟩
    have hc := h5 i hi
    rw [hb.cell (World.block_lt_of_cell? w _ hc)]
    exact hc

/-- a row of the call's own, cloned -/
theorem clone_own (a : Option Addr) (n c : Nat) (ds : List Int) (w : World) (B : Nat) (h : w.ownsRow B 5 1 (.slice a n c) n (ds.map (Value.int .u8))) (hm : n ≤ 16777216) :
    Calls Try.prog 10 #[.slice a n c] w fun e w' => ∃ a' c', e = .returned (.slice a' n c') ∧ w'.ownsRow w.heap.size 5 1 (.slice a' n c') n (ds.map (Value.int .u8)) ∧ Below w.heap.size w w' := by
  have hl : ds.length = n := by simpa using h.1
  rcases h.2 with ⟨he, h0⟩ | ⟨g, cap, cur, he, _, hg, _⟩
  · obtain ⟨rfl, rfl, rfl⟩ := (by simpa using he : a = none ∧ n = 0 ∧ c = 0)
    have e : ds = [] := List.eq_nil_of_length_eq_zero hl
    subst e
    refine (clone_nil w).mono ?_
    rintro e w' ⟨rfl, hw⟩
    rw [hw]
    exact ⟨_, _, rfl, World.ownsRow_nil _ _ _ _, Below.refl _ _⟩
  · obtain ⟨rfl, rfl⟩ := (by simpa using he : a = some ⟨g, 0, none⟩ ∧ c = cap)
    by_cases h0 : n = 0
    · subst h0
      have e : ds = [] := List.eq_nil_of_length_eq_zero hl
      subst e
      simpa using clone_zero ⟨g, 0, none⟩ c w
    · have hx := clone_some g 0 n c ds w (by omega) hm (Array.getElem?_eq_some_iff.1 hg).1 (fun k hk => by
        rw [Nat.zero_add, h.cellAt k (by omega), List.getElem?_map, List.getElem?_eq_getElem (by omega)]
        simp [List.getD, show k < ds.length by omega])
      rw [List.take_of_length_le (by omega)] at hx
      exact hx

/-- two rows of the same bytes, not empty -/
theorem same_own (v v' : Value) (n n' : Nat) (l : List Int) (w : World) (B B' : Nat) (h : w.ownsRow B 5 1 v n (l.map (Value.int .u8))) (h' : w.ownsRow B' 5 1 v' n' (l.map (Value.int .u8))) (hl : 0 < l.length) (hL : l.length ≤ 16777216) :
    Calls Try.prog 17 #[v, v'] w fun e w' => e = .returned (.bool true) ∧ ∃ q, w' = w.drewN q := by
  have e1 : l.length = n := by simpa using h.1
  have e2 : l.length = n' := by simpa using h'.1
  subst e1
  subst e2
  have cells : ∀ {g c B : Nat}, w.ownsRow B 5 1 (.slice (some ⟨g, 0, none⟩) l.length c) l.length (l.map (Value.int .u8)) → ∀ k, k < l.length → w.cell? ⟨g, 0 + k, none⟩ = some (.int .u8 (l.getD k 0)) := by
    intro g c B hh k hk
    rw [Nat.zero_add, hh.cellAt k (by omega), List.getElem?_map, List.getElem?_eq_getElem hk]
    simp [List.getD, hk]
  rcases h.2 with ⟨_, h0⟩ | ⟨g, cap, cur, rfl, _, _, h3, h4, _⟩
  · omega
  · rcases h'.2 with ⟨_, h0⟩ | ⟨g', cap', cur', rfl, _⟩
    · omega
    · unfold maxLen at h4
      exact same_eq g 0 cap g' 0 cap' l.length l w (by omega) (cells h) (cells h')

theorem zz14_any (a : Option Addr) (n c : Nat) (b : Bool) (a' : Option Addr) (n' c' : Nat) (x : Int) (w : World) (h : n ≤ 524288) (h' : n' ≤ 524288) : Calls Try.prog 14 #[.slice a n c, .bool b, .slice a' n' c', .int .i64 x] w fun e w' => e = .returned (.bool true) ∧ w = w' := by
  go_enter Try.func14, Try.ntmps14
  go_wp2
  go_ret
  exact ⟨rfl, rfl⟩

theorem plainL_pos (neg : Bool) (ds : List Int) (adj : Int) : 0 < (plainL (48 : Int) 46 45 neg ds adj).length := by
  have h1 := plainL_length (48 : Int) 46 45 neg ds adj
  split at h1 <;> (try split at h1) <;> (try split at h1) <;> omega

theorem plainL_le' (neg : Bool) (ds : List Int) (adj : Int) (h1 : -65536 ≤ adj) (h2 : adj ≤ 65536) : (plainL (48 : Int) 46 45 neg ds adj).length ≤ ds.length + 65541 := by
  have h := bodyL_length_le (48 : Int) 46 ds adj h1 h2
  unfold plainL
  rw [List.length_append]
  have : (if neg = true then [(45 : Int)] else []).length ≤ 1 := by split <;> simp
  omega

set_option maxHeartbeats 1000000 in
theorem specP_in (neg : Bool) (a0 : Option Addr) (len0 cap0 : Nat) (z0 : List Int) (a2 : Option Addr) (len2 cap2 : Nat) (z2 : List Int) (adj : Int) (w : World) (h0 : IsRow .u8 w a0 len0 cap0 z0) (h2 : IsRow .u8 w a2 len2 cap2 z2)
    (hl0 : len0 ≤ 524288) (hl2 : len2 ≤ 524288) (ha1 : -65536 ≤ adj) (ha3 : adj ≤ 65536) :
    Calls Try.prog 5 #[.slice a0 len0 cap0, .bool neg, .slice a2 len2 cap2, .int .i64 adj] w fun e w' => e = .returned (.bool true) ∧ Below w.heap.size w w' := by
  have H0 : Hid (IsRow .u8 w a0 len0 cap0 z0) := h0
  have H2 : Hid (IsRow .u8 w a2 len2 cap2 z2) := h2
  clear h0 h2
  go_enter Try.func5, Try.ntmps5
  go_wp2_with (go_at_call 14; refine (zz14_any _ _ _ _ _ _ _ _ _ hl0 hl2).mono ?_; rintro e w' ⟨rfl, rfl⟩)
  refine (clone_any a0 len0 cap0 z0 _ H0.out (by omega)).mono ?_
  rintro e w1 ⟨b0, c0, rfl, hD1, hb1⟩
  have hs1 := hb1.size
  go_wp2_with fail
  refine (clone_any a2 len2 cap2 z2 _ (isRow_below H2.out hb1) (by omega)).mono ?_
  rintro e w2 ⟨b2, c2, rfl, hG2, hb2⟩
  have hs2 := hb2.size
  have hD2 := own_below hD1 hb2
  go_wp2_with fail
  refine (clone_own b0 len0 c0 (z0.take len0) _ _ hD2 (by omega)).mono ?_
  rintro e w3 ⟨b3, c3, rfl, hW3, hb3⟩
  have hs3 := hb3.size
  have hD3 := own_below hD2 hb3
  have hG3 := own_below (own_base hG2 hs1) hb3
  have apG : Apart (.slice b2 len2 c2) (.slice b0 len0 c0) := by
    intro k hk hk2
    have i1 := (hG2.lt k hk).1
    have i2 := (hD1.lt k hk2).2
    omega
  have apW : Apart (.slice b0 len0 c0) (.slice b3 len0 c3) := by
    intro k hk hk2
    have i1 := (hD2.lt k hk).2
    have i2 := (hW3.lt k hk2).1
    omega
  have apX : Apart (.slice b2 len2 c2) (.slice b3 len0 c3) := by
    intro k hk hk2
    have i1 := (hG2.lt k hk).2
    have i2 := (hW3.lt k hk2).1
    omega
  have hW3' := own_base hW3 (Nat.le_trans hs1 hs2)
  clear hD1 hG2 hD2 hW3
  have hbb : Below w.heap.size w w3 := hb1.trans ((hb2.mono hs1).trans (hb3.mono (Nat.le_trans hs1 hs2)))
  go_wp2_with fail
  refine (model_any _ neg b2 len2 c2 adj w3 w.heap.size len0 _ (z2.take len2) hW3' hG3 apX (by omega) (by omega) (by omega) ha1 ha3).mono ?_
  rintro e w4 ⟨v4, m4, rfl, hw4, A4⟩
  have hs4 := A4.grow.size
  have hD4 := A4.kept hD3 apW
  have hG4 := A4.kept hG3 apX
  have apV := A4.apart hD3 apW
  have hbb4 : Below w.heap.size w w4 := hbb.trans (A4.below (by omega) (fun k hk => (hW3'.lt k hk).1))
  clear A4 hD3 hG3 apW apX hW3' hbb
  go_wp2_with fail
  refine (zzAppendPlain_any _ neg b2 len2 c2 adj w4 w.heap.size len0 _ _ hD4 hG4 (ints_oneCell _ _) apG (by omega) (by omega) (by omega) ha1 ha3).mono ?_
  rintro e w5 ⟨v5, m5, rfl, hw5, A5⟩
  have hw5' := A5.kept hw4 apV.symm
  have hbb5 : Below w.heap.size w w5 := hbb4.trans (A5.below (by omega) (fun k hk => (hD4.lt k hk).1))
  rw [← plainL_map, ← List.map_append] at hw5
  rw [← List.map_append] at hw5'
  clear A5 hw4 hD4 hG4 apV apG hbb4
  go_wp2_with fail
  refine (same_own _ _ _ _ _ _ _ _ hw5 hw5' (by have := plainL_pos neg (z2.take len2) adj; rw [List.length_append]; omega) (by have := plainL_le' neg (z2.take len2) adj ha1 ha3; rw [List.length_append]; simp only [List.length_take] at this ⊢; omega)).mono ?_
  rintro e w6 ⟨rfl, q, hw⟩
  subst hw
  have hbq : Below w.heap.size w (w5.drewN q) := hbb5.trans ⟨rfl, rfl, rfl, Nat.le_refl _, fun _ _ => rfl⟩
  clear hw5 hw5'
  go_wp2
  go_ret
  exact ⟨rfl, hbq⟩
end Go.Proofs.Qxb6602232a
