/-
  zzFlag (10), ZZCheckOf (9), MaxTime (11).
-/
import Derived.Test.Qxb6001683aCopy
namespace Go.Proofs.Qxb6001683a
open Go.RowKit
set_option linter.unusedVariables false
set_option linter.unusedSimpArgs false

theorem flag_in (g n c k : Nat) (r : Bool) (w : World) (hk : k < n) (hn : n ≤ 16777216) (hc : w.cell? ⟨g, k, none⟩ = some (.bool r)) :
    Calls Try.prog 10 #[.slice (some ⟨g, 0, none⟩) n c, .int .i64 k] w fun e w' => e = .returned (.bool r) ∧ w' = w := by
  go_enter Try.func10, Try.ntmps10
  go_wp2
  go_ret
  exact ⟨rfl, rfl⟩

theorem flag_out (a : Option Addr) (n c k : Nat) (w : World) (hk : n ≤ k) :
    Calls Try.prog 10 #[.slice a n c, .int .i64 k] w fun e w' => e = .returned (.bool false) ∧ w' = w := by
  go_enter Try.func10, Try.ntmps10
  go_wp2
  go_ret
  exact ⟨rfl, rfl⟩

theorem flag_any (a : Option Addr) (n c k : Nat) (rs : List Bool) (w : World) (B : Nat) (h : w.ownsRow B 4 1 (.slice a n c) n (rs.map Value.bool)) (hn : n ≤ 16777216) :
    Calls Try.prog 10 #[.slice a n c, .int .i64 k] w fun e w' => e = .returned (.bool (rs.getD k false)) ∧ w' = w := by
  have hl : rs.length = n := by simpa using h.1
  by_cases hk : k < n
  · obtain ⟨g, c', he, _⟩ := own_pos h (by omega)
    obtain ⟨rfl, rfl⟩ := (by simpa using he : a = some ⟨g, 0, none⟩ ∧ c = c')
    refine flag_in g n c k _ w hk hn ?_
    rw [h.cellAt k (by omega), List.getElem?_map, List.getElem?_eq_getElem (by omega)]
    simp [List.getD, show k < rs.length by omega]
  · have e : rs.getD k false = false := by simp [List.getD, show rs.length ≤ k by omega]
    rw [e]
    exact flag_out a n c k w (by omega)

theorem checkOf_any (s : ByteArray) (t : Int) (r : Bool) (w : World) :
    Calls Try.prog 9 #[.string s, .int .i64 t, .bool r] w fun e w' => e = .returned (.agg #[.string s, .string { data := #[] }, .int .i64 t, .bool r]) ∧ w' = w.alloc (.cells #[.string s, .string { data := #[] }, .int .i64 t, .bool r] 30) := by
  go_enter Try.func9, Try.ntmps9
  go_wp2
  exact bodyPost_ret (v := .agg #[.string s, .string { data := #[] }, .int .i64 t, .bool r]) (by simp [results, Try.results9, go_sem]) rfl ⟨rfl, rfl⟩

/-- the sum that MaxTime makes -/
def mt (ts : List Int) : Int := ts.foldl (fun a t => wrap64 (a + wrap64 (t + 2000000000))) 0

theorem mt_snoc (ts : List Int) (t : Int) : mt (ts ++ [t]) = wrap64 (mt ts + wrap64 (t + 2000000000)) := by simp [mt, List.foldl_append]

/-- element k of a row of checks: its timeout is t -/
def ChkAt (w : World) (g k : Nat) (t : Int) : Prop :=
  ∃ s0 s1 b, w.cell? ⟨g, k * 4, none⟩ = some (.string s0) ∧ w.cell? ⟨g, k * 4 + 1, none⟩ = some (.string s1) ∧ w.cell? ⟨g, k * 4 + 2, none⟩ = some (.int .i64 t) ∧ w.cell? ⟨g, k * 4 + 3, none⟩ = some (.bool b)

theorem maxTime_zero (a : Option Addr) (c : Nat) (w : World) : Calls Try.prog 11 #[.slice a 0 c] w fun e w' => e = .returned (.int .i64 0) ∧ w' = w := by
  go_enter Try.func11, Try.ntmps11
  go_wp2
  refine wp_loop_rounds 1 ?_
  rw [rounds_succ]
  go_wp2
  go_ret
  exact ⟨rfl, rfl⟩

set_option maxHeartbeats 400000 in
theorem maxTime_some (g n c : Nat) (ts : List Int) (w : World) (hl : ts.length = n) (hn : n ≤ 16777216) (hg : g < w.heap.size) (hc : ∀ k, k < n → ChkAt w g k (ts.getD k 0)) :
    Calls Try.prog 11 #[.slice (some ⟨g, 0, none⟩) n c] w fun e w' => e = .returned (.int .i64 (mt ts)) ∧ Below w.heap.size w w' := by
  have HC : Hid (∀ k, k < n → ChkAt w g k (ts.getD k 0)) := hc
  have HL : Hid (ts.length = n) := hl
  clear hc hl
  go_enter Try.func11, Try.ntmps11
  go_wp2
  go_loopw [3, 8] (fun s i wr => ∃ k : Nat, k ≤ n ∧ i = .int .i64 k ∧ s = .int .i64 (mt (ts.take k)) ∧ Below w.heap.size w wr) (fun _ i _ => n - (intOf i).toNat)
  case atStart => exact ⟨0, Nat.zero_le _, rfl, rfl, Below.refl _ _⟩
  case round =>
    obtain ⟨k, hk, rfl, rfl, hb⟩ := hrel
    have hsz := hb.size
    by_cases hlt : k < n
    · obtain ⟨t, ⟨s0, s1, b, c0, c1, c2, c3⟩, HT⟩ : ∃ t, ChkAt wr g k t ∧ Hid (ts.take (k + 1) = ts.take k ++ [t]) := by
        have hkl : k < ts.length := by have := HL.out; omega
        have e : ts.getD k 0 = ts[k] := by simp [List.getD, hkl]
        obtain ⟨s0, s1, b, c0, c1, c2, c3⟩ := HC.out k hlt
        refine ⟨ts.getD k 0, ⟨s0, s1, b, ?_, ?_, ?_, ?_⟩, ?_⟩
        · rw [hb.cell (by exact hg)]; exact c0
        · rw [hb.cell (by exact hg)]; exact c1
        · rw [hb.cell (by exact hg)]; exact c2
        · rw [hb.cell (by exact hg)]; exact c3
        · rw [e]; exact List.take_succ_eq_append_getElem hkl
      go_wp2
      go_roundw
      case rel => exact ⟨k + 1, by omega, by go_num, by rw [HT.out, mt_snoc], hb.alloc hsz _⟩
      case measure => simp [intOf]; omega
    · have e1 : ts.take k = ts := List.take_of_length_le (by have := HL.out; omega)
      have E : Hid (ts.take k = ts) := e1
      clear e1
      go_wp2
      go_ret
      exact ⟨by show Ending.returned (.int .i64 (mt (ts.take k))) = _; rw [E.out], hb⟩

/-! ### rows of checks -/
def chk (s : ByteArray) (t : Int) (r : Bool) : List Value := [.string s, .string { data := #[] }, .int .i64 t, .bool r]
def chks (s : ByteArray) (l : List (Int × Bool)) : List Value := l.flatMap fun p => chk s p.1 p.2

theorem chks_nil (s : ByteArray) : chks s [] = [] := rfl
theorem chks_append (s : ByteArray) (a b : List (Int × Bool)) : chks s (a ++ b) = chks s a ++ chks s b := by simp [chks]
theorem chks_one (s : ByteArray) (t : Int) (r : Bool) : chks s [(t, r)] = chk s t r := by simp [chks]
theorem chks_length (s : ByteArray) (l : List (Int × Bool)) : (chks s l).length = l.length * 4 := by
  induction l with
  | nil => rfl
  | cons p l ih =>
    have : chks s (p :: l) = chk s p.1 p.2 ++ chks s l := by simp [chks]
    rw [this, List.length_append, ih]
    simp [chk]
    omega
theorem chks_get (s : ByteArray) (l : List (Int × Bool)) : ∀ (k : Nat) (hk : k < l.length) (j : Nat), j < 4 → (chks s l)[k * 4 + j]? = (chk s l[k].1 l[k].2)[j]? := by
  induction l with
  | nil => intro k hk; simp at hk
  | cons p l ih =>
    intro k hk j hj
    have e : chks s (p :: l) = chk s p.1 p.2 ++ chks s l := by simp [chks]
    rw [e]
    cases k with
    | zero =>
      rw [List.getElem?_append_left (by simp [chk]; omega)]
      simp
    | succ k =>
      rw [List.getElem?_append_right (by simp [chk]; omega)]
      have e2 : (k + 1) * 4 + j - (chk s p.1 p.2).length = k * 4 + j := by simp [chk]; omega
      rw [e2, ih k (by simpa using hk) j hj]
      simp

theorem own_chkAt {w : World} {B g n c : Nat} {s : ByteArray} {l : List (Int × Bool)} (h : w.ownsRow B 30 4 (.slice (some ⟨g, 0, none⟩) n c) n (chks s l)) (k : Nat) (hk : k < n) : ChkAt w g k ((l.map (·.1)).getD k 0) := by
  have hl := h.1
  rw [chks_length] at hl
  have hkl : k < l.length := by omega
  have e : (l.map (·.1)).getD k 0 = l[k].1 := by simp [List.getD, hkl]
  rw [e]
  refine ⟨s, { data := #[] }, l[k].2, ?_, ?_, ?_, ?_⟩
  · have := h.cellAt (k * 4 + 0) (by omega); rw [chks_get s l k hkl 0 (by omega)] at this; exact this
  · have := h.cellAt (k * 4 + 1) (by omega); rw [chks_get s l k hkl 1 (by omega)] at this; exact this
  · have := h.cellAt (k * 4 + 2) (by omega); rw [chks_get s l k hkl 2 (by omega)] at this; exact this
  · have := h.cellAt (k * 4 + 3) (by omega); rw [chks_get s l k hkl 3 (by omega)] at this; exact this

theorem maxTime_own (v : Value) (n : Nat) (s : ByteArray) (l : List (Int × Bool)) (w : World) (B : Nat) (h : w.ownsRow B 30 4 v n (chks s l)) (hn : n ≤ 16777216) :
    Calls Try.prog 11 #[v] w fun e w' => e = .returned (.int .i64 (mt (l.map (·.1)))) ∧ Below w.heap.size w w' := by
  have hl := h.1
  rw [chks_length] at hl
  by_cases h0 : n = 0
  · subst h0
    have e : l = [] := List.eq_nil_of_length_eq_zero (by omega)
    subst e
    obtain ⟨a, c, rfl⟩ := own_shape h
    refine (maxTime_zero a c w).mono ?_
    rintro e w' ⟨rfl, hw⟩
    rw [hw]
    exact ⟨rfl, Below.refl _ _⟩
  · obtain ⟨g, c, rfl, _, _, _, hg⟩ := own_pos h (by omega)
    exact maxTime_some g n c (l.map (·.1)) w (by simp; omega) hn hg (fun k hk => own_chkAt h k hk)

/-! ### the plain law of the sums -/
def tot (l : List (Int × Bool)) : Int := (l.map fun p => p.1 + 2000000000).sum

theorem wrap_add (a b : Int) : wrap64 (wrap64 a + wrap64 b) = wrap64 (a + b) := by unfold wrap64; omega

theorem mt_tot (l : List (Int × Bool)) : mt (l.map (·.1)) = wrap64 (tot l) := by
  suffices ∀ (l : List (Int × Bool)) (a : Int), (l.map (·.1)).foldl (fun a t => wrap64 (a + wrap64 (t + 2000000000))) (wrap64 a) = wrap64 (a + tot l) by
    have h := this l 0
    have e : wrap64 0 = 0 := by unfold wrap64; omega
    rw [e] at h
    simpa [mt] using h
  intro l
  induction l with
  | nil => intro a; simp [tot]
  | cons p l ih =>
    intro a
    simp only [List.map_cons, List.foldl_cons]
    rw [wrap_add, ih]
    congr 1
    simp [tot]
    omega

theorem tot_append (a b : List (Int × Bool)) : tot (a ++ b) = tot a + tot b := by simp [tot]
theorem tot_reverse (a : List (Int × Bool)) : tot a.reverse = tot a := by
  induction a with
  | nil => rfl
  | cons p a ih =>
    rw [List.reverse_cons, tot_append, ih]
    simp [tot]
    omega
end Go.Proofs.Qxb6001683a
