/-
  FnMaxTimeIsTheSumOfTimeoutAndGraceOverAnyOrder (function 3): the walk.
-/
import Derived.Test.Qxb6001683aMax
import Derived.Deep.RegionHeld3
import Derived.Deep.DrawnRows
import Derived.Deep.AppendLies
namespace Go.Proofs.Qxb6001683a
open Go.RowKit
set_option linter.unusedVariables false
set_option linter.unusedSimpArgs false
attribute [local go_sem ↓] Go.wp_at_zero Go.wp_at_succ

theorem info30 : (Try.prog.info? 30).map (fun i => (i.zero, i.size, i.bytes)) = some (some (.agg #[.string ByteArray.empty, .string ByteArray.empty, .int .i64 0, .bool false]), 4, 48) := by kernel_rfl

theorem zz6_any (a b r : Option Addr) (na ca nb cb nr cr : Nat) (s : ByteArray) (w : World) (h1 : na ≤ 4096) (h2 : nb ≤ 4096) (h3 : nr ≤ 8192) (h4 : s.size ≤ 65536) :
    Calls Try.prog 6 #[.slice a na ca, .slice b nb cb, .slice r nr cr, .string s] w fun e w' => e = .returned (.bool true) ∧ w = w' := by
  go_enter Try.func6, Try.ntmps6
  go_wp2
  go_ret
  exact ⟨rfl, rfl⟩

/-- the flag of check k -/
def flagOf (zr : List Bool) (k : Nat) : Bool := zr.getD k false

theorem flag_of (a : Option Addr) (n c k : Nat) (rs : List Bool) (w : World) (B : Nat) (h : w.ownsRow B 4 1 (.slice a n c) n (rs.map Value.bool)) (hn : n ≤ 16777216) :
    Calls Try.prog 10 #[.slice a n c, .int .i64 k] w fun e w' => e = .returned (.bool (flagOf rs k)) ∧ w' = w := flag_any a n c k rs w B h hn

def fA (za : List Int) (zr : List Bool) (k : Nat) : Int × Bool := (za.getD k 0, flagOf zr k)

def fB (zb : List Int) (zr : List Bool) (n : Nat) (k : Nat) : Int × Bool := (zb.getD k 0, flagOf zr (n + k))

theorem flag_of2 (a : Option Addr) (n c m k : Nat) (rs : List Bool) (w : World) (B : Nat) (h : w.ownsRow B 4 1 (.slice a n c) n (rs.map Value.bool)) (hn : n ≤ 16777216) :
    Calls Try.prog 10 #[.slice a n c, .int .i64 ((m : Int) + (k : Int))] w fun e w' => e = .returned (.bool (flagOf rs (m + k))) ∧ w' = w := by
  have h1 := flag_any a n c (m + k) rs w B h hn
  rw [Int.natCast_add] at h1
  exact h1

theorem cell_at {α : Type} {C : α → Value} {w : World} {B e g n c : Nat} {zs : List α} (d : α) (h : w.ownsRow B e 1 (.slice (some ⟨g, 0, none⟩) n c) n (zs.map C)) (j : Nat) (hj : j < n) : w.cell? ⟨g, j, none⟩ = some (C (zs.getD j d)) := by
  have hl := h.1
  simp only [List.length_map, Nat.mul_one] at hl
  rw [h.cellAt j (by omega), List.getElem?_map, List.getElem?_eq_getElem (by omega)]
  simp [List.getD, show j < zs.length by omega]

/-- one check in a new block, as a source of an append -/
theorem src_chk {w : World} {B : Nat} (s : ByteArray) (t : Int) (r : Bool) (h : w.heap[B]? = some (.cells (chk s t r).toArray 30 (0, 0))) : Src Try.prog 4 27 (.slice (some ⟨B, 0, none⟩) 1 1) 1 (chk s t r) w :=
  Src.ofSlice _ Try.underlying27 ⟨B, 0, none⟩ 1 1 (chk s t r) rfl (World.news_of_block h) (by intro u hu; simp [chk] at hu; rcases hu with rfl | rfl | rfl | rfl <;> rfl)

theorem row_keep {wp wm wr : World} {v : Value} {cap : Nat} (hg : wp.grownBy wm none) (hadv : Adv wm (.slice (some ⟨wp.heap.size, 0, none⟩) 0 cap) wr v) {B : Nat} {e : TypeId} {s : Nat} {d : Value} {n : Nat} {xs : List Value} (h : wp.ownsRow B e s d n xs) : wr.ownsRow B e s d n xs := by
  refine hadv.kept (h.kept hg (by cases hv : d.ownBlock <;> simp)) ?_
  intro q hq hq2
  have := (h.lt q hq).2
  simp [Value.ownBlock] at hq2
  omega

theorem row_apart {wp wm wr : World} {v : Value} {cap : Nat} (hg : wp.grownBy wm none) (hadv : Adv wm (.slice (some ⟨wp.heap.size, 0, none⟩) 0 cap) wr v) {B : Nat} {e : TypeId} {s : Nat} {d : Value} {n : Nat} {xs : List Value} (h : wp.ownsRow B e s d n xs) : Apart d v := by
  refine hadv.apart (h.kept hg (by cases hv : d.ownBlock <;> simp)) ?_
  intro q hq hq2
  have := (h.lt q hq).2
  simp [Value.ownBlock] at hq2
  omega

theorem made_below {w wp wm wr : World} {v : Value} {cap : Nat} (hb : Below w.heap.size w wp) (hg : wp.grownBy wm none) (hadv : Adv wm (.slice (some ⟨wp.heap.size, 0, none⟩) 0 cap) wr v) : Below w.heap.size w wr := by
  have hs := hb.size
  have h1 : Below w.heap.size w wm := hb.grown hg hs (by simp)
  exact h1.trans (hadv.below h1.size (by intro k hk; simp [Value.ownBlock] at hk; omega))

theorem two_keep {wp wm wr : World} (hg : wp.grownBy wm none) (hr : wm.grownBy wr (some wp.heap.size)) {B : Nat} {e : TypeId} {s : Nat} {d : Value} {n : Nat} {xs : List Value} (h : wp.ownsRow B e s d n xs) : wr.ownsRow B e s d n xs := by
  refine (h.kept hg (by cases hv : d.ownBlock <;> simp)).kept hr ?_
  cases hv : d.ownBlock with
  | none => exact .inl rfl
  | some q =>
    refine .inr fun e => ?_
    have := (h.lt q hv).2
    simp at e
    omega

/-- the four cells of a check in a row -/
theorem chk_cells {w : World} {B g n c : Nat} {s : ByteArray} {l : List (Int × Bool)} (h : w.ownsRow B 30 4 (.slice (some ⟨g, 0, none⟩) n c) n (chks s l)) (k : Nat) (hk : k < n) :
    ∃ y r, (w.cell? ⟨g, k * 4, none⟩ = some (.string s) ∧ w.cell? ⟨g, k * 4 + 1, none⟩ = some (.string { data := #[] }) ∧ w.cell? ⟨g, k * 4 + 2, none⟩ = some (.int .i64 y) ∧ w.cell? ⟨g, k * 4 + 3, none⟩ = some (.bool r)) ∧ Hid (l[k]? = some (y, r)) := by
  have hl := h.1
  rw [chks_length] at hl
  have hkl : k < l.length := by omega
  refine ⟨l[k].1, l[k].2, ⟨?_, ?_, ?_, ?_⟩, by show l[k]? = _; rw [List.getElem?_eq_getElem hkl]⟩
  · have := h.cellAt (k * 4 + 0) (by omega); rw [chks_get s l k hkl 0 (by omega)] at this; exact this
  · have := h.cellAt (k * 4 + 1) (by omega); rw [chks_get s l k hkl 1 (by omega)] at this; exact this
  · have := h.cellAt (k * 4 + 2) (by omega); rw [chks_get s l k hkl 2 (by omega)] at this; exact this
  · have := h.cellAt (k * 4 + 3) (by omega); rw [chks_get s l k hkl 3 (by omega)] at this; exact this

theorem old_cell {w : World} {B e g n c size : Nat} {xs : List Value} (h : w.ownsRow B e size (.slice (some ⟨g, 0, none⟩) n c) n xs) (j : Nat) (hj : j < n * size) : ∃ q, w.cell? ⟨g, j, none⟩ = some q := by
  have hl := h.1
  exact ⟨_, by rw [h.cellAt j hj, List.getElem?_eq_getElem (by omega)]⟩

theorem old_cells {w : World} {B g n c : Nat} {xs : List Value} (h : w.ownsRow B 30 4 (.slice (some ⟨g, 0, none⟩) n c) n xs) (k : Nat) (hk : k < n) :
    (∃ q, w.cell? ⟨g, k * 4, none⟩ = some q) ∧ (∃ q, w.cell? ⟨g, k * 4 + 1, none⟩ = some q) ∧ (∃ q, w.cell? ⟨g, k * 4 + 2, none⟩ = some q) ∧ (∃ q, w.cell? ⟨g, k * 4 + 3, none⟩ = some q) :=
  ⟨old_cell h _ (by omega), old_cell h _ (by omega), old_cell h _ (by omega), old_cell h _ (by omega)⟩

theorem grow_trans {a b c : World} {r : Option Nat} (h : a.grownBy b r) (k : b.grownBy c r) : a.grownBy c r :=
  ⟨k.os.trans h.os, k.tape.trans h.tape, k.output.trans h.output, Nat.le_trans h.size k.size, fun i hi hne => (k.block i (Nat.lt_of_lt_of_le hi h.size) hne).trans (h.block i hi hne)⟩

theorem set4 {α : Type} (A : List α) (r0 r1 r2 r3 x0 x1 x2 x3 : α) (rest : List α) (m : Nat) (h : A.length = m) :
    ((((A ++ r0 :: r1 :: r2 :: r3 :: rest).set m x0).set (m + 1) x1).set (m + 2) x2).set (m + 3) x3 = A ++ (x0 :: x1 :: x2 :: x3 :: rest) := by
  subst h
  rw [List.set_append_right _ _ (Nat.le_refl _), List.set_append_right _ _ (by omega), List.set_append_right _ _ (by omega), List.set_append_right _ _ (by omega)]
  simp

theorem store4 {w : World} {B g n c k : Nat} {A rest : List Value} {x0 x1 x2 x3 : Value} (h : w.ownsRow B 30 4 (.slice (some ⟨g, 0, none⟩) n c) n (A ++ rest)) (hA : A.length = k * 4) (hr : rest.length = (n - k) * 4) (hk : k < n) :
    ((((w.setCell ⟨g, k * 4, none⟩ x0).setCell ⟨g, k * 4 + 1, none⟩ x1).setCell ⟨g, k * 4 + 2, none⟩ x2).setCell ⟨g, k * 4 + 3, none⟩ x3).ownsRow B 30 4 (.slice (some ⟨g, 0, none⟩) n c) n (A ++ (x0 :: x1 :: x2 :: x3 :: rest.drop 4)) ∧
      w.grownBy ((((w.setCell ⟨g, k * 4, none⟩ x0).setCell ⟨g, k * 4 + 1, none⟩ x1).setCell ⟨g, k * 4 + 2, none⟩ x2).setCell ⟨g, k * 4 + 3, none⟩ x3) (some g) := by
  have s0 := h.stored (k * 4) x0
  have s1 := s0.1.stored (k * 4 + 1) x1
  have s2 := s1.1.stored (k * 4 + 2) x2
  have s3 := s2.1.stored (k * 4 + 3) x3
  refine ⟨?_, grow_trans s0.2 (grow_trans s1.2 (grow_trans s2.2 s3.2))⟩
  match rest, hr with
  | r0 :: r1 :: r2 :: r3 :: rest, hr =>
    have h4 := s3.1
    rw [set4 A r0 r1 r2 r3 x0 x1 x2 x3 rest (k * 4) hA] at h4
    exact h4
  | [], hr => simp at hr; omega
  | [_], hr => simp at hr; omega
  | [_, _], hr => simp at hr; omega
  | [_, _, _], hr => simp at hr; omega

theorem rev_step {α : Type} (l : List α) (n k : Nat) (y : α) (hl : l.length = n) (hk : k < n) (h : l[n - 1 - k]? = some y) : l.reverse.take (k + 1) = l.reverse.take k ++ [y] := by
  rw [List.take_succ_eq_append_getElem (by simp; omega)]
  congr 2
  have e : l.reverse[k]? = some y := by rw [List.getElem?_reverse (by omega), hl]; exact h
  rw [List.getElem?_eq_getElem (by simp; omega)] at e
  exact Option.some.inj e

theorem maxTime_val (v : Value) (n : Nat) (s : ByteArray) (l : List (Int × Bool)) (w : World) (B : Nat) (M : Int) (h : w.ownsRow B 30 4 v n (chks s l)) (hn : n ≤ 16777216) (hM : mt (l.map (·.1)) = M) :
    Calls Try.prog 11 #[v] w fun e w' => e = .returned (.int .i64 M) ∧ Below w.heap.size w w' := by
  subst hM
  exact maxTime_own v n s l w B h hn

theorem below_two (w : World) (o1 o2 : Obj) : Below w.heap.size w ((w.alloc o1).alloc o2) := ((Below.refl _ _).alloc (Nat.le_refl _) o1).alloc (by simp) o2

/-- MaxTime of one check that has just been laid -/
theorem maxTime_new (w : World) (o : Obj) (s : ByteArray) (t : Int) (r : Bool) :
    Calls Try.prog 11 #[.slice (some ⟨w.heap.size + 1, 0, none⟩) 1 1] ((w.alloc o).alloc (.cells #[.string s, .string { data := #[] }, .int .i64 t, .bool r] 30)) fun e w' => e = .returned (.int .i64 (wrap64 (t + 2000000000))) ∧ Below w.heap.size w w' := by
  have hb : ((w.alloc o).alloc (.cells #[.string s, .string { data := #[] }, .int .i64 t, .bool r] 30)).heap[w.heap.size + 1]? = some (.cells #[.string s, .string { data := #[] }, .int .i64 t, .bool r] 30) := by
    have h := heap_alloc_new (w.alloc o) (.cells #[.string s, .string { data := #[] }, .int .i64 t, .bool r] 30)
    have e : (w.alloc o).heap.size = w.heap.size + 1 := by simp
    rw [e] at h
    exact h
  have hlt : w.heap.size + 1 < ((w.alloc o).alloc (.cells #[.string s, .string { data := #[] }, .int .i64 t, .bool r] 30)).heap.size := by simp
  refine (maxTime_some (w.heap.size + 1) 1 1 [t] _ rfl (by omega) hlt ?_).mono ?_
  · intro k hk
    obtain rfl : k = 0 := by omega
    refine ⟨s, { data := #[] }, r, ?_, ?_, ?_, ?_⟩ <;> (rw [cell_of_row _ _ _ _ _ _ hb]; rfl)
  · rintro e w' ⟨rfl, hw⟩
    refine ⟨?_, (below_two w _ _).trans (hw.mono (by simp; omega))⟩
    have e1 : mt [t] = wrap64 (t + 2000000000) := by simp [mt]; unfold wrap64; omega
    rw [e1]

theorem chks_step (s : ByteArray) (l : List (Int × Bool)) (f : Nat → Int × Bool) (k : Nat) (t : Int) (r : Bool) (h1 : t = (f k).1) (h2 : r = (f k).2) : chks s (l ++ (List.range k).map f) ++ chk s t r = chks s (l ++ (List.range (k + 1)).map f) := by
  rw [List.range_succ, List.map_append, ← List.append_assoc, chks_append s (l ++ _), List.map_singleton]
  have e : f k = (t, r) := by rw [h1, h2]
  rw [e, chks_one]

theorem keep2 {w : World} {g k : Nat} {v : Value} (h : w.cell? ⟨g, k, none⟩ = some v) (o1 o2 : Obj) : ((w.alloc o1).alloc o2).drew.cell? ⟨g, k, none⟩ = some v := by
  have hl := World.block_lt_of_cell? w _ h
  have hb : Below w.heap.size w ((w.alloc o1).alloc o2).drew := (((Below.refl _ _).alloc (Nat.le_refl _) o1).alloc (by simp) o2).drew
  rw [hb.cell hl]
  exact h

theorem two_new (w : World) (o1 o2 : Obj) : ((w.alloc o1).alloc o2).drew.heap[w.heap.size + 1]? = some o2 := by
  have h := heap_alloc_new (w.alloc o1) o2
  have e : (w.alloc o1).heap.size = w.heap.size + 1 := by simp
  rw [e] at h
  exact h

set_option maxRecDepth 100000 in
set_option maxHeartbeats 8000000 in
theorem max_in (aA aB aR : Option Addr) (lenA capA lenB capB lenR capR : Nat) (za zb : List Int) (zr : List Bool) (nm : ByteArray) (w : World) (hA : RowIn (Value.int .i64) 0 w aA lenA za) (hB : RowIn (Value.int .i64) 0 w aB lenB zb) (hR : RowIn Value.bool false w aR lenR zr)
    (h1 : lenA ≤ 4096) (h2 : lenB ≤ 4096) (h3 : lenR ≤ 8192) (h4 : nm.size ≤ 65536) :
    Calls Try.prog 3 #[.slice aA lenA capA, .slice aB lenB capB, .slice aR lenR capR, .string nm] w fun e w' => e = .returned (.bool true) ∧ Below w.heap.size w w' := by
  obtain ⟨i0, hi, hz0, hz1, hz2⟩ := info_parts info30
  have HA : Hid (RowIn (Value.int .i64) 0 w aA lenA za) := hA
  have HB : Hid (RowIn (Value.int .i64) 0 w aB lenB zb) := hB
  have HR : Hid (RowIn Value.bool false w aR lenR zr) := hR
  clear hA hB hR
  go_enter Try.func3, Try.ntmps3
  go_wp2_with (go_at_call 6; refine (zz6_any _ _ _ _ _ _ _ _ _ _ _ h1 h2 h3 h4).mono ?_; rintro e w' ⟨rfl, rfl⟩)
  refine (copyI_any aA lenA capA za _ HA.out (by omega)).mono ?_
  rintro e w1 ⟨a1, c1, rfl, hA1, hb1⟩
  have hs1 := hb1.size
  go_wp2_with fail
  refine (copyI_any aB lenB capB zb _ (rowIn_below HB.out hb1) (by omega)).mono ?_
  rintro e w2 ⟨b1, d1, rfl, hB2, hb2⟩
  have hs2 := hb2.size
  have hb12 : Below w.heap.size w w2 := hb1.trans (hb2.mono hs1)
  go_wp2_with fail
  refine (copyB_any aR lenR capR zr _ (rowIn_below HR.out hb12) (by omega)).mono ?_
  rintro e w3 ⟨r1, e1, rfl, hR3, hb3⟩
  have hs3 := hb3.size
  have HA3 : Hid (w3.ownsRow w.heap.size 2 1 (.slice a1 lenA c1) lenA (za.map (Value.int .i64))) := own_below (own_below hA1 hb2) hb3
  have HB3 : Hid (w3.ownsRow w.heap.size 2 1 (.slice b1 lenB d1) lenB (zb.map (Value.int .i64))) := own_below (own_base hB2 hs1) hb3
  have HR3 : Hid (w3.ownsRow w.heap.size 4 1 (.slice r1 lenR e1) lenR (zr.map Value.bool)) := own_base hR3 (by omega)
  have hb03 : Below w.heap.size w w3 := hb12.trans (hb3.mono (by omega))
  have hs03 := hb03.size
  clear hA1 hB2 hR3 hb1 hb2 hb3 hb12 hs1 hs2 hs3
  go_wp2_with (at_make; refine wpList_make_own _ rfl _ _ 27 rfl w.heap.size 30 i0 _ 4 Try.underlying27 hi hz0 hz1 _ _ _ (lenA) rfl rfl (rfl) (by rw [hz2]; omega) (by unfold maxLen; omega) (by omega) ?_)
  intro w4 hownw4 hgroww4
  go_wp2
  go_loopw [9, 10] (fun v i wr => ∃ k : Nat, k ≤ lenA ∧ i = .int .i64 k ∧ wr.ownsRow w.heap.size 30 4 v k (chks nm ([] ++ (List.range k).map (fA za zr))) ∧ Adv w4 (.slice (some ⟨w3.heap.size, 0, none⟩) 0 lenA) wr v) (fun _ i _ => lenA - (intOf i).toNat)
  case atStart => exact ⟨0, Nat.zero_le _, rfl, own_cast hownw4 (by simp [chks]) rfl, Adv.refl _ _⟩
  case round =>
    obtain ⟨k, hk, rfl, hown, hadv⟩ := hrel
    have hszr := hadv.grow.size
    have hbr := made_below hb03 hgroww4 hadv
    have hsw := hbr.size
    by_cases hlt : k < lenA
    · have hAr := row_keep hgroww4 hadv HA3.out
      have hap := row_apart hgroww4 hadv HA3.out
      have HRr := row_keep hgroww4 hadv HR3.out
      obtain ⟨ga, ca, he, _, _, _, hga⟩ := own_pos hAr (by omega)
      obtain ⟨e1', e2'⟩ := (by simpa using he : a1 = some ⟨ga, 0, none⟩ ∧ c1 = ca)
      subst e1'
      subst e2'
      have hne : some ga ≠ u9.ownBlock := fun h' => hap ga (by simp [Value.ownBlock]) h'.symm
      obtain ⟨y, hy, HY⟩ : ∃ y, wr.cell? ⟨ga, k, none⟩ = some (.int .i64 y) ∧ Hid (y = za.getD k 0) := ⟨_, cell_at 0 hAr k hlt, rfl⟩
      have HRr' : Hid (wr.ownsRow w.heap.size 4 1 (.slice r1 lenR e1) lenR (zr.map Value.bool)) := HRr
      have HO : Hid (wr.ownsRow w.heap.size 30 4 u9 k (chks nm ([] ++ (List.range k).map (fA za zr)))) := hown
      have hk0 : (0 : Int) ≤ (k : Int) := Int.natCast_nonneg _
      have hk1 : (k : Int) < (lenA : Int) := by omega

      clear hAr HRr he hown hap
      go_wp2_with fail
      go_region_held3 (fun w' => w'.cell? ⟨ga, k, none⟩ = some (.int .i64 y)) (first | go_keep | exact hadv3.grow.cell (keep2 hy _ _) hne)
        (first
          | (go_at_call 10; refine (flag_of r1 lenR e1 k zr _ w.heap.size ?_ (by omega)).mono ?_; (first | exact HRr'.out | exact HRr'.out.drew); rintro e w' ⟨rfl, rfl⟩)
          | (go_at_call 9; refine (checkOf_any nm y _ _).mono ?_; rintro e w' ⟨rfl, rfl⟩)
          | (refine step_append_src _ (by rfl) (.tmp 63) (.tmp 73) 27 27 (by rfl) w.heap.size 30 i0 _ 4 48 Try.underlying27 hi hz0 hz1 hz2 rfl (by omega) u9 k _ (by rfl) ((HO.out.alloc _).alloc _).drew _ 1 (chk nm y (flagOf zr k)) (by rfl) (src_chk nm y (flagOf zr k) (two_new _ _ _)) (by unfold maxLen; omega) (by omega) (by simp; omega) ?_; intro v3 w5 hown3 hadv3))
      have R := own_cast hown3 (chks_step nm ([]) (fA za zr) k y (flagOf zr k) HY.out rfl) (show k + 1 = k + 1 by omega)
      have A := ((hadv.alloc _).alloc _).drew.trans hadv3
      clear hown3 hadv3 HO hadv
      go_wp2
      go_roundw
      case rel => first | exact ⟨k + 1, by omega, by go_num, R, A⟩ | ((repeat apply Exists.intro); exact ⟨⟨k + 1, by omega, by go_num, R, A⟩, rfl⟩)
      case measure => simp [intOf]; omega
    · have ek : lenA = k := by omega
      subst ek
      have hcaW := own_cast hown (show _ = chks nm ((List.range lenA).map (fA za zr)) by simp) rfl
      obtain ⟨wA, ewA⟩ : ∃ x, x = wr := ⟨_, rfl⟩
      obtain ⟨vA, evA⟩ : ∃ x, x = u9 := ⟨_, rfl⟩
      subst ewA
      subst evA
      have HA4 : Hid (wA.ownsRow w.heap.size 2 1 (.slice a1 lenA c1) lenA (za.map (Value.int .i64))) := row_keep hgroww4 hadv HA3.out
      have HB4 : Hid (wA.ownsRow w.heap.size 2 1 (.slice b1 lenB d1) lenB (zb.map (Value.int .i64))) := row_keep hgroww4 hadv HB3.out
      have HR4 : Hid (wA.ownsRow w.heap.size 4 1 (.slice r1 lenR e1) lenR (zr.map Value.bool)) := row_keep hgroww4 hadv HR3.out
      have HCa : Hid (wA.ownsRow w.heap.size 30 4 vA lenA (chks nm ((List.range lenA).map (fA za zr)))) := hcaW
      have hbA := hbr
      have hsA := hbA.size
      clear hown hcaW hadv hgroww4 hownw4 HA3 HB3 HR3 hbr hszr hsw
      go_wp2_with (at_make; refine wpList_make_own _ rfl _ _ 27 rfl w.heap.size 30 i0 _ 4 Try.underlying27 hi hz0 hz1 _ _ _ (lenB) rfl rfl (rfl) (by rw [hz2]; omega) (by unfold maxLen; omega) (by omega) ?_)
      intro w6 hownw6 hgroww6
      go_wp2
      go_loopw [11, 12] (fun v i wr => ∃ k : Nat, k ≤ lenB ∧ i = .int .i64 k ∧ wr.ownsRow w.heap.size 30 4 v k (chks nm ([] ++ (List.range k).map (fB zb zr lenA))) ∧ Adv w6 (.slice (some ⟨wA.heap.size, 0, none⟩) 0 lenB) wr v) (fun _ i _ => lenB - (intOf i).toNat)
      case atStart => exact ⟨0, Nat.zero_le _, rfl, own_cast hownw6 (by simp [chks]) rfl, Adv.refl _ _⟩
      case round =>
        obtain ⟨k, hk, rfl, hown, hadv⟩ := hrel
        have hszr := hadv.grow.size
        have hbr := made_below hbA hgroww6 hadv
        have hsw := hbr.size
        by_cases hlt : k < lenB
        · have hAr := row_keep hgroww6 hadv HB4.out
          have hap := row_apart hgroww6 hadv HB4.out
          have HRr := row_keep hgroww6 hadv HR4.out
          obtain ⟨ga, ca, he, _, _, _, hga⟩ := own_pos hAr (by omega)
          obtain ⟨e1', e2'⟩ := (by simpa using he : b1 = some ⟨ga, 0, none⟩ ∧ d1 = ca)
          subst e1'
          subst e2'
          have hne : some ga ≠ u11.ownBlock := fun h' => hap ga (by simp [Value.ownBlock]) h'.symm
          obtain ⟨y, hy, HY⟩ : ∃ y, wr.cell? ⟨ga, k, none⟩ = some (.int .i64 y) ∧ Hid (y = zb.getD k 0) := ⟨_, cell_at 0 hAr k hlt, rfl⟩
          have HRr' : Hid (wr.ownsRow w.heap.size 4 1 (.slice r1 lenR e1) lenR (zr.map Value.bool)) := HRr
          have HO : Hid (wr.ownsRow w.heap.size 30 4 u11 k (chks nm ([] ++ (List.range k).map (fB zb zr lenA)))) := hown
          have hk0 : (0 : Int) ≤ (k : Int) := Int.natCast_nonneg _
          have hk1 : (k : Int) < (lenB : Int) := by omega
          have hwr : IntKind.i64.wrap ((lenA : Int) + (k : Int)) = (lenA : Int) + (k : Int) := by simp [IntKind.wrap, IntKind.bits, IntKind.signed]; omega
          clear hAr HRr he hown hap
          go_wp2_with fail
          go_region_held3 (fun w' => w'.cell? ⟨ga, k, none⟩ = some (.int .i64 y)) (first | go_keep | exact hadv3.grow.cell (keep2 hy _ _) hne)
            (first
              | (go_at_call 10; refine (flag_of2 r1 lenR e1 lenA k zr _ w.heap.size ?_ (by omega)).mono ?_; (first | exact HRr'.out | exact HRr'.out.drew); rintro e w' ⟨rfl, rfl⟩)
              | (go_at_call 9; refine (checkOf_any nm y _ _).mono ?_; rintro e w' ⟨rfl, rfl⟩)
              | (refine step_append_src _ (by rfl) (.tmp 84) (.tmp 97) 27 27 (by rfl) w.heap.size 30 i0 _ 4 48 Try.underlying27 hi hz0 hz1 hz2 rfl (by omega) u11 k _ (by rfl) ((HO.out.alloc _).alloc _).drew _ 1 (chk nm y (flagOf zr (lenA + k))) (by rfl) (src_chk nm y (flagOf zr (lenA + k)) (two_new _ _ _)) (by unfold maxLen; omega) (by omega) (by simp; omega) ?_; intro v3 w5 hown3 hadv3))
          have R := own_cast hown3 (chks_step nm ([]) (fB zb zr lenA) k y (flagOf zr (lenA + k)) HY.out rfl) (show k + 1 = k + 1 by omega)
          have A := ((hadv.alloc _).alloc _).drew.trans hadv3
          clear hown3 hadv3 HO hadv
          go_wp2
          go_roundw
          case rel => first | exact ⟨k + 1, by omega, by go_num, R, A⟩ | ((repeat apply Exists.intro); exact ⟨⟨k + 1, by omega, by go_num, R, A⟩, rfl⟩)
          case measure => simp [intOf]; omega
        · have ek : lenB = k := by omega
          subst ek
          have hcbW := own_cast hown (show _ = chks nm ((List.range lenB).map (fB zb zr lenA)) by simp) rfl
          obtain ⟨wB, ewB⟩ : ∃ x, x = wr := ⟨_, rfl⟩
          obtain ⟨vB, evB⟩ : ∃ x, x = u11 := ⟨_, rfl⟩
          subst ewB
          subst evB
          have HA5 : Hid (wB.ownsRow w.heap.size 2 1 (.slice a1 lenA c1) lenA (za.map (Value.int .i64))) := row_keep hgroww6 hadv HA4.out
          have HB5 : Hid (wB.ownsRow w.heap.size 2 1 (.slice b1 lenB d1) lenB (zb.map (Value.int .i64))) := row_keep hgroww6 hadv HB4.out
          have HR5 : Hid (wB.ownsRow w.heap.size 4 1 (.slice r1 lenR e1) lenR (zr.map Value.bool)) := row_keep hgroww6 hadv HR4.out
          have HCa5 : Hid (wB.ownsRow w.heap.size 30 4 vA lenA (chks nm ((List.range lenA).map (fA za zr)))) := row_keep hgroww6 hadv HCa.out
          have HCb5 : Hid (wB.ownsRow w.heap.size 30 4 vB lenB (chks nm ((List.range lenB).map (fB zb zr lenA)))) := hcbW
          have hbB := hbr
          have hsB := hbB.size
          clear hown hcbW hadv hgroww6 hownw6 HA4 HB4 HR4 HCa hbA hbr hszr hsw
          go_wp2_with (at_make; refine wpList_make_own _ rfl _ _ 27 rfl w.heap.size 30 i0 _ 4 Try.underlying27 hi hz0 hz1 _ _ _ (lenA + lenB) rfl rfl (by omega) (by rw [hz2]; omega) (by unfold maxLen; omega) (by omega) ?_)
          intro w7 hownw7 hgroww7
          go_wp2
          go_loopw [13, 14] (fun v i wr => ∃ k : Nat, k ≤ lenA ∧ i = .int .i64 k ∧ wr.ownsRow w.heap.size 30 4 v k (chks nm ([] ++ (List.range k).map (fA za zr))) ∧ Adv w7 (.slice (some ⟨wB.heap.size, 0, none⟩) 0 (lenA + lenB)) wr v) (fun _ i _ => lenA - (intOf i).toNat)
          case atStart => exact ⟨0, Nat.zero_le _, rfl, own_cast hownw7 (by simp [chks]) rfl, Adv.refl _ _⟩
          case round =>
            obtain ⟨k, hk, rfl, hown, hadv⟩ := hrel
            have hszr := hadv.grow.size
            have hbr := made_below hbB hgroww7 hadv
            have hsw := hbr.size
            by_cases hlt : k < lenA
            · have hAr := row_keep hgroww7 hadv HA5.out
              have hap := row_apart hgroww7 hadv HA5.out
              have HRr := row_keep hgroww7 hadv HR5.out
              obtain ⟨ga, ca, he, _, _, _, hga⟩ := own_pos hAr (by omega)
              obtain ⟨e1', e2'⟩ := (by simpa using he : a1 = some ⟨ga, 0, none⟩ ∧ c1 = ca)
              subst e1'
              subst e2'
              have hne : some ga ≠ u13.ownBlock := fun h' => hap ga (by simp [Value.ownBlock]) h'.symm
              obtain ⟨y, hy, HY⟩ : ∃ y, wr.cell? ⟨ga, k, none⟩ = some (.int .i64 y) ∧ Hid (y = za.getD k 0) := ⟨_, cell_at 0 hAr k hlt, rfl⟩
              have HRr' : Hid (wr.ownsRow w.heap.size 4 1 (.slice r1 lenR e1) lenR (zr.map Value.bool)) := HRr
              have HO : Hid (wr.ownsRow w.heap.size 30 4 u13 k (chks nm ([] ++ (List.range k).map (fA za zr)))) := hown
              have hk0 : (0 : Int) ≤ (k : Int) := Int.natCast_nonneg _
              have hk1 : (k : Int) < (lenA : Int) := by omega

              clear hAr HRr he hown hap
              go_wp2_with fail
              go_region_held3 (fun w' => w'.cell? ⟨ga, k, none⟩ = some (.int .i64 y)) (first | go_keep | exact hadv3.grow.cell (keep2 hy _ _) hne)
                (first
                  | (go_at_call 10; refine (flag_of r1 lenR e1 k zr _ w.heap.size ?_ (by omega)).mono ?_; (first | exact HRr'.out | exact HRr'.out.drew); rintro e w' ⟨rfl, rfl⟩)
                  | (go_at_call 9; refine (checkOf_any nm y _ _).mono ?_; rintro e w' ⟨rfl, rfl⟩)
                  | (refine step_append_src _ (by rfl) (.tmp 111) (.tmp 121) 27 27 (by rfl) w.heap.size 30 i0 _ 4 48 Try.underlying27 hi hz0 hz1 hz2 rfl (by omega) u13 k _ (by rfl) ((HO.out.alloc _).alloc _).drew _ 1 (chk nm y (flagOf zr k)) (by rfl) (src_chk nm y (flagOf zr k) (two_new _ _ _)) (by unfold maxLen; omega) (by omega) (by simp; omega) ?_; intro v3 w5 hown3 hadv3))
              have R := own_cast hown3 (chks_step nm ([]) (fA za zr) k y (flagOf zr k) HY.out rfl) (show k + 1 = k + 1 by omega)
              have A := ((hadv.alloc _).alloc _).drew.trans hadv3
              clear hown3 hadv3 HO hadv
              go_wp2
              go_roundw
              case rel => first | exact ⟨k + 1, by omega, by go_num, R, A⟩ | ((repeat apply Exists.intro); exact ⟨⟨k + 1, by omega, by go_num, R, A⟩, rfl⟩)
              case measure => simp [intOf]; omega
            · have ek : lenA = k := by omega
              subst ek
              have hown3x := own_cast hown (show _ = chks nm ((List.range lenA).map (fA za zr)) by simp) rfl
              have hadv3x := hadv
              clear hown hadv hbr hszr hsw hownw7
              go_wp2
              go_loopw [13, 15] (fun v i wr => ∃ k : Nat, k ≤ lenB ∧ i = .int .i64 k ∧ wr.ownsRow w.heap.size 30 4 v (lenA + k) (chks nm ((List.range lenA).map (fA za zr) ++ (List.range k).map (fB zb zr lenA))) ∧ Adv w7 (.slice (some ⟨wB.heap.size, 0, none⟩) 0 (lenA + lenB)) wr v) (fun _ i _ => lenB - (intOf i).toNat)
              case atStart => exact ⟨0, Nat.zero_le _, rfl, own_cast hown3x (by simp) (by omega), hadv3x⟩
              case round =>
                obtain ⟨k, hk, rfl, hown, hadv⟩ := hrel
                have hszr := hadv.grow.size
                have hbr := made_below hbB hgroww7 hadv
                have hsw := hbr.size
                by_cases hlt : k < lenB
                · have hAr := row_keep hgroww7 hadv HB5.out
                  have hap := row_apart hgroww7 hadv HB5.out
                  have HRr := row_keep hgroww7 hadv HR5.out
                  obtain ⟨ga, ca, he, _, _, _, hga⟩ := own_pos hAr (by omega)
                  obtain ⟨e1', e2'⟩ := (by simpa using he : b1 = some ⟨ga, 0, none⟩ ∧ d1 = ca)
                  subst e1'
                  subst e2'
                  have hne : some ga ≠ u13.ownBlock := fun h' => hap ga (by simp [Value.ownBlock]) h'.symm
                  obtain ⟨y, hy, HY⟩ : ∃ y, wr.cell? ⟨ga, k, none⟩ = some (.int .i64 y) ∧ Hid (y = zb.getD k 0) := ⟨_, cell_at 0 hAr k hlt, rfl⟩
                  have HRr' : Hid (wr.ownsRow w.heap.size 4 1 (.slice r1 lenR e1) lenR (zr.map Value.bool)) := HRr
                  have HO : Hid (wr.ownsRow w.heap.size 30 4 u13 (lenA + k) (chks nm ((List.range lenA).map (fA za zr) ++ (List.range k).map (fB zb zr lenA)))) := hown
                  have hk0 : (0 : Int) ≤ (k : Int) := Int.natCast_nonneg _
                  have hk1 : (k : Int) < (lenB : Int) := by omega
                  have hwr : IntKind.i64.wrap ((lenA : Int) + (k : Int)) = (lenA : Int) + (k : Int) := by simp [IntKind.wrap, IntKind.bits, IntKind.signed]; omega
                  clear hAr HRr he hown hap
                  go_wp2_with fail
                  go_region_held3 (fun w' => w'.cell? ⟨ga, k, none⟩ = some (.int .i64 y)) (first | go_keep | exact hadv3.grow.cell (keep2 hy _ _) hne)
                    (first
                      | (go_at_call 10; refine (flag_of2 r1 lenR e1 lenA k zr _ w.heap.size ?_ (by omega)).mono ?_; (first | exact HRr'.out | exact HRr'.out.drew); rintro e w' ⟨rfl, rfl⟩)
                      | (go_at_call 9; refine (checkOf_any nm y _ _).mono ?_; rintro e w' ⟨rfl, rfl⟩)
                      | (refine step_append_src _ (by rfl) (.tmp 129) (.tmp 142) 27 27 (by rfl) w.heap.size 30 i0 _ 4 48 Try.underlying27 hi hz0 hz1 hz2 rfl (by omega) u13 (lenA + k) _ (by rfl) ((HO.out.alloc _).alloc _).drew _ 1 (chk nm y (flagOf zr (lenA + k))) (by rfl) (src_chk nm y (flagOf zr (lenA + k)) (two_new _ _ _)) (by unfold maxLen; omega) (by omega) (by simp; omega) ?_; intro v3 w5 hown3 hadv3))
                  have R := own_cast hown3 (chks_step nm ((List.range lenA).map (fA za zr)) (fB zb zr lenA) k y (flagOf zr (lenA + k)) HY.out rfl) (show (lenA + k) + 1 = (lenA + (k + 1)) by omega)
                  have A := ((hadv.alloc _).alloc _).drew.trans hadv3
                  clear hown3 hadv3 HO hadv
                  go_wp2
                  go_roundw
                  case rel => first | exact ⟨k + 1, by omega, by go_num, R, A⟩ | ((repeat apply Exists.intro); exact ⟨⟨k + 1, by omega, by go_num, R, A⟩, rfl⟩)
                  case measure => simp [intOf]; omega
                · have ek : lenB = k := by omega
                  subst ek
                  obtain ⟨wC, ewC⟩ : ∃ x, x = wr := ⟨_, rfl⟩
                  obtain ⟨vC, evC⟩ : ∃ x, x = u13 := ⟨_, rfl⟩
                  subst ewC
                  subst evC
                  have HA6 : Hid (wC.ownsRow w.heap.size 2 1 (.slice a1 lenA c1) lenA (za.map (Value.int .i64))) := row_keep hgroww7 hadv HA5.out
                  have HR6 : Hid (wC.ownsRow w.heap.size 4 1 (.slice r1 lenR e1) lenR (zr.map Value.bool)) := row_keep hgroww7 hadv HR5.out
                  have HCa6 : Hid (wC.ownsRow w.heap.size 30 4 vA lenA (chks nm ((List.range lenA).map (fA za zr)))) := row_keep hgroww7 hadv HCa5.out
                  have HCb6 : Hid (wC.ownsRow w.heap.size 30 4 vB lenB (chks nm ((List.range lenB).map (fB zb zr lenA)))) := row_keep hgroww7 hadv HCb5.out
                  obtain ⟨n, hnAB⟩ : ∃ n, Hid (n = lenA + lenB) := ⟨_, rfl⟩
                  have hnb : n ≤ 8192 := by have := hnAB.out; omega
                  have hab0 : wC.ownsRow w.heap.size 30 4 vC n (chks nm ((List.range lenA).map (fA za zr) ++ (List.range lenB).map (fB zb zr lenA))) := own_cast hown rfl hnAB.out.symm
                  obtain ⟨aC, cC, evC⟩ := own_shape hab0
                  subst evC
                  have HAB6 : Hid (wC.ownsRow w.heap.size 30 4 (.slice aC n cC) n (chks nm ((List.range lenA).map (fA za zr) ++ (List.range lenB).map (fB zb zr lenA)))) := hab0
                  have hbC := hbr
                  have hsC := hbC.size
                  clear hown hab0 hadv hadv3x hown3x hgroww7 HA5 HB5 HR5 HCa5 HCb5 hbB hbr hszr hsw
                  go_wp2_with (at_make; refine wpList_make_full _ rfl _ _ 27 rfl w.heap.size 30 i0 _ 4 Try.underlying27 hi hz0 hz1 _ _ _ _ n rfl rfl (by first | rfl | omega) (by first | rfl | omega) (by rw [hz2]; omega) (by unfold maxLen; omega) (by omega) ?_)
                  intro w8 hownw8 hgroww8
                  have hrest : ∃ rest : List Value, rest.length = (n - 0) * 4 ∧ w8.ownsRow w.heap.size 30 4 (.slice (some ⟨wC.heap.size, 0, none⟩) n n) n (chks nm ((((List.range lenA).map (fA za zr) ++ (List.range lenB).map (fB zb zr lenA)).reverse).take 0) ++ rest) := ⟨_, hownw8.1, own_cast hownw8 (by simp [chks]) rfl⟩
                  clear hownw8
                  go_wp2
                  go_loopw [17] (fun i wr => ∃ (k : Nat) (rest : List Value), k ≤ n ∧ i = .int .i64 k ∧ rest.length = (n - k) * 4 ∧ wr.ownsRow w.heap.size 30 4 (.slice (some ⟨wC.heap.size, 0, none⟩) n n) n (chks nm ((((List.range lenA).map (fA za zr) ++ (List.range lenB).map (fB zb zr lenA)).reverse).take k) ++ rest) ∧ w8.grownBy wr (some wC.heap.size)) (fun i _ => n - (intOf i).toNat)
                  case atStart => obtain ⟨rest, hr1, hr2⟩ := hrest; exact ⟨0, rest, Nat.zero_le _, rfl, hr1, hr2, World.grownBy.refl _ _⟩
                  case round =>
                    obtain ⟨k, rest, hk, rfl, hrl, hown, hgr⟩ := hrel
                    by_cases hlt : k < n
                    · have habr : wr.ownsRow w.heap.size 30 4 (.slice aC n cC) n (chks nm ((List.range lenA).map (fA za zr) ++ (List.range lenB).map (fB zb zr lenA))) := two_keep hgroww8 hgr HAB6.out
                      obtain ⟨gc, cc, he, _, _, _, hgc⟩ := own_pos habr (by omega)
                      obtain ⟨e1', e2'⟩ := (by simpa using he : aC = some ⟨gc, 0, none⟩ ∧ cC = cc)
                      subst e1'
                      subst e2'
                      obtain ⟨y, r, ⟨x0, x1, x2, x3⟩, HYR⟩ := chk_cells habr (n - 1 - k) (by omega)
                      obtain ⟨⟨q0, c0⟩, ⟨q1, c1'⟩, ⟨q2, c2⟩, ⟨q3, c3⟩⟩ := old_cells hown k (by omega)
                      have f0 := hown.frozenAt (k * 4)
                      have f1 := hown.frozenAt (k * 4 + 1)
                      have f2 := hown.frozenAt (k * 4 + 2)
                      have f3 := hown.frozenAt (k * 4 + 3)
                      clear habr he
                      have hst := store4 (x0 := .string nm) (x1 := .string { data := #[] }) (x2 := .int .i64 y) (x3 := .bool r) hown (by rw [chks_length]; simp; have := hnAB.out; omega) hrl hlt
                      have HST : Hid _ := hst
                      clear hst hown hrest
                      go_wp2
                      go_roundw
                      case rel =>
                        refine ⟨k + 1, rest.drop 4, by omega, by go_num, ?_, own_cast HST.out.1 ?_ rfl, grow_trans hgr HST.out.2⟩
                        · simp [hrl]; omega
                        · rw [rev_step ((List.range lenA).map (fA za zr) ++ (List.range lenB).map (fB zb zr lenA)) n k (y, r) (by simp; exact hnAB.out.symm) hlt HYR.out, chks_append, chks_one]; simp [chk]
                      case measure => simp [intOf]; omega
                    · have ek : n = k := by omega
                      subst ek
                      have er : rest = [] := List.eq_nil_of_length_eq_zero (by rw [hrl]; simp)
                      subst er
                      have hlen : ((List.range lenA).map (fA za zr) ++ (List.range lenB).map (fB zb zr lenA)).length = n := by simp; exact hnAB.out.symm
                      have HBA : Hid (wr.ownsRow w.heap.size 30 4 (.slice (some ⟨wC.heap.size, 0, none⟩) n n) n (chks nm (((List.range lenA).map (fA za zr) ++ (List.range lenB).map (fB zb zr lenA)).reverse))) := own_cast hown (by rw [List.take_of_length_le (by simp; have := hnAB.out; omega)]; simp) rfl
                      have HA7 : Hid (wr.ownsRow w.heap.size 2 1 (.slice a1 lenA c1) lenA (za.map (Value.int .i64))) := two_keep hgroww8 hgr HA6.out
                      have HR7 : Hid (wr.ownsRow w.heap.size 4 1 (.slice r1 lenR e1) lenR (zr.map Value.bool)) := two_keep hgroww8 hgr HR6.out
                      have HCa7 : Hid (wr.ownsRow w.heap.size 30 4 vA lenA (chks nm ((List.range lenA).map (fA za zr)))) := two_keep hgroww8 hgr HCa6.out
                      have HCb7 : Hid (wr.ownsRow w.heap.size 30 4 vB lenB (chks nm ((List.range lenB).map (fB zb zr lenA)))) := two_keep hgroww8 hgr HCb6.out
                      have HAB7 : Hid (wr.ownsRow w.heap.size 30 4 (.slice aC n cC) n (chks nm ((List.range lenA).map (fA za zr) ++ (List.range lenB).map (fB zb zr lenA)))) := two_keep hgroww8 hgr HAB6.out
                      have hb9 : Below w.heap.size w wr := (hbC.grown hgroww8 hsC (by simp)).grown hgr (by have := hgroww8.size; omega) (by intro k hk; simp at hk; omega)
                      have hs9 := hb9.size
                      obtain ⟨MA, hMA⟩ : ∃ M, Hid (mt (((List.range lenA).map (fA za zr)).map (·.1)) = M) := ⟨_, rfl⟩
                      obtain ⟨MB, hMB⟩ : ∃ M, Hid (mt (((List.range lenB).map (fB zb zr lenA)).map (·.1)) = M) := ⟨_, rfl⟩
                      have hMW : Hid (mt ((((List.range lenA).map (fA za zr) ++ (List.range lenB).map (fB zb zr lenA))).map (·.1)) = wrap64 (MA + MB)) := by
                        show mt ((((List.range lenA).map (fA za zr) ++ (List.range lenB).map (fB zb zr lenA))).map (·.1)) = wrap64 (MA + MB)
                        rw [← hMA.out, ← hMB.out, mt_tot, mt_tot, mt_tot, tot_append, wrap_add]
                      have hMR : Hid (mt ((((List.range lenA).map (fA za zr) ++ (List.range lenB).map (fB zb zr lenA)).reverse).map (·.1)) = wrap64 (MA + MB)) := by
                        show mt ((((List.range lenA).map (fA za zr) ++ (List.range lenB).map (fB zb zr lenA)).reverse).map (·.1)) = wrap64 (MA + MB)
                        rw [← hMW.out, mt_tot, mt_tot, tot_reverse]
                      clear hown hgr hgroww8 HA6 HR6 HCa6 HCb6 HAB6 hbC hsC hrest hlen hrl
                      go_wp2_with fail
                      refine (maxTime_val _ n nm _ wr w.heap.size _ HAB7.out (by omega) hMW.out).mono ?_
                      rintro e x1 ⟨rfl, hx1⟩
                      have hx1s := hx1.size
                      go_wp2_with fail
                      refine (maxTime_val _ lenA nm _ x1 w.heap.size _ (own_below HCa7.out hx1) (by omega) hMA.out).mono ?_
                      rintro e x2 ⟨rfl, hx2⟩
                      have hx12 : Below wr.heap.size wr x2 := hx1.trans (hx2.mono hx1s)
                      have hx2s := hx12.size
                      go_wp2_with fail
                      refine (maxTime_val _ lenB nm _ x2 w.heap.size _ (own_below HCb7.out hx12) (by omega) hMB.out).mono ?_
                      rintro e x3 ⟨rfl, hx3⟩
                      have hx13 : Below wr.heap.size wr x3 := hx12.trans (hx3.mono hx2s)
                      have hx3s := hx13.size
                      clear hx1 hx2 hx3 hx12 hx1s hx2s
                      go_wp2_with fail
                      refine (maxTime_val _ n nm _ x3 w.heap.size _ (own_below HBA.out hx13) (by omega) hMR.out).mono ?_
                      rintro e x4 ⟨rfl, hx4⟩
                      have hx14 : Below wr.heap.size wr x4 := hx13.trans (hx4.mono hx3s)
                      have hx4s := hx14.size
                      clear hx13 hx4 hx3s
                      go_wp2_with fail
                      refine (maxTime_zero _ _ x4).mono ?_
                      rintro e x5 ⟨rfl, hx5⟩
                      subst hx5
                      go_wp2_with fail
                      refine (maxTime_zero _ _ _).mono ?_
                      rintro e x6 ⟨rfl, hx6⟩
                      subst hx6
                      have HA8 : Hid (x5.ownsRow w.heap.size 2 1 (.slice a1 lenA c1) lenA (za.map (Value.int .i64))) := own_below HA7.out hx14
                      have HR8 : Hid (x5.ownsRow w.heap.size 4 1 (.slice r1 lenR e1) lenR (zr.map Value.bool)) := own_below HR7.out hx14
                      have hb10 : Below w.heap.size w x5 := hb9.trans (hx14.mono hs9)
                      have hs10 := hb10.size
                      clear hx14 hx4s hb9 HA7 HR7 HCa7 HCb7 HAB7 HBA hMA hMB hMW hMR
                      go_wp2
                      go_loopw [19] (fun i wr => ∃ k : Nat, k ≤ lenA ∧ i = .int .i64 k ∧ Hid (wr.ownsRow w.heap.size 2 1 (.slice a1 lenA c1) lenA (za.map (Value.int .i64))) ∧ Hid (wr.ownsRow w.heap.size 4 1 (.slice r1 lenR e1) lenR (zr.map Value.bool)) ∧ Below w.heap.size w wr) (fun i _ => lenA - (intOf i).toNat)
                      case atStart => exact ⟨0, Nat.zero_le _, rfl, HA8.out.alloc _, HR8.out.alloc _, hb10.alloc hs10 _⟩
                      case round =>
                        obtain ⟨k, hk, rfl, HA9, HR9, hbr⟩ := hrel
                        have hsr := hbr.size
                        by_cases hlt : k < lenA
                        · obtain ⟨ga, ca, he, _, _, _, hga⟩ := own_pos HA9.out (by omega)
                          obtain ⟨e1', e2'⟩ := (by simpa using he : a1 = some ⟨ga, 0, none⟩ ∧ c1 = ca)
                          subst e1'
                          subst e2'
                          obtain ⟨y, hy, HY⟩ : ∃ y, wr.cell? ⟨ga, k, none⟩ = some (.int .i64 y) ∧ Hid (y = za.getD k 0) := ⟨_, cell_at 0 HA9.out k hlt, rfl⟩
                          clear he
                          go_wp2_with (first | (go_at_call 10; refine (flag_of r1 lenR e1 k zr _ w.heap.size HR9.out (by omega)).mono ?_; rintro e w' ⟨rfl, rfl⟩) | (go_at_call 9; refine (checkOf_any _ y _ _).mono ?_; rintro e w' ⟨rfl, rfl⟩))
                          refine (maxTime_new w' _ nm y _).mono ?_
                          rintro e y1 ⟨rfl, hy1⟩
                          have hy1s := hy1.size
                          have hy1' : y1.cell? ⟨ga, k, none⟩ = some (.int .i64 y) := by rw [hy1.cell (by exact World.block_lt_of_cell? w' _ hy)]; exact hy
                          go_wp2_with (go_at_call 9; refine (checkOf_any _ y _ _).mono ?_; rintro e w'' ⟨rfl, rfl⟩)
                          refine (maxTime_new y1 _ _ y _).mono ?_
                          rintro e y2 ⟨rfl, hy2⟩
                          have hyy : Below w'.heap.size w' y2 := hy1.trans (hy2.mono hy1s)
                          have F1 : Hid (y2.ownsRow w.heap.size 2 1 (.slice (some ⟨ga, 0, none⟩) lenA c1) lenA (za.map (Value.int .i64))) := own_below HA9.out hyy
                          have F2 : Hid (y2.ownsRow w.heap.size 4 1 (.slice r1 lenR e1) lenR (zr.map Value.bool)) := own_below HR9.out hyy
                          have F3 : Below w.heap.size w y2 := hbr.trans (hyy.mono hsr)
                          clear hy1 hy2 hyy HA9 HR9 hbr
                          go_wp2
                          go_roundw
                          case rel => first | exact ⟨k + 1, by omega, by go_num, F1, F2, F3⟩ | ((repeat apply Exists.intro); exact ⟨⟨k + 1, by omega, by go_num, F1, F2, F3⟩, rfl⟩)
                          case measure => simp [intOf]; omega
                        · go_wp2
                          go_ret
                          exact ⟨rfl, hbr⟩
end Go.Proofs.Qxb6001683a
