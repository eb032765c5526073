/-
  zzFiles (18): a row of files, 34 cells each.
-/
import Derived.Test.Qxb6001683aSums
namespace Go.Proofs.Qxb6001683a
open Go.RowKit
set_option linter.unusedVariables false
set_option linter.unusedSimpArgs false

/-- a file: its path, its link flag, the bytes of its sum -/
structure FileD where
  path : ByteArray
  link : Bool
  sum : List Int

def fcells (f : FileD) : List Value := .string f.path :: .bool f.link :: f.sum.map (Value.int .u8)
def frow (fs : List FileD) : List Value := fs.flatMap fcells
def fileAt (ps : List ByteArray) (ls : List Bool) (zs : List Int) (k : Nat) : FileD := ⟨ps.getD k ByteArray.empty, ls.getD k false, (zs.drop (k * 32)).take 32⟩
def files (n : Nat) (ps : List ByteArray) (ls : List Bool) (zs : List Int) : List FileD := (List.range n).map (fileAt ps ls zs)

theorem frow_append (a b : List FileD) : frow (a ++ b) = frow a ++ frow b := by simp [frow]
theorem frow_one (f : FileD) : frow [f] = fcells f := by simp [frow]
theorem frow_length (fs : List FileD) (h : ∀ f ∈ fs, f.sum.length = 32) : (frow fs).length = fs.length * 34 := by
  induction fs with
  | nil => rfl
  | cons f fs ih =>
    have e : frow (f :: fs) = fcells f ++ frow fs := by simp [frow]
    rw [e, List.length_append, ih (fun x hx => h x (by simp [hx]))]
    simp [fcells, h f (by simp)]
    omega
theorem files_take (n k : Nat) (ps : List ByteArray) (ls : List Bool) (zs : List Int) (hk : k < n) : files (k + 1) ps ls zs = files k ps ls zs ++ [fileAt ps ls zs k] := by
  unfold files; rw [List.range_succ, List.map_append]; rfl
theorem files_sum (n : Nat) (ps : List ByteArray) (ls : List Bool) (zs : List Int) (hz : zs.length = n * 32) : ∀ f ∈ files n ps ls zs, f.sum.length = 32 := by
  intro f hf
  obtain ⟨k, hk, rfl⟩ := List.mem_map.1 hf
  have := List.mem_range.1 hk
  simp [fileAt]
  omega

theorem info51 : (Try.prog.info? 51).map (fun i => (i.zero, i.size, i.bytes)) = some (some (.agg (#[.string ByteArray.empty, .bool false] ++ Array.replicate 32 (.int .u8 0))), 34, 56) := by kernel_rfl

set_option maxHeartbeats 1000000 in
theorem files_zero (a0 a1 a2 : Option Addr) (c0 n1 c1 n2 c2 : Nat) (w : World) : Calls Try.prog 18 #[.slice a0 0 c0, .slice a1 n1 c1, .slice a2 n2 c2] w fun e w' => ∃ a' c', e = .returned (.slice a' 0 c') ∧ w'.ownsRow w.heap.size 51 34 (.slice a' 0 c') 0 [] ∧ Below w.heap.size w w' := by
  obtain ⟨i0, hi, hz0, hz1, hz2⟩ := info_parts info51
  go_enter Try.func18, Try.ntmps18
  go_wp2_with (at_make; refine wpList_make_full _ rfl _ _ 41 rfl w.heap.size 51 i0 _ 34 Try.underlying41 hi hz0 hz1 _ _ _ _ 0 rfl rfl rfl rfl (by omega) (by unfold maxLen; omega) (Nat.le_refl _) ?_)
  intro w1 hown1 hgrow1
  have hb1 : Below w.heap.size w w1 := (Below.refl _ _).grown hgrow1 (Nat.le_refl _) (by simp)
  have hown2 : w1.ownsRow w.heap.size 51 34 (.slice (some ⟨w.heap.size, 0, none⟩) 0 0) 0 [] := own_cast hown1 (List.eq_nil_of_length_eq_zero (by have := hown1.1; omega)) rfl
  clear hown1 hgrow1
  go_wp2
  refine wp_loop_rounds 1 ?_
  rw [rounds_succ]
  go_wp2
  go_ret
  exact ⟨_, _, rfl, hown2, hb1⟩

theorem far_cell {w : World} {g g' o o' : Nat} {v u : Value} (h : w.cell? ⟨g', o', none⟩ = some u) (hne : g' ≠ g) : (w.setCell ⟨g, o, none⟩ v).cell? ⟨g', o', none⟩ = some u := by
  rw [World.cell?_setCell_other _ _ _ _ (by intro e; exact hne (by simpa using (congrArg Addr.block e).symm))]
  exact h

theorem app_step (A rest vs : List Value) (m : Nat) (h : A.length = m) : (A ++ rest).take m ++ (vs ++ (A ++ rest).drop (m + vs.length)) = (A ++ vs) ++ rest.drop vs.length := by
  subst h
  rw [List.take_append_of_le_length (Nat.le_refl _), List.take_of_length_le (Nat.le_refl _), List.drop_append, List.drop_eq_nil_of_le (by omega)]
  simp

set_option maxHeartbeats 2000000 in
theorem files_some (g0 c0 g1 c1 g2 c2 n : Nat) (ps : List ByteArray) (ls : List Bool) (zs : List Int) (w : World) (B : Nat) (hn : n ≤ 65536) (h0 : w.ownsRow B 9 1 (.slice (some ⟨g0, 0, none⟩) n c0) n (ps.map Value.string)) (h1 : w.ownsRow B 4 1 (.slice (some ⟨g1, 0, none⟩) n c1) n (ls.map Value.bool))
    (h2 : w.ownsRow B 49 32 (.slice (some ⟨g2, 0, none⟩) n c2) n (zs.map (Value.int .u8))) :
    Calls Try.prog 18 #[.slice (some ⟨g0, 0, none⟩) n c0, .slice (some ⟨g1, 0, none⟩) n c1, .slice (some ⟨g2, 0, none⟩) n c2] w fun e w' => ∃ a' c', e = .returned (.slice a' n c') ∧ w'.ownsRow w.heap.size 51 34 (.slice a' n c') n (frow (files n ps ls zs)) ∧ Below w.heap.size w w' := by
  obtain ⟨i0, hi, hz0, hz1, hz2⟩ := info_parts info51
  have H0 : Hid (w.ownsRow B 9 1 (.slice (some ⟨g0, 0, none⟩) n c0) n (ps.map Value.string)) := h0
  have H1 : Hid (w.ownsRow B 4 1 (.slice (some ⟨g1, 0, none⟩) n c1) n (ls.map Value.bool)) := h1
  have H2 : Hid (w.ownsRow B 49 32 (.slice (some ⟨g2, 0, none⟩) n c2) n (zs.map (Value.int .u8))) := h2
  have hzl : Hid (zs.length = n * 32) := by show zs.length = n * 32; simpa using h2.1
  have b0 := (h0.lt g0 rfl).2
  have b1 := (h1.lt g1 rfl).2
  have b2 := (h2.lt g2 rfl).2
  clear h0 h1 h2
  go_enter Try.func18, Try.ntmps18
  go_wp2_with (at_make; refine wpList_make_full _ rfl _ _ 41 rfl w.heap.size 51 i0 _ 34 Try.underlying41 hi hz0 hz1 _ _ _ _ n rfl rfl rfl rfl (by rw [hz2]; omega) (by unfold maxLen; omega) (Nat.le_refl _) ?_)
  intro w1 hown1 hgrow1
  have hb1 : Below w.heap.size w w1 := (Below.refl _ _).grown hgrow1 (Nat.le_refl _) (by simp)
  have hex : ∃ rest, rest.length = (n - 0) * 34 ∧ w1.ownsRow w.heap.size 51 34 (.slice (some ⟨w.heap.size, 0, none⟩) n n) n (frow (files 0 ps ls zs) ++ rest) := ⟨_, hown1.1, own_cast hown1 (by simp [files, frow]) rfl⟩
  clear hown1 hgrow1
  go_wp2
  go_loopw [8] (fun i wr => ∃ (k : Nat) (rest : List Value), k ≤ n ∧ i = .int .i64 k ∧ rest.length = (n - k) * 34 ∧ wr.ownsRow w.heap.size 51 34 (.slice (some ⟨w.heap.size, 0, none⟩) n n) n (frow (files k ps ls zs) ++ rest) ∧ Below w.heap.size w wr) (fun i _ => n - (intOf i).toNat)
  case atStart => obtain ⟨rest, hr1, hr2⟩ := hex; exact ⟨0, rest, Nat.zero_le _, rfl, hr1, hr2, hb1⟩
  case round =>
    obtain ⟨k, rest, hk, rfl, hrl, hown, hb⟩ := hrel
    by_cases hlt : k < n
    · have o0 := own_below H0.out (hb)
      have o1 := own_below H1.out (hb)
      have o2 := own_below H2.out (hb)
      have ks := hb.size
      obtain ⟨p, hp, HP⟩ : ∃ p, wr.cell? ⟨g0, k, none⟩ = some (.string p) ∧ Hid (p = ps.getD k ByteArray.empty) := by
        have hl : ps.length = n := by simpa using o0.1
        exact ⟨_, by rw [o0.cellAt k (by omega), List.getElem?_map, List.getElem?_eq_getElem (by omega)]; rfl, by show _ = _; simp [List.getD, show k < ps.length by omega]⟩
      obtain ⟨l, hl0, HLk⟩ : ∃ l, wr.cell? ⟨g1, k, none⟩ = some (.bool l) ∧ Hid (l = ls.getD k false) := by
        have hl : ls.length = n := by simpa using o1.1
        exact ⟨_, by rw [o1.cellAt k (by omega), List.getElem?_map, List.getElem?_eq_getElem (by omega)]; rfl, by show _ = _; simp [List.getD, show k < ls.length by omega]⟩
      have hl1 := far_cell (g := w.heap.size) (o := k * 34) (v := .string p) hl0 (by omega)
      obtain ⟨cs, HCS, HCL⟩ : ∃ cs : List Value, Hid (cs = ((zs.drop (k * 32)).take 32).map (Value.int .u8)) ∧ Hid (cs.length = 32) := ⟨_, rfl, by have := hzl.out; show _ = _; simp; omega⟩
      obtain ⟨q0, hq0⟩ : ∃ q, wr.cell? ⟨w.heap.size, k * 34, none⟩ = some q := by
        have hl := hown.1
        exact ⟨_, by rw [hown.cellAt (k * 34) (by omega), List.getElem?_eq_getElem (by omega)]⟩
      obtain ⟨q1, hq1⟩ : ∃ q, wr.cell? ⟨w.heap.size, k * 34 + 1, none⟩ = some q := by
        have hl := hown.1
        exact ⟨_, by rw [hown.cellAt (k * 34 + 1) (by omega), List.getElem?_eq_getElem (by omega)]⟩
      have f0 := hown.frozenAt (k * 34)
      have f1 := hown.frozenAt (k * 34 + 1)
      have s1 := hown.stored (k * 34) (.string p)
      have s2 := s1.1.stored (k * 34 + 1) (.bool l)
      have HT : Hid (((wr.setCell ⟨w.heap.size, k * 34, none⟩ (.string p)).setCell ⟨w.heap.size, k * 34 + 1, none⟩ (.bool l)).there w.heap.size (k * 34 + 2) cs.toArray.size) := by
        have h := own_there s2.1 (k * 34 + 2) 32 (by omega)
        show World.there _ _ _ _
        have e : cs.toArray.size = 32 := by simpa using HCL.out
        rw [e]; exact h
      have HR : Hid (((wr.setCell ⟨w.heap.size, k * 34, none⟩ (.string p)).setCell ⟨w.heap.size, k * 34 + 1, none⟩ (.bool l)).rangeAt g2 (k * 32) cs) := by
        have h := own_range o2 (k * 32) 32 (by omega)
        rw [← List.map_drop, ← List.map_take, ← HCS.out] at h
        intro j v hv
        exact far_cell (far_cell (h j v hv) (by omega)) (by omega)
      have HI : Hid ((Try.prog.info? 49).map (·.size) = some cs.length) := by show _ = _; rw [HCL.out]; exact size49
      have HI' : Hid ((Try.prog.info? 49).map (·.size) = some cs.toArray.size) := by show _ = _; have e : cs.toArray.size = 32 := by simpa using HCL.out
                                                                                     rw [e]; exact size49
      have HO : Hid (cs.toArray.all (·.oneCell') = true) := all_oneCell_toArray (by rw [HCS.out]; exact ints_oneCell _ _)
      have HW : Hid (wr.ownsRow w.heap.size 51 34 (.slice (some ⟨w.heap.size, 0, none⟩) n n) n (frow (files k ps ls zs) ++ rest)) := hown
      clear o0 o1 o2 s1 s2 hown hex
      go_wp2_with (first | (refine wpList_load_mid rfl 49 (.tmp 38) rfl g2 (k * 32) rfl cs _ HR.out Try.underlying49 rfl HI.out ?_) | (refine wpList_store_mid rfl 49 (.tmp 41) (.tmp 39) rfl w.heap.size (k * 34 + 2) cs.toArray rfl rfl HT.out HI'.out HO.out ?_))
      go_roundw
      case rel =>
        have hs := own_setCells (.string p :: .bool l :: cs) wr _ (k * 34) HW.out (by have := HCL.out; simp; omega)
        have hvl : (Value.string p :: Value.bool l :: cs).length = 34 := by have := HCL.out; simp; omega
        have hfl : (frow (files k ps ls zs)).length = k * 34 := by
          have hh := HW.out.1
          rw [List.length_append, hrl] at hh
          omega
        refine ⟨k + 1, rest.drop 34, by omega, by go_num, by simp [hrl]; omega, ?_, hb.grown hs.2 hb.size (by intro k hk; simp at hk; omega)⟩
        refine own_cast hs.1 ?_ rfl
        rw [app_step _ _ _ _ hfl, hvl, files_take n k ps ls zs hlt, frow_append, frow_one]
        have e : fcells (fileAt ps ls zs k) = .string p :: .bool l :: cs := by rw [HP.out, HLk.out, HCS.out]; rfl
        rw [e]
      case measure => simp [intOf]; omega
    · have ek : n = k := by omega
      subst ek
      have er : rest = [] := List.eq_nil_of_length_eq_zero (by rw [hrl]; simp)
      subst er
      have R := own_cast hown (show _ = frow (files n ps ls zs) by rw [List.append_nil]) rfl
      clear hown
      go_wp2
      go_ret
      exact ⟨_, _, rfl, R, hb⟩

/-- a row of files out of three rows -/
theorem files_any (a0 a1 a2 : Option Addr) (n c0 c1 c2 : Nat) (ps : List ByteArray) (ls : List Bool) (zs : List Int) (w : World) (B : Nat) (hn : n ≤ 65536) (h0 : w.ownsRow B 9 1 (.slice a0 n c0) n (ps.map Value.string)) (h1 : w.ownsRow B 4 1 (.slice a1 n c1) n (ls.map Value.bool))
    (h2 : w.ownsRow B 49 32 (.slice a2 n c2) n (zs.map (Value.int .u8))) :
    Calls Try.prog 18 #[.slice a0 n c0, .slice a1 n c1, .slice a2 n c2] w fun e w' => ∃ a' c', e = .returned (.slice a' n c') ∧ w'.ownsRow w.heap.size 51 34 (.slice a' n c') n (frow (files n ps ls zs)) ∧ Below w.heap.size w w' := by
  by_cases h0n : n = 0
  · subst h0n
    exact files_zero a0 a1 a2 c0 0 c1 0 c2 w
  · obtain ⟨g0, d0, e0, _⟩ := own_pos h0 (by omega)
    obtain ⟨rfl, rfl⟩ := (by simpa using e0 : a0 = some ⟨g0, 0, none⟩ ∧ c0 = d0)
    obtain ⟨g1, d1, e1, _⟩ := own_pos h1 (by omega)
    obtain ⟨rfl, rfl⟩ := (by simpa using e1 : a1 = some ⟨g1, 0, none⟩ ∧ c1 = d1)
    obtain ⟨g2, d2, e2, _⟩ := own_pos h2 (by omega)
    obtain ⟨rfl, rfl⟩ := (by simpa using e2 : a2 = some ⟨g2, 0, none⟩ ∧ c2 = d2)
    exact files_some g0 c0 g1 c1 g2 c2 n ps ls zs w B hn h0 h1 h2
end Go.Proofs.Qxb6001683a
