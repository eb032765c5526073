/-
  FnChangedAgreesWithModel (4): the walk.
-/
import Derived.Test.Qxb6001683aMdl
namespace Go.Proofs.Qxb6001683a
open Go.RowKit
set_option linter.unusedVariables false
set_option linter.unusedSimpArgs false

theorem files_ok {n : Nat} {ps : List ByteArray} {ls : List Bool} {zs : List Int} (hl : ps.length = n) (hz : zs.length = n * 32) (hp : ∀ s ∈ ps, s.size ≤ maxLen) (hw : ∀ z ∈ zs, (Lit.int .u8 z).wf = true) : FilesOK (files n ps ls zs) := by
  intro f hf
  have hs := files_sum n ps ls zs hz f hf
  unfold files at hf
  obtain ⟨k, hk, rfl⟩ := List.mem_map.1 hf
  have hk' : k < n := List.mem_range.1 hk
  refine ⟨⟨hs, fun z h => hw z (List.mem_of_mem_drop (List.mem_of_mem_take h))⟩, ?_⟩
  show (ps.getD k ByteArray.empty).size ≤ maxLen
  rw [List.getD_eq_getElem?_getD, List.getElem?_eq_getElem (by omega)]
  exact hp _ (List.getElem_mem _)

theorem files_length (n : Nat) (ps : List ByteArray) (ls : List Bool) (zs : List Int) : (files n ps ls zs).length = n := by simp [files]

/-- a rising row: each path is below every later one -/
theorem rise {n : Nat} {ps : List ByteArray} (h : ∀ i, i + 1 < n → lessB (ps.getD i ByteArray.empty) (ps.getD (i + 1) ByteArray.empty) = true) : ∀ (d i : Nat), i + d + 1 < n → lessB (ps.getD i ByteArray.empty) (ps.getD (i + d + 1) ByteArray.empty) = true := by
  intro d
  induction d with
  | zero => intro i hi; exact h i hi
  | succ d ih => intro i hi; exact byteLO.trans _ _ _ (ih i (by omega)) (h (i + d + 1) (by omega))

theorem files_inc {n : Nat} {ps : List ByteArray} {ls : List Bool} {zs : List Int} (h : ∀ i, i + 1 < n → lessB (ps.getD i ByteArray.empty) (ps.getD (i + 1) ByteArray.empty) = true) : Inc Op.bytesLess fkey (files n ps ls zs) := by
  unfold Inc files
  rw [List.pairwise_map, List.pairwise_iff_getElem]
  intro i j hi hj hij
  simp only [List.length_range] at hi hj
  simp only [List.getElem_range]
  have := rise h (j - i - 1) i (by omega)
  rw [show i + (j - i - 1) + 1 = j by omega] at this
  exact this

theorem getD_path (l : List FileD) (k : Nat) (hk : k < l.length) : (l.map FileD.path).getD k ByteArray.empty = l[k].path := by
  simp [List.getD_eq_getElem?_getD, hk]

theorem same_files (v1 v2 : Value) (k1 k2 : Nat) (l1 l2 : List FileD) (w : World) (B : Nat) (h1 : w.ownsRow B 9 1 v1 k1 (strs l1)) (h2 : w.ownsRow B 9 1 v2 k2 (strs l2)) (he : l1.map fkey = l2.map fkey) (hl : l2.length ≤ 65536) :
    Calls Try.prog 21 #[v1, v2] w fun e w' => e = .returned (.bool true) ∧ Below w.heap.size w w' := by
  have e1 : l1.length = k1 := by simpa [strs] using h1.1
  have e2 : l2.length = k2 := by simpa [strs] using h2.1
  have e3 : l1.length = l2.length := by simpa using congrArg List.length he
  obtain rfl : k1 = k2 := by omega
  by_cases h0 : k1 = 0
  · subst h0
    obtain ⟨a, c, rfl⟩ := own_shape h1
    obtain ⟨a', c', rfl⟩ := own_shape h2
    refine (sameS_zero a a' c c' w).mono ?_
    rintro e w' ⟨rfl, rfl⟩
    exact ⟨rfl, Below.refl _ _⟩
  · obtain ⟨g, c, rfl, _⟩ := own_pos h1 (by omega)
    obtain ⟨g', c', rfl, _⟩ := own_pos h2 (by omega)
    refine (sameS_eq g c g' c' k1 (l1.map FileD.path) (l2.map FileD.path) w (by omega) ?_ ?_ ?_).mono ?_
    · intro k hk
      rw [getD_path l1 k (by omega), getD_path l2 k (by omega)]
      have := congrArg (fun l => l[k]?) he
      simp only [List.getElem?_map, List.getElem?_eq_getElem (show k < l1.length by omega), List.getElem?_eq_getElem (show k < l2.length by omega), Option.map_some] at this
      exact Option.some.inj this
    · intro k hk
      rw [h1.cellAt k (by omega), getD_path l1 k (by omega)]
      exact strs_get (List.getElem?_eq_getElem (by omega))
    · intro k hk
      rw [h2.cellAt k (by omega), getD_path l2 k (by omega)]
      exact strs_get (List.getElem?_eq_getElem (by omega))
    · rintro e w' ⟨rfl, q, rfl⟩
      exact ⟨rfl, below_d (Below.refl _ _) q⟩

theorem rowIn_d {α : Type} {C : α → Value} {d : α} {w : World} {a : Option Addr} {len : Nat} {zs : List α} (h : RowIn C d w a len zs) (q : Nat) : RowIn C d (w.drewN q) a len zs := h

set_option maxRecDepth 100000 in
set_option maxHeartbeats 8000000 in
theorem chg_any (a0 : Option Addr) (n0 c0 : Nat) (z0 : List ByteArray) (a1 : Option Addr) (n1 c1 : Nat) (z1 : List Bool) (a2 : Option Addr) (n2 c2 : Nat) (z2 : List Int) (a3 : Option Addr) (n3 c3 : Nat) (z3 : List ByteArray) (a4 : Option Addr) (n4 c4 : Nat) (z4 : List Bool) (a5 : Option Addr) (n5 c5 : Nat) (z5 : List Int) (w : World)
    (h0 : RowIn Value.string ByteArray.empty w a0 n0 z0) (h1 : RowIn Value.bool false w a1 n1 z1) (h2 : RowFlat 32 w a2 n2 (z2.map (Value.int .u8))) (h3 : RowIn Value.string ByteArray.empty w a3 n3 z3) (h4 : RowIn Value.bool false w a4 n4 z4) (h5 : RowFlat 32 w a5 n5 (z5.map (Value.int .u8)))
    (p0 : ∀ s ∈ z0, s.size ≤ maxLen) (p3 : ∀ s ∈ z3, s.size ≤ maxLen) (p2 : ∀ z ∈ z2, (Lit.int .u8 z).wf = true) (p5 : ∀ z ∈ z5, (Lit.int .u8 z).wf = true) :
    Calls Try.prog 4 #[.slice a0 n0 c0, .slice a1 n1 c1, .slice a2 n2 c2, .slice a3 n3 c3, .slice a4 n4 c4, .slice a5 n5 c5] w fun e w' => e = .returned (.bool true) ∧ Below w.heap.size w w' := by
  have H0 : Hid (RowIn Value.string ByteArray.empty w a0 n0 z0) := h0
  have H1 : Hid (RowIn Value.bool false w a1 n1 z1) := h1
  have H2 : Hid (RowFlat 32 w a2 n2 (z2.map (Value.int .u8))) := h2
  have H3 : Hid (RowIn Value.string ByteArray.empty w a3 n3 z3) := h3
  have H4 : Hid (RowIn Value.bool false w a4 n4 z4) := h4
  have H5 : Hid (RowFlat 32 w a5 n5 (z5.map (Value.int .u8))) := h5
  have P0 : Hid (∀ s ∈ z0, s.size ≤ maxLen) := p0
  have P3 : Hid (∀ s ∈ z3, s.size ≤ maxLen) := p3
  have P2 : Hid (∀ z ∈ z2, (Lit.int .u8 z).wf = true) := p2
  have P5 : Hid (∀ z ∈ z5, (Lit.int .u8 z).wf = true) := p5
  clear h0 h1 h2 h3 h4 h5 p0 p2 p3 p5
  go_enter Try.func4, Try.ntmps4
  go_wp2_with fail
  refine (zz12_any a0 n0 c0 z0 a1 n1 c1 a2 n2 c2 a3 n3 c3 z3 a4 n4 c4 a5 n5 c5 w H0.out H3.out).mono ?_
  rintro e w' ⟨⟨b, rfl⟩, rfl⟩
  cases b
  · go_wp2
    go_ret
    exact ⟨rfl, Below.refl _ _⟩
  go_wp2_with fail
  refine (changedBytes_any a0 n0 c0 z0 a1 n1 c1 a2 n2 c2 a3 n3 c3 z3 a4 n4 c4 a5 n5 c5 w H0.out H3.out).mono ?_
  rintro e w' ⟨⟨z, rfl⟩, rfl⟩
  by_cases hz : 1048576 < z
  · go_wp2
    go_ret
    exact ⟨rfl, Below.refl _ _⟩
  go_wp2_with fail
  refine (sideOK_any a0 n0 c0 z0 a1 n1 c1 a2 n2 c2 w H0.out).mono ?_
  rintro e wA ⟨⟨b, rfl, hb⟩, hq⟩
  have belA : Below w.heap.size w wA := by obtain ⟨q, rfl⟩ := hq; exact below_d (Below.refl _ _) q
  clear hq
  cases b
  · go_wp2
    go_ret
    exact ⟨rfl, belA⟩
  obtain ⟨k0, e1, e2, hI⟩ := hb rfl
  have HI0 : Hid (∀ i, i + 1 < n0 → lessB (z0.getD i ByteArray.empty) (z0.getD (i + 1) ByteArray.empty) = true) := hI
  obtain rfl : n0 = n1 := e1.symm
  obtain rfl : n0 = n2 := e2.symm
  clear e1 e2 hI hb
  go_wp2_with fail
  refine (sideOK_any a3 n3 c3 z3 a4 n4 c4 a5 n5 c5 wA (rowIn_below H3.out belA)).mono ?_
  rintro e wB ⟨⟨b, rfl, hb⟩, hq⟩
  have belB : Below w.heap.size w wB := by obtain ⟨q, rfl⟩ := hq; exact below_d belA q
  clear hq belA
  cases b
  · go_wp2
    go_ret
    exact ⟨rfl, belB⟩
  obtain ⟨k3, e1, e2, hI⟩ := hb rfl
  have HI3 : Hid (∀ i, i + 1 < n3 → lessB (z3.getD i ByteArray.empty) (z3.getD (i + 1) ByteArray.empty) = true) := hI
  obtain rfl : n3 = n4 := e1.symm
  obtain rfl : n3 = n5 := e2.symm
  clear e1 e2 hI hb
  have hsB := belB.size
  go_wp2_with fail
  refine (cloneS_any a0 n0 c0 z0 wB (rowIn_below H0.out belB) (by omega)).mono ?_
  rintro e w0 ⟨b0, d0, rfl, o0, t0⟩
  have bel0 : Below w.heap.size w w0 := belB.trans (t0.mono hsB)
  have hs0 := bel0.size
  have O0_0 : Hid (w0.ownsRow w.heap.size 9 1 (.slice b0 n0 d0) n0 (z0.map Value.string)) := own_base o0 hsB
  clear o0 t0
  go_wp2_with fail
  refine (cloneB_any a1 n0 c1 z1 w0 (rowIn_below H1.out bel0) (by omega)).mono ?_
  rintro e w1 ⟨b1, d1, rfl, o1, t1⟩
  have bel1 : Below w.heap.size w w1 := bel0.trans (t1.mono hs0)
  have hs1 := bel1.size
  have O1_1 : Hid (w1.ownsRow w.heap.size 4 1 (.slice b1 n0 d1) n0 (z1.map Value.bool)) := own_base o1 hs0
  have O0_1 : Hid (w1.ownsRow w.heap.size 9 1 (.slice b0 n0 d0) n0 (z0.map Value.string)) := own_below O0_0.out t1
  clear O0_0
  clear o1 t1
  go_wp2_with fail
  refine (sums_any a2 n0 c2 (z2.map (Value.int .u8)) w1 (rowFlat_below H2.out bel1) (by omega)).mono ?_
  rintro e w2 ⟨b2, d2, rfl, o2, t2⟩
  have bel2 : Below w.heap.size w w2 := bel1.trans (t2.mono hs1)
  have hs2 := bel2.size
  have O2_2 : Hid (w2.ownsRow w.heap.size 49 32 (.slice b2 n0 d2) n0 (z2.map (Value.int .u8))) := own_base o2 hs1
  have O0_2 : Hid (w2.ownsRow w.heap.size 9 1 (.slice b0 n0 d0) n0 (z0.map Value.string)) := own_below O0_1.out t2
  have O1_2 : Hid (w2.ownsRow w.heap.size 4 1 (.slice b1 n0 d1) n0 (z1.map Value.bool)) := own_below O1_1.out t2
  clear O0_1 O1_1
  clear o2 t2
  go_wp2_with fail
  refine (cloneS_any a3 n3 c3 z3 w2 (rowIn_below H3.out bel2) (by omega)).mono ?_
  rintro e w3 ⟨b3, d3, rfl, o3, t3⟩
  have bel3 : Below w.heap.size w w3 := bel2.trans (t3.mono hs2)
  have hs3 := bel3.size
  have O3_3 : Hid (w3.ownsRow w.heap.size 9 1 (.slice b3 n3 d3) n3 (z3.map Value.string)) := own_base o3 hs2
  have O0_3 : Hid (w3.ownsRow w.heap.size 9 1 (.slice b0 n0 d0) n0 (z0.map Value.string)) := own_below O0_2.out t3
  have O1_3 : Hid (w3.ownsRow w.heap.size 4 1 (.slice b1 n0 d1) n0 (z1.map Value.bool)) := own_below O1_2.out t3
  have O2_3 : Hid (w3.ownsRow w.heap.size 49 32 (.slice b2 n0 d2) n0 (z2.map (Value.int .u8))) := own_below O2_2.out t3
  clear O0_2 O1_2 O2_2
  clear o3 t3
  go_wp2_with fail
  refine (cloneB_any a4 n3 c4 z4 w3 (rowIn_below H4.out bel3) (by omega)).mono ?_
  rintro e w4 ⟨b4, d4, rfl, o4, t4⟩
  have bel4 : Below w.heap.size w w4 := bel3.trans (t4.mono hs3)
  have hs4 := bel4.size
  have O4_4 : Hid (w4.ownsRow w.heap.size 4 1 (.slice b4 n3 d4) n3 (z4.map Value.bool)) := own_base o4 hs3
  have O0_4 : Hid (w4.ownsRow w.heap.size 9 1 (.slice b0 n0 d0) n0 (z0.map Value.string)) := own_below O0_3.out t4
  have O1_4 : Hid (w4.ownsRow w.heap.size 4 1 (.slice b1 n0 d1) n0 (z1.map Value.bool)) := own_below O1_3.out t4
  have O2_4 : Hid (w4.ownsRow w.heap.size 49 32 (.slice b2 n0 d2) n0 (z2.map (Value.int .u8))) := own_below O2_3.out t4
  have O3_4 : Hid (w4.ownsRow w.heap.size 9 1 (.slice b3 n3 d3) n3 (z3.map Value.string)) := own_below O3_3.out t4
  clear O0_3 O1_3 O2_3 O3_3
  clear o4 t4
  go_wp2_with fail
  refine (sums_any a5 n3 c5 (z5.map (Value.int .u8)) w4 (rowFlat_below H5.out bel4) (by omega)).mono ?_
  rintro e w5 ⟨b5, d5, rfl, o5, t5⟩
  have bel5 : Below w.heap.size w w5 := bel4.trans (t5.mono hs4)
  have hs5 := bel5.size
  have O5_5 : Hid (w5.ownsRow w.heap.size 49 32 (.slice b5 n3 d5) n3 (z5.map (Value.int .u8))) := own_base o5 hs4
  have O0_5 : Hid (w5.ownsRow w.heap.size 9 1 (.slice b0 n0 d0) n0 (z0.map Value.string)) := own_below O0_4.out t5
  have O1_5 : Hid (w5.ownsRow w.heap.size 4 1 (.slice b1 n0 d1) n0 (z1.map Value.bool)) := own_below O1_4.out t5
  have O2_5 : Hid (w5.ownsRow w.heap.size 49 32 (.slice b2 n0 d2) n0 (z2.map (Value.int .u8))) := own_below O2_4.out t5
  have O3_5 : Hid (w5.ownsRow w.heap.size 9 1 (.slice b3 n3 d3) n3 (z3.map Value.string)) := own_below O3_4.out t5
  have O4_5 : Hid (w5.ownsRow w.heap.size 4 1 (.slice b4 n3 d4) n3 (z4.map Value.bool)) := own_below O4_4.out t5
  clear O0_4 O1_4 O2_4 O3_4 O4_4
  clear o5 t5
  have L2 : Hid (z2.length = n0 * 32) := by show _ = _; have := H2.out.1; simpa using this
  have L5 : Hid (z5.length = n3 * 32) := by show _ = _; have := H5.out.1; simpa using this
  have L0 : Hid (z0.length = n0) := H0.out.1
  have L3 : Hid (z3.length = n3) := H3.out.1
  go_wp2_with fail
  refine (files_any b0 b1 b2 n0 d0 d1 d2 z0 z1 z2 w5 w.heap.size (by omega) O0_5.out O1_5.out O2_5.out).mono ?_
  rintro e w6 ⟨b6, d6, rfl, o6, t6⟩
  have bel6 : Below w.heap.size w w6 := bel5.trans (t6.mono hs5)
  have hs6 := bel6.size
  have O3_6 := own_below O3_5.out t6
  have O4_6 := own_below O4_5.out t6
  have O5_6 := own_below O5_5.out t6
  have HO6 : Hid (w6.ownsRow w.heap.size 51 34 (.slice b6 n0 d6) n0 (frow (files n0 z0 z1 z2))) := own_base o6 hs5
  have H36 : Hid (w6.ownsRow w.heap.size 9 1 (.slice b3 n3 d3) n3 (z3.map Value.string)) := O3_6
  have H46 : Hid (w6.ownsRow w.heap.size 4 1 (.slice b4 n3 d4) n3 (z4.map Value.bool)) := O4_6
  have H56 : Hid (w6.ownsRow w.heap.size 49 32 (.slice b5 n3 d5) n3 (z5.map (Value.int .u8))) := O5_6
  clear o6 t6 O3_6 O4_6 O5_6 O0_5 O1_5 O2_5 O3_5 O4_5 O5_5
  go_wp2_with fail
  refine (files_any b3 b4 b5 n3 d3 d4 d5 z3 z4 z5 w6 w.heap.size (by omega) H36.out H46.out H56.out).mono ?_
  rintro e w7 ⟨b7, d7, rfl, o7, t7⟩
  have bel7 : Below w.heap.size w w7 := bel6.trans (t7.mono hs6)
  have hs7 := bel7.size
  have HO7 : Hid (w7.ownsRow w.heap.size 51 34 (.slice b7 n3 d7) n3 (frow (files n3 z3 z4 z5))) := own_base o7 hs6
  have HO67 : Hid (w7.ownsRow w.heap.size 51 34 (.slice b6 n0 d6) n0 (frow (files n0 z0 z1 z2))) := own_below HO6.out t7
  have K0 : Hid (FilesOK (files n0 z0 z1 z2)) := files_ok L0.out L2.out P0.out P2.out
  have K3 : Hid (FilesOK (files n3 z3 z4 z5)) := files_ok L3.out L5.out P3.out P5.out
  clear o7 t7 HO6 H36 H46 H56
  go_wp2_with fail
  refine (changed_any b6 n0 d6 b7 n3 d7 (files n0 z0 z1 z2) (files n3 z3 z4 z5) w7 w.heap.size HO67.out HO7.out K0.out K3.out (files_length _ _ _ _) (files_length _ _ _ _) k0 k3 hs7).mono ?_
  rintro e w8 ⟨v8, k8, rfl, o8, t8⟩
  have bel8 : Below w.heap.size w w8 := bel7.trans (t8.mono hs7)
  have hs8 := bel8.size
  have HO8 : Hid (w8.ownsRow w.heap.size 9 1 v8 k8 (strs (merged ((files n0 z0 z1 z2).length + (files n3 z3 z4 z5).length) (files n0 z0 z1 z2) (files n3 z3 z4 z5)))) := own_base o8 hs7
  have HO78 : Hid (w8.ownsRow w.heap.size 51 34 (.slice b7 n3 d7) n3 (frow (files n3 z3 z4 z5))) := own_below HO7.out t8
  have HO68 : Hid (w8.ownsRow w.heap.size 51 34 (.slice b6 n0 d6) n0 (frow (files n0 z0 z1 z2))) := own_below HO67.out t8
  clear o8 t8 HO7 HO67
  go_wp2_with fail
  refine (model_any b6 n0 d6 b7 n3 d7 (files n0 z0 z1 z2) (files n3 z3 z4 z5) w8 w.heap.size HO68.out HO78.out K0.out K3.out (files_length _ _ _ _) (files_length _ _ _ _) k0 k3 hs8).mono ?_
  rintro e w9 ⟨v9, k9, s, rfl, o9, t9, HS⟩
  have bel9 : Below w.heap.size w w9 := bel8.trans (t9.mono hs8)
  have HO9 : Hid (w9.ownsRow w.heap.size 9 1 v9 k9 (strs s)) := own_base o9 hs8
  have HO89 : Hid (w9.ownsRow w.heap.size 9 1 v8 k8 (strs (merged ((files n0 z0 z1 z2).length + (files n3 z3 z4 z5).length) (files n0 z0 z1 z2) (files n3 z3 z4 z5)))) := own_below HO8.out t9
  have HE : Hid ((merged ((files n0 z0 z1 z2).length + (files n3 z3 z4 z5).length) (files n0 z0 z1 z2) (files n3 z3 z4 z5)).map fkey = s.map fkey) :=
    sorted_eq byteLO (files_inc HI0.out) (files_inc HI3.out) (Nat.le_refl _) HS.out.1 HS.out.2
  have HL : Hid (s.length ≤ 65536) := by
    show s.length ≤ 65536
    have := HS.out.1.length_eq
    rw [this]
    unfold cands cand
    have l1 := List.length_filter_le (pW fkey fsame (files n3 z3 z4 z5)) (files n0 z0 z1 z2)
    have l2 := List.length_filter_le (qW fkey (files n0 z0 z1 z2)) (files n3 z3 z4 z5)
    rw [files_length] at l1 l2
    rw [List.length_append]
    omega
  clear o9 t9 HO8 HO78 HO68 HS
  go_wp2_with fail
  refine (same_files v8 v9 k8 k9 _ s w9 w.heap.size HO89.out HO9.out HE.out HL.out).mono ?_
  rintro e w10 ⟨rfl, t10⟩
  go_wp2
  go_ret
  exact ⟨rfl, bel9.trans (t10.mono bel9.size)⟩
end Go.Proofs.Qxb6001683a
