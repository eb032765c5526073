/-
  zzCloneSums (17): elements of 32 cells.
-/
import Derived.Test.Qxb6001683aSide
import Derived.Deep.MidRow
namespace Go.Proofs.Qxb6001683a
open Go.RowKit
set_option linter.unusedVariables false
set_option linter.unusedSimpArgs false

theorem growTrans {a b c : World} {r : Option Nat} (h : a.grownBy b r) (k : b.grownBy c r) : a.grownBy c r :=
  ⟨k.os.trans h.os, k.tape.trans h.tape, k.output.trans h.output, Nat.le_trans h.size k.size, fun i hi hne => (k.block i (Nat.lt_of_lt_of_le hi h.size) hne).trans (h.block i hi hne)⟩

theorem setCells_one (w : World) (b o : Nat) (v : Value) (r : List Value) : w.setCells b o (v :: r) = (w.setCell ⟨b, o, none⟩ v).setCells b (o + 1) r := rfl

/-- a run of cells stored into an owned row -/
theorem own_setCells {B e size g n c : Nat} : ∀ (vs : List Value) (w : World) (xs : List Value) (o : Nat), w.ownsRow B e size (.slice (some ⟨g, 0, none⟩) n c) n xs → o + vs.length ≤ n * size →
    (w.setCells g o vs).ownsRow B e size (.slice (some ⟨g, 0, none⟩) n c) n (xs.take o ++ (vs ++ xs.drop (o + vs.length))) ∧ w.grownBy (w.setCells g o vs) (some g) := by
  intro vs
  induction vs with
  | nil => intro w xs o h _; exact ⟨by simpa [World.setCells] using h, World.grownBy.refl _ _⟩
  | cons v r ih =>
    intro w xs o h ho
    have hl := h.1
    simp only [List.length_cons] at ho
    obtain ⟨s1, s2⟩ := h.stored o v
    obtain ⟨i1, i2⟩ := ih _ _ (o + 1) s1 (by omega)
    rw [setCells_one]
    refine ⟨?_, growTrans s2 i2⟩
    have e1 : (xs.set o v).take (o + 1) = xs.take o ++ [v] := by
      rw [List.take_succ_eq_append_getElem (by simp; omega), List.take_set, List.set_eq_of_length_le (by simp; omega)]
      simp
    have e2 : (xs.set o v).drop (o + 1 + r.length) = xs.drop (o + 1 + r.length) := by rw [List.drop_set_of_lt (by omega)]
    rw [e1, e2] at i1
    rw [List.length_cons, show o + (r.length + 1) = o + 1 + r.length by omega]
    simpa using i1

theorem flat_step (xs rest cs : List Value) (k sz : Nat) (hx : k * sz ≤ xs.length) (hc : cs.length = sz) (h : cs = (xs.drop (k * sz)).take sz) :
    (xs.take (k * sz) ++ rest).take (k * sz) ++ (cs ++ (xs.take (k * sz) ++ rest).drop (k * sz + cs.length)) = xs.take ((k + 1) * sz) ++ rest.drop sz := by
  have hl : (xs.take (k * sz)).length = k * sz := by simp; omega
  rw [List.take_append_of_le_length (by omega), List.take_of_length_le (by omega)]
  have e1 : (xs.take (k * sz) ++ rest).drop (k * sz + cs.length) = rest.drop sz := by
    rw [List.drop_append, hl, List.drop_eq_nil_of_le (by omega), hc]
    simp
  rw [e1, ← List.append_assoc]
  congr 1
  rw [h, Nat.add_mul, Nat.one_mul, List.take_add]

theorem own_there {w : World} {B e size g n c : Nat} {xs : List Value} (h : w.ownsRow B e size (.slice (some ⟨g, 0, none⟩) n c) n xs) (o m : Nat) (hm : o + m ≤ n * size) : w.there g o m := by
  intro j hj
  have hl := h.1
  refine ⟨?_, h.frozenAt (o + j)⟩
  rw [h.cellAt (o + j) (by omega), List.getElem?_eq_getElem (by omega)]
  rfl

theorem own_range {w : World} {B e size g n c : Nat} {xs : List Value} (h : w.ownsRow B e size (.slice (some ⟨g, 0, none⟩) n c) n xs) (o m : Nat) (hm : o + m ≤ n * size) : w.rangeAt g o ((xs.drop o).take m) := by
  intro j v hv
  rw [List.getElem?_take] at hv
  split at hv
  · rw [List.getElem?_drop] at hv
    rw [h.cellAt (o + j) (by omega)]
    exact hv
  · cases hv

/-- what is known of a slice of arrays that came in, its cells in a row -/
def RowFlat (sz : Nat) (w : World) (a : Option Addr) (len : Nat) (xs : List Value) : Prop :=
  xs.length = len * sz ∧ (∀ u ∈ xs, u.oneCell' = true) ∧ ((a = none ∧ len = 0) ∨ ∃ x, a = some x ∧ ∀ j u, xs[j]? = some u → w.cell? (x.add j) = some u)

theorem rowFlat_below {sz : Nat} {w w' : World} {a : Option Addr} {len : Nat} {xs : List Value} (h : RowFlat sz w a len xs) (hb : Below w.heap.size w w') : RowFlat sz w' a len xs := by
  refine ⟨h.1, h.2.1, ?_⟩
  rcases h.2.2 with h | ⟨x, h1, h2⟩
  · exact .inl h
  · refine .inr ⟨x, h1, fun j u hu => ?_⟩
    have hc := h2 j u hu
    rw [hb.cell (World.block_lt_of_cell? w _ hc)]
    exact hc

theorem info49 : (Try.prog.info? 49).map (fun i => (i.zero, i.size, i.bytes)) = some (some (.agg (Array.replicate 32 (.int .u8 0))), 32, 32) := by kernel_rfl
theorem size49 : (Try.prog.info? 49).map (·.size) = some 32 := by kernel_rfl

theorem sums_eqlNil (w : World) (a : Option Addr) (n c : Nat) : (binOp .eql 35 (.slice a n c) (.slice none 0 0)).run Try.prog w = .ok (.bool a.isNone) w := Lib.run_eql_slice_nil w _ _ a n c 0 0 Try.underlying35

theorem sums_nil (w : World) (c : Nat) : Calls Try.prog 17 #[.slice none 0 c] w fun e w' => e = .returned (.slice none 0 0) ∧ w' = w := by
  have q := sums_eqlNil
  go_enter Try.func17, Try.ntmps17
  go_wp2
  go_ret
  exact ⟨rfl, rfl⟩

set_option maxHeartbeats 400000 in
theorem sums_zero (x : Addr) (cap : Nat) (w : World) : Calls Try.prog 17 #[.slice (some x) 0 cap] w fun e w' => ∃ a' c', e = .returned (.slice a' 0 c') ∧ w'.ownsRow w.heap.size 49 32 (.slice a' 0 c') 0 [] ∧ Below w.heap.size w w' := by
  obtain ⟨i0, hi, hz0, hz1, hz2⟩ := info_parts info49
  have q := sums_eqlNil
  go_enter Try.func17, Try.ntmps17
  go_wp2_with (at_make; refine wpList_make_full _ rfl _ _ 35 rfl w.heap.size 49 i0 _ 32 Try.underlying35 hi hz0 hz1 _ _ _ _ 0 rfl rfl rfl rfl (by omega) (by unfold maxLen; omega) (Nat.le_refl _) ?_)
  intro w1 hown1 hgrow1
  have hb1 : Below w.heap.size w w1 := (Below.refl _ _).grown hgrow1 (Nat.le_refl _) (by simp)
  have hown2 : w1.ownsRow w.heap.size 49 32 (.slice (some ⟨w.heap.size, 0, none⟩) 0 0) 0 [] := own_cast hown1 (List.eq_nil_of_length_eq_zero (by have := hown1.1; omega)) rfl
  clear hown1 hgrow1
  go_wp2
  refine wp_loop_rounds 1 ?_
  rw [rounds_succ]
  go_wp2
  go_ret
  exact ⟨_, _, rfl, hown2, hb1⟩

set_option maxHeartbeats 1000000 in
theorem sums_some (b off len cap : Nat) (xs : List Value) (w : World) (hlen : xs.length = len * 32) (h1 : ∀ u ∈ xs, u.oneCell' = true) (hm : len ≤ 65536) (hbw : b < w.heap.size)
    (hcell : ∀ j u, xs[j]? = some u → w.cell? ⟨b, off + j, none⟩ = some u) :
    Calls Try.prog 17 #[.slice (some ⟨b, off, none⟩) len cap] w fun e w' => ∃ a' c', e = .returned (.slice a' len c') ∧ w'.ownsRow w.heap.size 49 32 (.slice a' len c') len xs ∧ Below w.heap.size w w' := by
  obtain ⟨i0, hi, hz0, hz1, hz2⟩ := info_parts info49
  have q := sums_eqlNil
  have HC : Hid (∀ j u, xs[j]? = some u → w.cell? ⟨b, off + j, none⟩ = some u) := hcell
  have HL : Hid (xs.length = len * 32) := hlen
  have H1 : Hid (∀ u ∈ xs, u.oneCell' = true) := h1
  clear hcell hlen h1
  go_enter Try.func17, Try.ntmps17
  go_wp2_with (at_make; refine wpList_make_full _ rfl _ _ 35 rfl w.heap.size 49 i0 _ 32 Try.underlying35 hi hz0 hz1 _ _ _ _ len rfl rfl rfl rfl (by rw [hz2]; omega) (by unfold maxLen; omega) (Nat.le_refl _) ?_)
  intro w1 hown1 hgrow1
  have hb1 : Below w.heap.size w w1 := (Below.refl _ _).grown hgrow1 (Nat.le_refl _) (by simp)
  have hex : ∃ rest, rest.length = (len - 0) * 32 ∧ w1.ownsRow w.heap.size 49 32 (.slice (some ⟨w.heap.size, 0, none⟩) len len) len (xs.take (0 * 32) ++ rest) := ⟨_, hown1.1, own_cast hown1 (by simp) rfl⟩
  clear hown1 hgrow1
  go_wp2
  go_loopw [4] (fun i wr => ∃ (k : Nat) (rest : List Value), k ≤ len ∧ i = .int .i64 k ∧ rest.length = (len - k) * 32 ∧ wr.ownsRow w.heap.size 49 32 (.slice (some ⟨w.heap.size, 0, none⟩) len len) len (xs.take (k * 32) ++ rest) ∧ Below w.heap.size w wr) (fun i _ => len - (intOf i).toNat)
  case atStart => obtain ⟨rest, hr1, hr2⟩ := hex; exact ⟨0, rest, Nat.zero_le _, rfl, hr1, hr2, hb1⟩
  case round =>
    obtain ⟨k, rest, hk, rfl, hrl, hown, hb⟩ := hrel
    by_cases hlt : k < len
    · obtain ⟨cs, hcs, hrange, HCS, hone⟩ : ∃ cs, cs.length = 32 ∧ wr.rangeAt b (off + k * 32) cs ∧ Hid (cs = (xs.drop (k * 32)).take 32) ∧ (cs.toArray.all (·.oneCell') = true) := by
        refine ⟨(xs.drop (k * 32)).take 32, by have := HL.out; simp; omega, ?_, rfl, all_oneCell_toArray (fun u hu => H1.out u (List.mem_of_mem_drop (List.mem_of_mem_take hu)))⟩
        intro j v hv
        rw [List.getElem?_take] at hv
        split at hv
        · rw [List.getElem?_drop] at hv
          rw [hb.cell (by exact hbw), Nat.add_assoc]
          exact HC.out _ _ hv
        · cases hv
      have hthere : wr.there w.heap.size (k * 32) cs.toArray.size := by
        have := own_there hown (k * 32) 32 (by omega)
        simpa [hcs] using this
      have hi49 : (Try.prog.info? 49).map (·.size) = some cs.length := by rw [hcs]; exact size49
      have hi49' : (Try.prog.info? 49).map (·.size) = some cs.toArray.size := by simpa using hi49
      have HI : Hid ((Try.prog.info? 49).map (·.size) = some cs.length) := hi49
      have HI' : Hid ((Try.prog.info? 49).map (·.size) = some cs.toArray.size) := hi49'
      have HT : Hid (wr.there w.heap.size (k * 32) cs.toArray.size) := hthere
      have HR : Hid (wr.rangeAt b (off + k * 32) cs) := hrange
      have HO : Hid (cs.toArray.all (·.oneCell') = true) := hone
      have HCL : Hid (cs.length = 32) := hcs
      clear hi49 hi49' hthere hrange hone hcs
      go_wp2_with (first | (refine wpList_load_mid rfl 49 (.tmp 20) rfl b (off + k * 32) rfl cs _ HR.out Try.underlying49 rfl HI.out ?_) | (refine wpList_store_mid rfl 49 (.tmp 22) (.tmp 21) rfl w.heap.size (k * 32) cs.toArray rfl rfl HT.out HI'.out HO.out ?_))
      go_roundw
      case rel =>
        have hs := own_setCells cs wr _ (k * 32) hown (by have := HCL.out; omega)
        refine ⟨k + 1, rest.drop 32, by omega, by go_num, by simp [hrl]; omega, ?_, hb.grown hs.2 hb.size (by intro k hk; simp at hk; omega)⟩
        exact own_cast hs.1 (flat_step xs rest cs k 32 (by have := HL.out; omega) HCL.out HCS.out) rfl
      case measure => simp [intOf]; omega
    · have ek : len = k := by omega
      subst ek
      have er : rest = [] := List.eq_nil_of_length_eq_zero (by rw [hrl]; simp)
      subst er
      have R := own_cast hown (show _ = xs by rw [List.append_nil, List.take_of_length_le (by have := HL.out; omega)]) rfl
      clear hown
      go_wp2
      go_ret
      exact ⟨_, _, rfl, R, hb⟩

theorem sums_any (a : Option Addr) (len cap : Nat) (xs : List Value) (w : World) (h : RowFlat 32 w a len xs) (hm : len ≤ 65536) :
    Calls Try.prog 17 #[.slice a len cap] w fun e w' => ∃ a' c', e = .returned (.slice a' len c') ∧ w'.ownsRow w.heap.size 49 32 (.slice a' len c') len xs ∧ Below w.heap.size w w' := by
  obtain ⟨hl, h1, h⟩ := h
  rcases h with ⟨rfl, rfl⟩ | ⟨x, rfl, hcell⟩
  · have e : xs = [] := List.eq_nil_of_length_eq_zero (by omega)
    subst e
    refine (sums_nil w cap).mono ?_
    rintro e w' ⟨rfl, hw⟩
    rw [hw]
    exact ⟨_, _, rfl, World.ownsRow_nil _ _ _ _, Below.refl _ _⟩
  · by_cases h0 : len = 0
    · subst h0
      have e : xs = [] := List.eq_nil_of_length_eq_zero (by omega)
      subst e
      exact sums_zero x cap w
    · obtain ⟨b, off, spot⟩ := x
      have hc0 := hcell 0 xs[0] (by rw [List.getElem?_eq_getElem (by omega)])
      have hspot : spot = none := by simpa [Addr.add] using World.cell?_spot hc0
      subst hspot
      exact sums_some b off len cap xs w hl h1 hm (World.block_lt_of_cell? w _ (by simpa [Addr.add_lit] using hc0)) (fun j u hu => by rw [← Addr.add_lit]; exact hcell j u hu)
end Go.Proofs.Qxb6001683a
