/-
  A proof of 'Rows.FnChangedAgreesWithModelSaid': the frame after the program's (proof-skeleton.mjs), turned by hand for []bool and [][32]byte; the walk: the seat's other texts.
-/
import Derived.Test.Qxb6001683aRows
import Derived.Test.Qxb6001683aChM
import Derived.WalkKit
import Derived.ProofKit
import Derived.OpenShut
import Derived.ShutString
import Derived.SliceStrings
import Derived.ChangeOld
import Derived.Below
import Derived.Deep.Grids
import Derived.Deep.Slices
namespace Go.Proofs.Qxb6001683a.fnChangedAgreesWithModel
open Go.ChangeShapes Go.WideShapes Go.ChangeAt Go.RowKit Go.Deep
set_option linter.unusedVariables false
set_option linter.unusedSimpArgs false

theorem own : ownKnob Try.prog.godebug = none := by kernel_rfl
theorem laidOut : laidOutB Try.prog = true := by kernel_rfl
theorem c49 : Try.prog.cellsOf 49 = 32 := by kernel_rfl
theorem c5 : Try.prog.cellsOf 5 = 1 := by kernel_rfl

section
variable {H : Type} {enc : TypeId × Value → H} {w : World} {base : Nat} {spare : Nat → Bool} {held : Bool}

/-- one array of 32 bytes, opened -/
theorem open_sum {fuel : Nat} {cs : List Value} {x : DataW H × List MemPlace} (h : DataW.trod enc Try.prog w base spare held fuel 49 cs = some x) :
    ∀ j, j < 32 → ∃ z : Int, cs[j]? = some (.int .u8 z) ∧ (Lit.int .u8 z).wf = true := by
  obtain ⟨xs, m, _, _, hl, hx, hel⟩ := DataW.trod_array Try.underlying49 h
  rw [c49] at hl
  intro j hj
  have he := hel j hj
  rw [c5, Nat.mul_one, List.getElem?_eq_getElem (by omega)] at he
  obtain ⟨z, hz, _, hw⟩ := DataW.trod_int Try.underlying5 he
  refine ⟨z, ?_, hw⟩
  have := congrArg (fun l => l[0]?) hz
  simpa [List.getElem?_take] using this

/-- a slice of arrays of 32 bytes, opened -/
theorem open_sums {fuel : Nat} {cs : List Value} {x : DataW H × List MemPlace} (h : DataW.trod enc Try.prog w base spare held fuel 35 cs = some x) :
    (cs = [.slice none 0 0]) ∨ ∃ (a : Addr) (len cap : Nat) (Z : Nat → Int), cs = [.slice (some a) len cap] ∧ ∀ q, q < len * 32 → w.cell? (a.add q) = some (.int .u8 (Z q)) ∧ (Lit.int .u8 (Z q)).wf = true := by
  rcases open_slice Try.underlying35 h with ⟨h0, _⟩ | ⟨a, len, cap, m, n, D, Pl, hcs, _, _, _, hm, _, hel⟩
  · exact .inl h0
  · refine .inr ⟨a, len, cap, ?_⟩
    have hle : len ≤ m := by rw [hm]; split <;> omega
    obtain ⟨Z, hZ⟩ := choose_lt (α := Int) (n := len * 32) (p := fun q z => w.cell? (a.add q) = some (.int .u8 z) ∧ (Lit.int .u8 z).wf = true) (fun q hq => by
      obtain ⟨cs', h1, h2⟩ := hel (q / 32) (by omega)
      rw [c49] at h1
      obtain ⟨_, _, hc⟩ := World.cells?_some h1
      obtain ⟨z, hz, hw⟩ := open_sum h2 (q % 32) (by omega)
      refine ⟨z, ?_, hw⟩
      have := hc (q % 32) (by omega)
      rw [add_add, show q / 32 * 32 + q % 32 = q by omega, hz] at this
      exact this)
    exact ⟨Z, hcs, hZ⟩
end

set_option maxRecDepth 100000 in
theorem lifted (os : Os) (started : os.Started) (H : Type) (enc : TypeId × Value → H) :
    ReturnsInHanded {} Try.checked os 4 .any (Rows.fnChangedAgreesWithModelSpec.pre6 enc Try.prog Try.f4 Rows.fnChangedAgreesWithModelRow.domain false) (Rows.fnChangedAgreesWithModelSpec.post enc Try.prog Try.f4 false true false false) := by
  refine returnsInHanded_of_change (C := Try.checked) own started (by kernel_rfl) Try.func4
    (ChangeSpec.witness6 (enc := enc) (C := Try.checked) false ⟨#[], #[.slice none 0 0, .slice none 0 0, .slice none 0 0, .slice none 0 0, .slice none 0 0, .slice none 0 0], []⟩ 8 (by kernel_rfl) (by kernel_rfl) (by kernel_rfl) (by kernel_rfl)) ?_
  intro W base args ds gs before hval0 hW hcnd _
  have hval : ∀ (j : Nat) t v, Try.f4.params[j]? = some t → args[j]? = some v → Value.okWide Try.prog W .any base t v := hval0
  have hW' := hW
  obtain ⟨p, q, hA0, hV, rfl, hfz, hnd⟩ := hW
  have hA : DataW.TrodAll enc Try.prog W 0 (fun _ => true) true Try.f4.params.toList args.toList ds p := hA0
  rw [Try.params4] at hA hval
  obtain ⟨v0, vs0, d0, ds0, p0, q0, hargs, rfl, rfl, h0, r0⟩ := trodAll_cons hA
  obtain ⟨v1, vs1, d1, ds1, p1, q1, rfl, rfl, rfl, h1, r1⟩ := trodAll_cons r0
  obtain ⟨v2, vs2, d2, ds2, p2, q2, rfl, rfl, rfl, h2, r2⟩ := trodAll_cons r1
  obtain ⟨v3, vs3, d3, ds3, p3, q3, rfl, rfl, rfl, h3, r3⟩ := trodAll_cons r2
  obtain ⟨v4, vs4, d4, ds4, p4, q4, rfl, rfl, rfl, h4, r4⟩ := trodAll_cons r3
  obtain ⟨v5, vs5, d5, ds5, p5, q5, rfl, rfl, rfl, h5, r5⟩ := trodAll_cons r4
  obtain ⟨rfl, rfl, rfl⟩ := trodAll_nil r5
  obtain rfl : args = #[v0, v1, v2, v3, v4, v5] := by cases args; simp_all
  obtain ⟨rfl, rfl⟩ := trodVars_none hV
  obtain ⟨a0, len0, cap0, rfl⟩ := okWide_slice Try.underlying34 (hval 0 34 v0 rfl rfl)
  have k0 := h0
  have lt0 : ∀ x ∈ p0, x.block < W.heap.size := by obtain ⟨m, hm⟩ := k0; exact DataW.trod_lt m _ _ _ hm
  obtain ⟨z0, w0, m0⟩ : ∃ zs, RowIn Value.string ByteArray.empty W a0 len0 zs ∧ ∀ s ∈ zs, s.size ≤ maxLen := by
    obtain ⟨fuel, hf⟩ := h0
    rcases open_strings Try.underlying34 Try.underlying9 (by kernel_rfl) hf with ⟨hcs, _⟩ | ⟨x, l, c, ss, hcs, _, hl, hm, hz, _, hcell, hsz⟩
    · simp [Value.cells] at hcs
      obtain ⟨rfl, rfl, rfl⟩ := hcs
      exact ⟨[], ⟨rfl, .inl ⟨rfl, rfl⟩⟩, by simp⟩
    · simp [Value.cells] at hcs
      obtain ⟨rfl, rfl, rfl⟩ := hcs
      simp only [if_true] at hz
      refine ⟨ss.take len0, ⟨by simp; omega, .inr ⟨x, rfl, fun j hj => ?_⟩⟩, fun s hs => hsz s (List.mem_of_mem_take hs)⟩
      rw [hcell j (by omega)]
      simp [List.getD, hj]
  obtain ⟨a1, len1, cap1, rfl⟩ := okWide_slice Try.underlying23 (hval 1 23 v1 rfl rfl)
  have k1 := h1
  have lt1 : ∀ x ∈ p1, x.block < W.heap.size := by obtain ⟨m, hm⟩ := k1; exact DataW.trod_lt m _ _ _ hm
  obtain ⟨z1, w1⟩ : ∃ zs, RowIn Value.bool false W a1 len1 zs := by
    obtain ⟨fuel, hf⟩ := h1
    rcases open_bools Try.underlying23 Try.underlying4 (by kernel_rfl) hf with ⟨hcs, _⟩ | ⟨x, l, c, B, hcs, _, hl, hm, _, hcell⟩
    · simp [Value.cells] at hcs
      obtain ⟨rfl, rfl, rfl⟩ := hcs
      exact ⟨[], ⟨rfl, .inl ⟨rfl, rfl⟩⟩⟩
    · simp [Value.cells] at hcs
      obtain ⟨rfl, rfl, rfl⟩ := hcs
      refine ⟨(List.range len1).map B, ⟨by simp, .inr ⟨x, rfl, fun j hj => ?_⟩⟩⟩
      rw [hcell j (by omega)]
      simp [List.getD, hj]
  obtain ⟨a2, len2, cap2, rfl⟩ := okWide_slice Try.underlying35 (hval 2 35 v2 rfl rfl)
  have k2 := h2
  have lt2 : ∀ x ∈ p2, x.block < W.heap.size := by obtain ⟨m, hm⟩ := k2; exact DataW.trod_lt m _ _ _ hm
  obtain ⟨z2, w2, m2⟩ : ∃ zs : List Int, RowFlat 32 W a2 len2 (zs.map (Value.int .u8)) ∧ ∀ z ∈ zs, (Lit.int .u8 z).wf = true := by
    obtain ⟨fuel, hf⟩ := h2
    rcases open_sums hf with hcs | ⟨x, l, c, Z, hcs, hcell⟩
    · simp [Value.cells] at hcs
      obtain ⟨rfl, rfl, rfl⟩ := hcs
      exact ⟨[], ⟨rfl, by simp, .inl ⟨rfl, rfl⟩⟩, by simp⟩
    · simp [Value.cells] at hcs
      obtain ⟨rfl, rfl, rfl⟩ := hcs
      refine ⟨(List.range (len2 * 32)).map Z, ⟨by simp, ints_oneCell _ _, .inr ⟨x, rfl, fun j u hu => ?_⟩⟩, ?_⟩
      · by_cases hj : j < len2 * 32
        · rw [(hcell j hj).1, ← hu]
          simp [hj]
        · simp [hj] at hu
      · intro z hz
        obtain ⟨j, hj, rfl⟩ := List.mem_map.1 hz
        exact (hcell j (List.mem_range.1 hj)).2
  obtain ⟨a3, len3, cap3, rfl⟩ := okWide_slice Try.underlying34 (hval 3 34 v3 rfl rfl)
  have k3 := h3
  have lt3 : ∀ x ∈ p3, x.block < W.heap.size := by obtain ⟨m, hm⟩ := k3; exact DataW.trod_lt m _ _ _ hm
  obtain ⟨z3, w3, m3⟩ : ∃ zs, RowIn Value.string ByteArray.empty W a3 len3 zs ∧ ∀ s ∈ zs, s.size ≤ maxLen := by
    obtain ⟨fuel, hf⟩ := h3
    rcases open_strings Try.underlying34 Try.underlying9 (by kernel_rfl) hf with ⟨hcs, _⟩ | ⟨x, l, c, ss, hcs, _, hl, hm, hz, _, hcell, hsz⟩
    · simp [Value.cells] at hcs
      obtain ⟨rfl, rfl, rfl⟩ := hcs
      exact ⟨[], ⟨rfl, .inl ⟨rfl, rfl⟩⟩, by simp⟩
    · simp [Value.cells] at hcs
      obtain ⟨rfl, rfl, rfl⟩ := hcs
      simp only [if_true] at hz
      refine ⟨ss.take len3, ⟨by simp; omega, .inr ⟨x, rfl, fun j hj => ?_⟩⟩, fun s hs => hsz s (List.mem_of_mem_take hs)⟩
      rw [hcell j (by omega)]
      simp [List.getD, hj]
  obtain ⟨a4, len4, cap4, rfl⟩ := okWide_slice Try.underlying23 (hval 4 23 v4 rfl rfl)
  have k4 := h4
  have lt4 : ∀ x ∈ p4, x.block < W.heap.size := by obtain ⟨m, hm⟩ := k4; exact DataW.trod_lt m _ _ _ hm
  obtain ⟨z4, w4⟩ : ∃ zs, RowIn Value.bool false W a4 len4 zs := by
    obtain ⟨fuel, hf⟩ := h4
    rcases open_bools Try.underlying23 Try.underlying4 (by kernel_rfl) hf with ⟨hcs, _⟩ | ⟨x, l, c, B, hcs, _, hl, hm, _, hcell⟩
    · simp [Value.cells] at hcs
      obtain ⟨rfl, rfl, rfl⟩ := hcs
      exact ⟨[], ⟨rfl, .inl ⟨rfl, rfl⟩⟩⟩
    · simp [Value.cells] at hcs
      obtain ⟨rfl, rfl, rfl⟩ := hcs
      refine ⟨(List.range len4).map B, ⟨by simp, .inr ⟨x, rfl, fun j hj => ?_⟩⟩⟩
      rw [hcell j (by omega)]
      simp [List.getD, hj]
  obtain ⟨a5, len5, cap5, rfl⟩ := okWide_slice Try.underlying35 (hval 5 35 v5 rfl rfl)
  have k5 := h5
  have lt5 : ∀ x ∈ p5, x.block < W.heap.size := by obtain ⟨m, hm⟩ := k5; exact DataW.trod_lt m _ _ _ hm
  obtain ⟨z5, w5, m5⟩ : ∃ zs : List Int, RowFlat 32 W a5 len5 (zs.map (Value.int .u8)) ∧ ∀ z ∈ zs, (Lit.int .u8 z).wf = true := by
    obtain ⟨fuel, hf⟩ := h5
    rcases open_sums hf with hcs | ⟨x, l, c, Z, hcs, hcell⟩
    · simp [Value.cells] at hcs
      obtain ⟨rfl, rfl, rfl⟩ := hcs
      exact ⟨[], ⟨rfl, by simp, .inl ⟨rfl, rfl⟩⟩, by simp⟩
    · simp [Value.cells] at hcs
      obtain ⟨rfl, rfl, rfl⟩ := hcs
      refine ⟨(List.range (len5 * 32)).map Z, ⟨by simp, ints_oneCell _ _, .inr ⟨x, rfl, fun j u hu => ?_⟩⟩, ?_⟩
      · by_cases hj : j < len5 * 32
        · rw [(hcell j hj).1, ← hu]
          simp [hj]
        · simp [hj] at hu
      · intro z hz
        obtain ⟨j, hj, rfl⟩ := List.mem_map.1 hz
        exact (hcell j (List.mem_range.1 hj)).2
  clear hA0 hval0
  refine (chg_any a0 len0 cap0 z0 a1 len1 cap1 z1 a2 len2 cap2 z2 a3 len3 cap3 z3 a4 len4 cap4 z4 a5 len5 cap5 z5 W w0 w1 w2 w3 w4 w5 m0 m3 m2 m5).mono fun e W' ⟨he, bel⟩ => ?_
  subst he
  exact ⟨_, rfl, _, _, _, [], _, [], hW', trodAll_mk1 (shut_bool Try.underlying4 _), (trodAll_cons_mk (Below.trod laidOut (by kernel_rfl) (of_decide_eq_true (by kernel_rfl)) k0 bel lt0) (trodAll_cons_mk (Below.trod laidOut (by kernel_rfl) (of_decide_eq_true (by kernel_rfl)) k1 bel lt1) (trodAll_cons_mk (Below.trod laidOut (by kernel_rfl) (of_decide_eq_true (by kernel_rfl)) k2 bel lt2) (trodAll_cons_mk (Below.trod laidOut (by kernel_rfl) (of_decide_eq_true (by kernel_rfl)) k3 bel lt3) (trodAll_cons_mk (Below.trod laidOut (by kernel_rfl) (of_decide_eq_true (by kernel_rfl)) k4 bel lt4) (trodAll_cons_mk (Below.trod laidOut (by kernel_rfl) (of_decide_eq_true (by kernel_rfl)) k5 bel lt5) trodAll_mk0)))))), rfl, bel.frame _, fun h => by cases h⟩

theorem over : Rows.fnChangedAgreesWithModelRow.holds Try.pinned (OpenSpec.ofChange Rows.fnChangedAgreesWithModelSpec) :=
  OpenClaim.holds_of_wide 4 Try.f4 rfl rfl rfl rfl rfl rfl rfl ⟨rfl, rfl, rfl, rfl, rfl⟩ rfl rfl rfl rfl rfl (by kernel_rfl) Try.func4 (by kernel_rfl)
    (of_decide_eq_true (by kernel_rfl)) (by unfold Func.isWrapper; first | (rw [if_pos (by decide +kernel)]; kernel_rfl) | (rw [if_neg (by decide +kernel)]; exact ⟨rfl, rfl⟩))
    (fun os started H enc _ => lifted os started H enc)

/-- ████ THE STATEMENT ████ -/
theorem proved : Rows.FnChangedAgreesWithModelSaid := over
end Go.Proofs.Qxb6001683a.fnChangedAgreesWithModel
