/-
  A proof of 'Rows.FnMaxTimeIsTheSumOfTimeoutAndGraceOverAnyOrderSaid': the frame after the program's (proof-skeleton.mjs), typed by hand for []bool; the walk: the seat's other texts.
-/
import Derived.Test.Qxb6001683aRows
import Derived.Test.Qxb6001683aMaxW
import Derived.WalkKit
import Derived.ProofKit
import Derived.OpenShut
import Derived.ShutString
import Derived.ChangeOld
import Derived.Below
import Derived.Deep.Grids
namespace Go.Proofs.Qxb6001683a.fnMaxTimeIsTheSumOfTimeoutAndGraceOverAnyOrder
open Go.ChangeShapes Go.WideShapes Go.ChangeAt Go.RowKit Go.Deep
open Go.ChangeMaps (open_string shut_string)
set_option linter.unusedVariables false
set_option linter.unusedSimpArgs false

theorem own : ownKnob Try.prog.godebug = none := by kernel_rfl
theorem laidOut : laidOutB Try.prog = true := by kernel_rfl

set_option maxRecDepth 100000 in
set_option maxHeartbeats 4000000 in
theorem walk (a0 : Option Addr) (len0 cap0 : Nat) (z0 : List Int) (a1 : Option Addr) (len1 cap1 : Nat) (z1 : List Int) (a2 : Option Addr) (len2 cap2 : Nat) (z2 : List Bool) (s : ByteArray) (w : World)
    (w0 : RowIn (Value.int .i64) 0 w a0 len0 z0) (w1 : RowIn (Value.int .i64) 0 w a1 len1 z1) (w2 : RowIn Value.bool false w a2 len2 z2) (m0 : len0 ≤ maxLen) (m1 : len1 ≤ maxLen) (m2 : len2 ≤ maxLen) (m3 : s.size ≤ maxLen) :
    Calls Try.prog 3 #[.slice a0 len0 cap0, .slice a1 len1 cap1, .slice a2 len2 cap2, .string s] w fun e w' => e = .returned (.bool true) ∧ Below w.heap.size w w' := by
  by_cases hA : len0 ≤ 4096 ∧ len1 ≤ 4096 ∧ len2 ≤ 8192 ∧ s.size ≤ 65536
  · exact max_in a0 a1 a2 len0 cap0 len1 cap1 len2 cap2 z0 z1 z2 s w w0 w1 w2 hA.1 hA.2.1 hA.2.2.1 hA.2.2.2
  · unfold maxLen at m0 m1 m2 m3
    clear w0 w1 w2
    by_cases g0 : 1048576 < len0
    · clear hA
      go_enter Try.func3, Try.ntmps3
      go_wp2
      go_ret
      exact ⟨rfl, Below.refl _ _⟩
    by_cases g1 : 1048576 < len1
    · clear hA
      go_enter Try.func3, Try.ntmps3
      go_wp2
      go_ret
      exact ⟨rfl, Below.refl _ _⟩
    by_cases g2 : 1048576 < len0 + len1
    · clear hA
      go_enter Try.func3, Try.ntmps3
      go_wp2
      go_ret
      exact ⟨rfl, Below.refl _ _⟩
    by_cases g3 : 1048576 < len2
    · clear hA
      go_enter Try.func3, Try.ntmps3
      go_wp2
      go_ret
      exact ⟨rfl, Below.refl _ _⟩
    by_cases g4 : 1048576 < len0 + len1 + len2
    · clear hA
      go_enter Try.func3, Try.ntmps3
      go_wp2
      go_ret
      exact ⟨rfl, Below.refl _ _⟩
    by_cases g5 : 1048576 < s.size
    · clear hA
      go_enter Try.func3, Try.ntmps3
      go_wp2
      go_ret
      exact ⟨rfl, Below.refl _ _⟩
    by_cases g6 : 1048576 < len0 + len1 + len2 + s.size
    · clear hA
      go_enter Try.func3, Try.ntmps3
      go_wp2
      go_ret
      exact ⟨rfl, Below.refl _ _⟩
    by_cases g7 : 4096 < len0
    · clear hA
      go_enter Try.func3, Try.ntmps3
      go_wp2
      go_ret
      exact ⟨rfl, Below.refl _ _⟩
    by_cases g8 : 4096 < len1
    · clear hA
      go_enter Try.func3, Try.ntmps3
      go_wp2
      go_ret
      exact ⟨rfl, Below.refl _ _⟩
    by_cases g9 : 8192 < len2
    · clear hA
      go_enter Try.func3, Try.ntmps3
      go_wp2
      go_ret
      exact ⟨rfl, Below.refl _ _⟩
    have g : 65536 < s.size := by omega
    clear hA
    go_enter Try.func3, Try.ntmps3
    go_wp2
    go_ret
    exact ⟨rfl, Below.refl _ _⟩

set_option maxRecDepth 100000 in
theorem lifted (os : Os) (started : os.Started) (H : Type) (enc : TypeId × Value → H) :
    ReturnsInHanded {} Try.checked os 3 .any (Rows.fnMaxTimeIsTheSumOfTimeoutAndGraceOverAnyOrderSpec.pre6 enc Try.prog Try.f3 Rows.fnMaxTimeIsTheSumOfTimeoutAndGraceOverAnyOrderRow.domain false) (Rows.fnMaxTimeIsTheSumOfTimeoutAndGraceOverAnyOrderSpec.post enc Try.prog Try.f3 false true false false) := by
  refine returnsInHanded_of_change (C := Try.checked) own started (by kernel_rfl) Try.func3
    (ChangeSpec.witness6 (enc := enc) (C := Try.checked) false ⟨#[], #[.slice none 0 0, .slice none 0 0, .slice none 0 0, .string ByteArray.empty], []⟩ 8 (by kernel_rfl) (by kernel_rfl) (by kernel_rfl) (by kernel_rfl)) ?_
  intro W base args ds gs before hval0 hW hcnd _
  have hval : ∀ (j : Nat) t v, Try.f3.params[j]? = some t → args[j]? = some v → Value.okWide Try.prog W .any base t v := hval0
  have hW' := hW
  obtain ⟨p, q, hA0, hV, rfl, hfz, hnd⟩ := hW
  have hA : DataW.TrodAll enc Try.prog W 0 (fun _ => true) true Try.f3.params.toList args.toList ds p := hA0
  rw [Try.params3] at hA hval
  obtain ⟨v0, vs0, d0, ds0, p0, q0, hargs, rfl, rfl, h0, r0⟩ := trodAll_cons hA
  obtain ⟨v1, vs1, d1, ds1, p1, q1, rfl, rfl, rfl, h1, r1⟩ := trodAll_cons r0
  obtain ⟨v2, vs2, d2, ds2, p2, q2, rfl, rfl, rfl, h2, r2⟩ := trodAll_cons r1
  obtain ⟨v3, vs3, d3, ds3, p3, q3, rfl, rfl, rfl, h3, r3⟩ := trodAll_cons r2
  obtain ⟨rfl, rfl, rfl⟩ := trodAll_nil r3
  obtain rfl : args = #[v0, v1, v2, v3] := by cases args; simp_all
  obtain ⟨rfl, rfl⟩ := trodVars_none hV
  obtain ⟨a0, len0, cap0, rfl⟩ := okWide_slice Try.underlying22 (hval 0 22 v0 rfl rfl)
  have k0 := h0
  have lt0 : ∀ x ∈ p0, x.block < W.heap.size := by obtain ⟨m, hm⟩ := k0; exact DataW.trod_lt m _ _ _ hm
  obtain ⟨z0, w0, m0⟩ : ∃ zs, RowIn (Value.int .i64) 0 W a0 len0 zs ∧ len0 ≤ maxLen := by
    obtain ⟨fuel, hf⟩ := h0
    rcases open_ints Try.underlying22 Try.underlying2 (by kernel_rfl) hf with ⟨hcs, _⟩ | ⟨x, l, c, zs, hcs, _, hl, hm, hz, _, hcell, hwz⟩
    · simp [Value.cells] at hcs
      obtain ⟨rfl, rfl, rfl⟩ := hcs
      exact ⟨[], ⟨rfl, .inl ⟨rfl, rfl⟩⟩, by unfold maxLen; omega⟩
    · simp [Value.cells] at hcs
      obtain ⟨rfl, rfl, rfl⟩ := hcs
      simp only [if_true] at hz
      refine ⟨zs.take len0, ⟨by simp; omega, .inr ⟨x, rfl, fun j hj => ?_⟩⟩, by omega⟩
      rw [hcell j (by omega)]
      simp [List.getD, hj]
  obtain ⟨a1, len1, cap1, rfl⟩ := okWide_slice Try.underlying22 (hval 1 22 v1 rfl rfl)
  have k1 := h1
  have lt1 : ∀ x ∈ p1, x.block < W.heap.size := by obtain ⟨m, hm⟩ := k1; exact DataW.trod_lt m _ _ _ hm
  obtain ⟨z1, w1, m1⟩ : ∃ zs, RowIn (Value.int .i64) 0 W a1 len1 zs ∧ len1 ≤ maxLen := by
    obtain ⟨fuel, hf⟩ := h1
    rcases open_ints Try.underlying22 Try.underlying2 (by kernel_rfl) hf with ⟨hcs, _⟩ | ⟨x, l, c, zs, hcs, _, hl, hm, hz, _, hcell, hwz⟩
    · simp [Value.cells] at hcs
      obtain ⟨rfl, rfl, rfl⟩ := hcs
      exact ⟨[], ⟨rfl, .inl ⟨rfl, rfl⟩⟩, by unfold maxLen; omega⟩
    · simp [Value.cells] at hcs
      obtain ⟨rfl, rfl, rfl⟩ := hcs
      simp only [if_true] at hz
      refine ⟨zs.take len1, ⟨by simp; omega, .inr ⟨x, rfl, fun j hj => ?_⟩⟩, by omega⟩
      rw [hcell j (by omega)]
      simp [List.getD, hj]
  obtain ⟨a2, len2, cap2, rfl⟩ := okWide_slice Try.underlying23 (hval 2 23 v2 rfl rfl)
  have k2 := h2
  have lt2 : ∀ x ∈ p2, x.block < W.heap.size := by obtain ⟨m, hm⟩ := k2; exact DataW.trod_lt m _ _ _ hm
  obtain ⟨z2, w2, m2⟩ : ∃ zs, RowIn Value.bool false W a2 len2 zs ∧ len2 ≤ maxLen := by
    obtain ⟨fuel, hf⟩ := h2
    rcases open_bools Try.underlying23 Try.underlying4 (by kernel_rfl) hf with ⟨hcs, _⟩ | ⟨x, l, c, B, hcs, _, hl, hm, _, hcell⟩
    · simp [Value.cells] at hcs
      obtain ⟨rfl, rfl, rfl⟩ := hcs
      exact ⟨[], ⟨rfl, .inl ⟨rfl, rfl⟩⟩, by unfold maxLen; omega⟩
    · simp [Value.cells] at hcs
      obtain ⟨rfl, rfl, rfl⟩ := hcs
      refine ⟨(List.range len2).map B, ⟨by simp, .inr ⟨x, rfl, fun j hj => ?_⟩⟩, by omega⟩
      rw [hcell j (by omega)]
      simp [List.getD, hj]
  obtain ⟨s, rfl, rfl, rfl, hs⟩ := open_string Try.underlying9 (hval 3 9 v3 rfl rfl) h3
  clear hA0 hval0
  refine (walk a0 len0 cap0 z0 a1 len1 cap1 z1 a2 len2 cap2 z2 s W w0 w1 w2 m0 m1 m2 hs).mono fun e W' ⟨he, bel⟩ => ?_
  subst he
  exact ⟨_, rfl, _, _, _, [], _, [], hW', trodAll_mk1 (shut_bool Try.underlying4 _), (trodAll_cons_mk (Below.trod laidOut (by kernel_rfl) (of_decide_eq_true (by kernel_rfl)) k0 bel lt0) (trodAll_cons_mk (Below.trod laidOut (by kernel_rfl) (of_decide_eq_true (by kernel_rfl)) k1 bel lt1) (trodAll_cons_mk (Below.trod laidOut (by kernel_rfl) (of_decide_eq_true (by kernel_rfl)) k2 bel lt2) (trodAll_cons_mk (shut_string Try.underlying9 hs) trodAll_mk0)))), rfl, bel.frame _, fun h => by cases h⟩

theorem over : Rows.fnMaxTimeIsTheSumOfTimeoutAndGraceOverAnyOrderRow.holds Try.pinned (OpenSpec.ofChange Rows.fnMaxTimeIsTheSumOfTimeoutAndGraceOverAnyOrderSpec) :=
  OpenClaim.holds_of_wide 3 Try.f3 rfl rfl rfl rfl rfl rfl rfl ⟨rfl, rfl, rfl, rfl, rfl⟩ rfl rfl rfl rfl rfl (by kernel_rfl) Try.func3 (by kernel_rfl)
    (of_decide_eq_true (by kernel_rfl)) (by unfold Func.isWrapper; first | (rw [if_pos (by decide +kernel)]; kernel_rfl) | (rw [if_neg (by decide +kernel)]; exact ⟨rfl, rfl⟩))
    (fun os started H enc _ => lifted os started H enc)

/-- ████ THE STATEMENT ████ -/
theorem proved : Rows.FnMaxTimeIsTheSumOfTimeoutAndGraceOverAnyOrderSaid := over
end Go.Proofs.Qxb6001683a.fnMaxTimeIsTheSumOfTimeoutAndGraceOverAnyOrder
