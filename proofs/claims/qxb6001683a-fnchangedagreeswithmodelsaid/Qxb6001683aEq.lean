/-
  '!=' of two files, of two sums.
-/
import Derived.Test.Qxb6001683aFiles
import Derived.DeepKeys
namespace Go.Proofs.Qxb6001683a
open Go.RowKit
set_option linter.unusedVariables false
set_option linter.unusedSimpArgs false

theorem cells49 : Try.prog.cellsOf 49 = 32 := by kernel_rfl
theorem cells51 : Try.prog.cellsOf 51 = 34 := by kernel_rfl
theorem cells5' : Try.prog.cellsOf 5 = 1 := by kernel_rfl
theorem cells9' : Try.prog.cellsOf 9 = 1 := by kernel_rfl
theorem cells4' : Try.prog.cellsOf 4 = 1 := by kernel_rfl
theorem key49 : Try.prog.keyTypeAt 3 49 = true := by kernel_rfl
theorem key51 : Try.prog.keyTypeAt 3 51 = true := by kernel_rfl

/-- a sum: 32 bytes -/
def SumOK (zs : List Int) : Prop := zs.length = 32 ∧ ∀ z ∈ zs, (Lit.int .u8 z).wf = true

theorem mapM_of {α β : Type} {f : α → Option β} {g : α → β} : ∀ (L : List α), (∀ x ∈ L, f x = some (g x)) → L.mapM f = some (L.map g) := by
  intro L
  induction L with
  | nil => intro _; rfl
  | cons x L ih =>
    intro h
    rw [List.mapM_cons, h x (by simp), ih (fun y hy => h y (by simp [hy]))]
    rfl

theorem lits5 (d : Nat) (z : Int) (h : (Lit.int .u8 z).wf = true) : Try.prog.keyLits (d + 1) 5 [.int .u8 z] = some [.int .u8 z] := by
  simp [Program.keyLits, Try.underlying5, h]

theorem chunk_one (zs : List Int) (i : Nat) (hi : i < zs.length) : ((zs.map (Value.int .u8)).drop i).take 1 = [.int .u8 zs[i]] := by
  rw [List.drop_eq_getElem_cons (by simpa using hi), List.take_succ_cons, List.take_zero, List.getElem_map]

theorem flat_single (zs : List Int) : (zs.map fun z => [Lit.int .u8 z]).flatten = zs.map (Lit.int .u8) := by
  induction zs with
  | nil => rfl
  | cons z zs ih => simp only [List.map_cons, List.flatten_cons, ih, List.cons_append, List.nil_append]

theorem flat_range (zs : List Int) : ((List.range zs.length).map fun i => [Lit.int .u8 (zs.getD i 0)]).flatten = zs.map (Lit.int .u8) := by
  have e : (List.range zs.length).map (fun i => [Lit.int .u8 (zs.getD i 0)]) = zs.map (fun z => [Lit.int .u8 z]) := by
    apply List.ext_getElem
    · simp
    · intro i h1 h2
      simp at h2
      simp [List.getD, h2]
  rw [e, flat_single]

theorem lits49 (d : Nat) (zs : List Int) (h : SumOK zs) : Try.prog.keyLits (d + 2) 49 (zs.map (Value.int .u8)) = some (zs.map (Lit.int .u8)) := by
  obtain ⟨hl, hw⟩ := h
  have hm : (List.range 32).mapM (fun i => Try.prog.keyLits (d + 1) 5 (((zs.map (Value.int .u8)).drop (i * 1)).take 1)) = some ((List.range 32).map fun i => [Lit.int .u8 (zs.getD i 0)]) := by
    refine mapM_of _ fun i hi => ?_
    have hi' : i < zs.length := by have := List.mem_range.1 hi; omega
    rw [Nat.mul_one, chunk_one zs i hi', lits5 d _ (hw _ (List.getElem_mem _))]
    simp [List.getD, hi']
  unfold Program.keyLits
  simp only [Try.underlying49, cells49, cells5', List.length_map, hl, if_true, hm, Option.map_some]
  rw [← flat_range zs, hl]

theorem lits51 (d : Nat) (f : FileD) (hp : f.path.size ≤ maxLen) (h : SumOK f.sum) : Try.prog.keyLits (d + 3) 51 (fcells f) = some (.string f.path.data.toList :: .bool f.link :: f.sum.map (Lit.int .u8)) := by
  have hs := lits49 d f.sum h
  have hl := h.1
  have e0 : Try.prog.keyLits (d + 2) 9 [.string f.path] = some [.string f.path.data.toList] := by simp [Program.keyLits, Try.underlying9, hp]
  have e1 : Try.prog.keyLits (d + 2) 4 [.bool f.link] = some [.bool f.link] := by simp [Program.keyLits, Try.underlying4]
  unfold Program.keyLits
  simp only [Try.underlying51, cells51]
  have hlen : (fcells f).length = 34 := by simp [fcells, hl]
  rw [if_pos ⟨hlen, by simp⟩]
  have c0 : ((fcells f).drop 0).take 1 = [.string f.path] := rfl
  have c1 : ((fcells f).drop 1).take 1 = [.bool f.link] := rfl
  have c2 : ((fcells f).drop 2).take 32 = f.sum.map (Value.int .u8) := by
    show (f.sum.map (Value.int .u8)).take 32 = _
    rw [List.take_of_length_le (by simp [hl])]
  simp only [List.mapM_cons, List.mapM_nil, cells9', cells4', cells49, c0, c1, c2, e0, e1, hs]
  simp

/-- two files are one: path, link flag, sum -/
def eqF (f g : FileD) : Bool := decide (f.path.toList = g.path.toList) && (f.link == g.link) && decide (f.sum = g.sum)

theorem toList_data (s : ByteArray) : s.toList = s.data.toList := Go.ByteArray.toList_eq s

theorem ints_inj {a b : List Int} : a.map (Lit.int .u8) = b.map (Lit.int .u8) ↔ a = b := by
  constructor
  · intro h
    exact (List.map_inj_right (fun x y e => by simpa using e)).1 h
  · intro h; rw [h]

theorem eq51 (f g : FileD) (hf : f.path.size ≤ maxLen) (hg : g.path.size ≤ maxLen) (hsf : SumOK f.sum) (hsg : SumOK g.sum) (w : World) :
    (binOp .neq 51 (.agg (fcells f).toArray) (.agg (fcells g).toArray)).run Try.prog w = .ok (.bool (!(eqF f g))) w := by
  have E := run_equalIn_deep (P := Try.prog) 9997 3 51 key51
  have sf : (fcells f).toArray.size = 34 := by simp [fcells, hsf.1]
  have sg : (fcells g).toArray.size = 34 := by simp [fcells, hsg.1]
  obtain ⟨r, hr, hiff⟩ := E w 3 3 (.agg (fcells f).toArray) (.agg (fcells g).toArray) _ _ (by simp [Value.formed, Try.underlying51, cells51, sf]) (by simp [Value.formed, Try.underlying51, cells51, sg])
    (lits51 0 f hf hsf) (lits51 0 g hg hsg)
  rw [run_neq_struct, hr]
  have e : r = eqF f g := by
    rw [Bool.eq_iff_iff, hiff]
    unfold eqF
    simp [ints_inj, toList_data, and_assoc]
  rw [e]
  rfl

theorem eq49 (a b : List Int) (ha : SumOK a) (hb : SumOK b) (w : World) :
    (binOp .neq 49 (.agg (a.map (Value.int .u8)).toArray) (.agg (b.map (Value.int .u8)).toArray)).run Try.prog w = .ok (.bool (!(decide (a = b)))) w := by
  have E := run_equalIn_deep (P := Try.prog) 9997 3 49 key49
  have sf : (a.map (Value.int .u8)).toArray.size = 32 := by simp [ha.1]
  have sg : (b.map (Value.int .u8)).toArray.size = 32 := by simp [hb.1]
  obtain ⟨r, hr, hiff⟩ := E w 2 2 (.agg (a.map (Value.int .u8)).toArray) (.agg (b.map (Value.int .u8)).toArray) _ _ (by simp [Value.formed, Try.underlying49, cells49, ha.1]) (by simp [Value.formed, Try.underlying49, cells49, hb.1])
    (lits49 0 a ha) (lits49 0 b hb)
  rw [run_neq_struct, hr]
  have e : r = decide (a = b) := by
    rw [Bool.eq_iff_iff, hiff, ints_inj]
    simp
  rw [e]
  rfl
end Go.Proofs.Qxb6001683a
