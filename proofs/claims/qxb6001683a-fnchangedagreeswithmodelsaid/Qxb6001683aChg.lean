/-
  Changed (19): the merge.
-/
import Derived.Test.Qxb6001683aEq
import Derived.Test.Qxb6001683aChangedM
import Derived.Deep.RegionHeld3
import Derived.Deep.DrawnRows
namespace Go.Proofs.Qxb6001683a
open Go.RowKit
set_option linter.unusedVariables false
set_option linter.unusedSimpArgs false

/-- a file's key: the bytes of its path -/
def fkey (f : FileD) : List UInt8 := f.path.toList
/-- two files are held alike -/
def fsame (f g : FileD) : Bool := (f.link == g.link) && decide (f.sum = g.sum)
def merged (n : Nat) (a b : List FileD) : List FileD := mrg Op.bytesLess fkey fsame n a b
def strs (l : List FileD) : List Value := l.map fun f => Value.string f.path

/-- the files of a row are well formed -/
def FilesOK (fs : List FileD) : Prop := ∀ f ∈ fs, SumOK f.sum ∧ f.path.size ≤ maxLen

theorem frow_at (fs : List FileD) (h : FilesOK fs) : ∀ (k : Nat) (hk : k < fs.length), ((frow fs).drop (k * 34)).take 34 = fcells fs[k] := by
  induction fs with
  | nil => intro k hk; simp at hk
  | cons f fs ih =>
    intro k hk
    have e : frow (f :: fs) = fcells f ++ frow fs := by simp [frow]
    have hl : (fcells f).length = 34 := by simp [fcells, (h f (by simp)).1.1]
    rw [e]
    cases k with
    | zero =>
      rw [Nat.zero_mul, List.drop_zero, List.take_append_of_le_length (by omega), List.take_of_length_le (by omega)]
      rfl
    | succ k =>
      rw [List.drop_append, List.drop_eq_nil_of_le (by omega), hl, show (k + 1) * 34 - 34 = k * 34 by omega, List.nil_append, ih (fun x hx => h x (by simp [hx])) k (by simpa using hk)]
      rfl

/-- a file of a row in memory -/
theorem file_at {w : World} {B g n c : Nat} {fs : List FileD} (h : w.ownsRow B 51 34 (.slice (some ⟨g, 0, none⟩) n c) n (frow fs)) (hf : FilesOK fs) (hl : fs.length = n) (k : Nat) (hk : k < n) :
    ∃ f, w.rangeAt g (k * 34) (fcells f) ∧ w.cell? ⟨g, k * 34, none⟩ = some (.string f.path) ∧ w.cell? ⟨g, k * 34 + 1, none⟩ = some (.bool f.link) ∧ w.rangeAt g (k * 34 + 2) (f.sum.map (Value.int .u8)) ∧ SumOK f.sum ∧ f.path.size ≤ maxLen ∧ fs[k]? = some f := by
  have hr := own_range h (k * 34) 34 (by omega)
  rw [frow_at fs hf k (by omega)] at hr
  have hm := hf fs[k] (List.getElem_mem _)
  refine ⟨fs[k], hr, by simpa using hr 0 (.string fs[k].path) rfl, hr 1 (.bool fs[k].link) rfl, ?_, hm.1, hm.2, by rw [List.getElem?_eq_getElem]⟩
  intro j v hv
  have := hr (2 + j) v (by simpa [fcells, Nat.add_comm 2 j] using hv)
  rw [← Nat.add_assoc] at this
  exact this

theorem info9 : (Try.prog.info? 9).map (fun i => (i.zero, i.size, i.bytes)) = some (some (.string ByteArray.empty), 1, 16) := by kernel_rfl

/-- one string in a new block, as a source of an append -/
theorem src_str (w : World) (s : ByteArray) : Src Try.prog 1 34 (.slice (some ⟨w.heap.size, 0, none⟩) 1 1) 1 [.string s] (w.alloc (.cells #[.string s] 9)) :=
  Src.ofSlice _ Try.underlying34 ⟨w.heap.size, 0, none⟩ 1 1 [.string s] rfl (cell_one_new _ _ _) (by intro u hu; simp at hu; subst hu; rfl)

/-- where the merge stands -/
def At (fw fn : List FileD) (res : List FileD) (i j : Nat) (acc : List FileD) : Prop :=
  ∃ fuel, (fw.length - i) + (fn.length - j) ≤ fuel ∧ acc ++ merged fuel (fw.drop i) (fn.drop j) = res

theorem at_start (fw fn : List FileD) : At fw fn (merged (fw.length + fn.length) fw fn) 0 0 [] := ⟨fw.length + fn.length, by omega, rfl⟩

theorem at_end {fw fn res acc : List FileD} (h : At fw fn res fw.length fn.length acc) : acc = res := by
  obtain ⟨fuel, _, h⟩ := h
  rw [List.drop_eq_nil_of_le (Nat.le_refl _), List.drop_eq_nil_of_le (Nat.le_refl _)] at h
  cases fuel with
  | zero => simpa [merged, mrg] using h
  | succ n => simpa [merged, mrg] using h

theorem at_a0 {fw fn res acc : List FileD} {i : Nat} {f : FileD} (hf : fw[i]? = some f) (h : At fw fn res i fn.length acc) : At fw fn res (i + 1) fn.length (acc ++ [f]) := by
  obtain ⟨hi, rfl⟩ := List.getElem?_eq_some_iff.1 hf
  obtain ⟨fuel, hle, h⟩ := h
  obtain ⟨n, rfl⟩ : ∃ n, fuel = n + 1 := ⟨fuel - 1, by omega⟩
  refine ⟨n, by omega, ?_⟩
  rw [List.drop_eq_getElem_cons hi, List.drop_eq_nil_of_le (Nat.le_refl _)] at h
  rw [List.drop_eq_nil_of_le (Nat.le_refl fn.length), ← h]
  simp [merged, mrg]

theorem at_0b {fw fn res acc : List FileD} {j : Nat} {f : FileD} (hf : fn[j]? = some f) (h : At fw fn res fw.length j acc) : At fw fn res fw.length (j + 1) (acc ++ [f]) := by
  obtain ⟨hj, rfl⟩ := List.getElem?_eq_some_iff.1 hf
  obtain ⟨fuel, hle, h⟩ := h
  obtain ⟨n, rfl⟩ : ∃ n, fuel = n + 1 := ⟨fuel - 1, by omega⟩
  refine ⟨n, by omega, ?_⟩
  rw [List.drop_eq_getElem_cons hj, List.drop_eq_nil_of_le (Nat.le_refl _)] at h
  rw [List.drop_eq_nil_of_le (Nat.le_refl fw.length), ← h]
  simp [merged, mrg]

theorem at_lt {fw fn res acc : List FileD} {i j : Nat} {f g : FileD} (hf : fw[i]? = some f) (hg : fn[j]? = some g) (hl : Op.bytesLess f.path.toList g.path.toList = true) (h : At fw fn res i j acc) : At fw fn res (i + 1) j (acc ++ [f]) := by
  obtain ⟨hi, rfl⟩ := List.getElem?_eq_some_iff.1 hf
  obtain ⟨hj, rfl⟩ := List.getElem?_eq_some_iff.1 hg
  obtain ⟨fuel, hle, h⟩ := h
  obtain ⟨n, rfl⟩ : ∃ n, fuel = n + 1 := ⟨fuel - 1, by omega⟩
  refine ⟨n, by omega, ?_⟩
  have e : merged (n + 1) (fw.drop i) (fn.drop j) = fw[i] :: merged n (fw.drop (i + 1)) (fn.drop j) := by
    rw [List.drop_eq_getElem_cons hi, List.drop_eq_getElem_cons hj]
    simp only [merged, mrg]
    rw [if_pos (by exact hl)]
  rw [e] at h
  rw [← h]
  simp

theorem at_gt {fw fn res acc : List FileD} {i j : Nat} {f g : FileD} (hf : fw[i]? = some f) (hg : fn[j]? = some g) (hl : Op.bytesLess f.path.toList g.path.toList = false) (hr : Op.bytesLess g.path.toList f.path.toList = true) (h : At fw fn res i j acc) : At fw fn res i (j + 1) (acc ++ [g]) := by
  obtain ⟨hi, rfl⟩ := List.getElem?_eq_some_iff.1 hf
  obtain ⟨hj, rfl⟩ := List.getElem?_eq_some_iff.1 hg
  obtain ⟨fuel, hle, h⟩ := h
  obtain ⟨n, rfl⟩ : ∃ n, fuel = n + 1 := ⟨fuel - 1, by omega⟩
  refine ⟨n, by omega, ?_⟩
  have e : merged (n + 1) (fw.drop i) (fn.drop j) = fn[j] :: merged n (fw.drop i) (fn.drop (j + 1)) := by
    rw [List.drop_eq_getElem_cons hi, List.drop_eq_getElem_cons hj]
    simp only [merged, mrg]
    rw [if_neg (by simp [fkey, hl]), if_pos (by exact hr)]
  rw [e] at h
  rw [← h]
  simp

theorem at_eq {fw fn res acc : List FileD} {i j : Nat} {f g : FileD} (hf : fw[i]? = some f) (hg : fn[j]? = some g) (hl : Op.bytesLess f.path.toList g.path.toList = false) (hr : Op.bytesLess g.path.toList f.path.toList = false) (h : At fw fn res i j acc) :
    At fw fn res (i + 1) (j + 1) (acc ++ if fsame f g = true then [] else [g]) := by
  obtain ⟨hi, rfl⟩ := List.getElem?_eq_some_iff.1 hf
  obtain ⟨hj, rfl⟩ := List.getElem?_eq_some_iff.1 hg
  obtain ⟨fuel, hle, h⟩ := h
  obtain ⟨n, rfl⟩ : ∃ n, fuel = n + 1 := ⟨fuel - 1, by omega⟩
  refine ⟨n, by omega, ?_⟩
  have e : merged (n + 1) (fw.drop i) (fn.drop j) = (if fsame fw[i] fn[j] = true then [] else [fn[j]]) ++ merged n (fw.drop (i + 1)) (fn.drop (j + 1)) := by
    rw [List.drop_eq_getElem_cons hi, List.drop_eq_getElem_cons hj]
    simp only [merged, mrg]
    rw [if_neg (by simp [fkey, hl]), if_neg (by simp [fkey, hr])]
    split <;> rfl
  rw [e] at h
  rw [← h]
  simp

/-- the order of byte strings -/
theorem byteLO : LO Op.bytesLess := by
  have e : ∀ x y : List UInt8, Op.bytesLess x y = decide (x < y) := by
    intro x
    induction x with
    | nil => intro y; cases y <;> simp [Op.bytesLess]
    | cons a x ih =>
      intro y
      cases y with
      | nil => simp [Op.bytesLess]
      | cons b y =>
        simp only [Op.bytesLess]
        rw [Bool.eq_iff_iff]
        simp [List.cons_lt_cons_iff, ih]
  refine ⟨fun a => ?_, fun a b c h1 h2 => ?_, fun a b h1 h2 => ?_⟩
  · rw [e]; simp
  · rw [e] at *; simp at *; exact List.lt_trans h1 h2
  · rw [e] at *; simp at *; exact List.le_antisymm h2 h1
end Go.Proofs.Qxb6001683a
