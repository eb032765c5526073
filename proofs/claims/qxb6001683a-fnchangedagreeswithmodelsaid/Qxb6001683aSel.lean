/-
  zzChangedModel (20): search, selection, insertion: no Go in sight.
-/
import Derived.Test.Qxb6001683aChgW
namespace Go.Proofs.Qxb6001683a
set_option linter.unusedVariables false
set_option linter.unusedSimpArgs false

section
variable {K F : Type} [DecidableEq K] {key : F → K} {same : F → F → Bool}
theorem pW_none {now : List F} {a : F} (h : ∀ b ∈ now, key b ≠ key a) : pW key same now a = true := by
  unfold pW
  rw [List.find?_eq_none.2 (fun g hg => by simpa using h g hg)]
theorem pW_some {now : List F} {a : F} {j : Nat} (hj : j < now.length) (h : ∀ t (ht : t < j), key (now[t]'(by omega)) ≠ key a) (he : key now[j] = key a) : pW key same now a = !(same a now[j]) := by
  unfold pW
  have : now.find? (fun b => key b == key a) = some now[j] := by
    rw [List.find?_eq_some_iff_getElem]
    exact ⟨by simpa using he, j, hj, rfl, fun t ht => by simpa using h t ht⟩
  rw [this]
end

/-- what the model appends: the candidates -/
def cands (fw fn : List FileD) : List FileD := cand fkey fsame fw fn
def pSel (fn : List FileD) : FileD → Bool := pW fkey fsame fn
def qSel (fw : List FileD) : FileD → Bool := qW fkey fw
def srt (l : List FileD) : Prop := Srt Op.bytesLess fkey l
def fless (x z : FileD) : Bool := Op.bytesLess x.path.toList z.path.toList

/-- up to here no file has the path -/
def Nf (l : List FileD) (f : FileD) (j : Nat) : Prop := ∀ t g, t < j → l[t]? = some g → g.path.toList ≠ f.path.toList

theorem nf_start (l : List FileD) (f : FileD) : Nf l f 0 := fun t g h => absurd h (by omega)
theorem nf_step {l : List FileD} {f g : FileD} {j : Nat} (h : Nf l f j) (hg : l[j]? = some g) (hne : (g.path.toList == f.path.toList) = false) : Nf l f (j + 1) := by
  intro t x ht hx
  by_cases e : t = j
  · subst e; rw [hg] at hx; cases hx; simpa using hne
  · exact h t x (by omega) hx

theorem nf_all {l : List FileD} {f : FileD} {n : Nat} (hl : l.length = n) (h : Nf l f n) : ∀ g ∈ l, g.path.toList ≠ f.path.toList := by
  intro g hg
  obtain ⟨t, ht, rfl⟩ := List.mem_iff_getElem.1 hg
  exact h t _ (by omega) (List.getElem?_eq_getElem ht)

theorem nf_none {fn : List FileD} {f : FileD} {m : Nat} (hl : fn.length = m) (h : Nf fn f m) : pSel fn f = true := by
  unfold pSel
  exact pW_none (nf_all hl h)

theorem nf_some {fn : List FileD} {f g : FileD} {j : Nat} (h : Nf fn f j) (hg : fn[j]? = some g) (he : (g.path.toList == f.path.toList) = true) : pSel fn f = !(fsame f g) := by
  unfold pSel
  obtain ⟨hj, rfl⟩ := List.getElem?_eq_some_iff.1 hg
  exact pW_some hj (fun t ht => h t _ ht (List.getElem?_eq_getElem (by omega))) (by simpa [fkey] using he)

theorem nf_q {fw : List FileD} {g : FileD} {n : Nat} (hl : fw.length = n) (h : Nf fw g n) : qSel fw g = true := by
  unfold qSel
  exact (qW_iff g).2 (nf_all hl h)

theorem nf_q' {fw : List FileD} {f g : FileD} {t : Nat} (hf : fw[t]? = some f) (he : (f.path.toList == g.path.toList) = true) : qSel fw g = false := by
  cases h : qSel fw g with
  | false => rfl
  | true =>
    have := (qW_iff g).1 h f (List.mem_of_getElem? hf)
    exact absurd (by simpa [fkey] using he) this

/-- what is chosen of the first i -/
def Sel (p : FileD → Bool) (l : List FileD) (A : List FileD) (i : Nat) (acc : List FileD) : Prop := acc = A ++ (l.take i).filter p
theorem sel_start (p : FileD → Bool) (l A : List FileD) : Sel p l A 0 A := by simp [Sel]
theorem sel_yes {p : FileD → Bool} {l A acc : List FileD} {i : Nat} {f : FileD} (h : Sel p l A i acc) (hf : l[i]? = some f) (hp : p f = true) : Sel p l A (i + 1) (acc ++ [f]) := by
  obtain ⟨hi, rfl⟩ := List.getElem?_eq_some_iff.1 hf
  unfold Sel at *
  rw [List.take_succ_eq_append_getElem hi, List.filter_append, h]
  simp [hp]
theorem sel_no {p : FileD → Bool} {l A acc : List FileD} {i : Nat} {f : FileD} (h : Sel p l A i acc) (hf : l[i]? = some f) (hp : p f = false) : Sel p l A (i + 1) acc := by
  obtain ⟨hi, rfl⟩ := List.getElem?_eq_some_iff.1 hf
  unfold Sel at *
  rw [List.take_succ_eq_append_getElem hi, List.filter_append, h]
  simp [hp]
theorem sel_end {p : FileD → Bool} {l A acc : List FileD} {n : Nat} (hl : l.length = n) (h : Sel p l A n acc) : acc = A ++ l.filter p := by
  unfold Sel at h
  rwa [List.take_of_length_le (by omega)] at h

/-- the insertion: sorted so far -/
def Outer (c0 s : List FileD) (i : Nat) : Prop := s.Perm c0 ∧ srt (s.take i)
/-- the element that moves stands at j -/
def Ins (c0 s : List FileD) (i j : Nat) : Prop := s.Perm c0 ∧ ∃ pre x post rest, s = pre ++ x :: (post ++ rest) ∧ pre.length = j ∧ pre.length + post.length = i ∧ srt (pre ++ post) ∧ ∀ y ∈ post, fless x y = true

theorem outer_one (c0 : List FileD) : Outer c0 c0 1 := by
  refine ⟨List.Perm.refl _, ?_⟩
  cases c0 with
  | nil => exact List.Pairwise.nil
  | cons a l => simp [srt, Srt]

theorem outer_ins {c0 s : List FileD} {i : Nat} (h : Outer c0 s i) (hi : i < s.length) : Ins c0 s i i := by
  refine ⟨h.1, s.take i, s[i], [], s.drop (i + 1), ?_, by simp; omega, by simp; omega, by simpa using h.2, by simp⟩
  rw [List.nil_append, ← List.drop_eq_getElem_cons hi, List.take_append_drop]

theorem ins_at {s : List FileD} {j : Nat} {pre post rest : List FileD} {x y : FileD} (hs : s = pre ++ x :: (post ++ rest)) (hl : pre.length = j) (hy : s[j]? = some y) : x = y := by
  subst hs; subst hl
  simpa using hy

theorem ins_swap {c0 s : List FileD} {i j : Nat} {x z : FileD} (h : Ins c0 s i (j + 1)) (hx : s[j + 1]? = some x) (hz : s[j]? = some z) (hl : fless x z = true) : Ins c0 ((s.set (j + 1) z).set j x) i j := by
  obtain ⟨hp, pre, x', post, rest, hs, h1, h2, h3, h4⟩ := h
  have ex : x' = x := ins_at hs h1 hx
  subst ex
  rcases List.eq_nil_or_concat pre with rfl | ⟨P, z', rfl⟩
  · simp at h1
  have hPl : P.length = j := by simpa using h1
  have ez : z' = z := by
    subst hs
    rw [← hPl] at hz
    simpa using hz
  subst ez
  have e2 : s = P ++ z' :: x' :: (post ++ rest) := by rw [hs]; simp
  have e3 : (s.set (j + 1) z').set j x' = P ++ x' :: z' :: (post ++ rest) := by
    rw [e2]
    have := swap_set P (post ++ rest) z' x' (j + 1) (by omega)
    simpa using this
  have hperm : ((s.set (j + 1) z').set j x').Perm s := by
    rw [e3, e2]
    exact List.Perm.append_left _ (List.Perm.swap _ _ _)
  refine ⟨hperm.trans hp, P, x', z' :: post, rest, by rw [e3]; simp, hPl, by simp at h2 ⊢; omega, by simpa using h3, ?_⟩
  intro y hy
  rcases List.mem_cons.1 hy with rfl | hy
  · exact hl
  · exact h4 y hy

theorem outer_zero {c0 s : List FileD} {i : Nat} (h : Ins c0 s i 0) : Outer c0 s (i + 1) := by
  obtain ⟨hp, pre, x', post, rest, hs, h1, h2, h3, h4⟩ := h
  have : pre = [] := List.eq_nil_of_length_eq_zero h1
  subst this
  refine ⟨hp, ?_⟩
  have e : s.take (i + 1) = [] ++ x' :: post := by
    rw [hs]; simp at h2; subst h2; simp
  rw [e]
  exact srt_done byteLO h3 h4 (by simp)

theorem outer_stop {c0 s : List FileD} {i j : Nat} {x z : FileD} (h : Ins c0 s i (j + 1)) (hx : s[j + 1]? = some x) (hz : s[j]? = some z) (hl : fless x z = false) : Outer c0 s (i + 1) := by
  obtain ⟨hp, pre, x', post, rest, hs, h1, h2, h3, h4⟩ := h
  have ex : x' = x := ins_at hs h1 hx
  subst ex
  refine ⟨hp, ?_⟩
  have e : s.take (i + 1) = pre ++ x' :: post := by
    rw [hs]
    have e1 : pre ++ x' :: (post ++ rest) = (pre ++ x' :: post) ++ rest := by simp
    rw [e1, List.take_append_of_le_length (by simp; omega), List.take_of_length_le (by simp; omega)]
  rw [e]
  refine srt_done byteLO h3 h4 ?_
  intro y hy
  obtain ⟨P, rfl⟩ := List.getLast?_eq_some_iff.1 hy
  have hPl : P.length = j := by simpa using h1
  have ez : y = z := by
    subst hs
    rw [← hPl] at hz
    simpa using hz
  subst ez
  exact hl

theorem ins_swap' {c0 s : List FileD} {i p : Nat} {x z : FileD} (h1 : 1 ≤ p) (h : Ins c0 s i p) (hx : s[p]? = some x) (hz : s[p - 1]? = some z) (hl : fless x z = true) : Ins c0 ((s.set p z).set (p - 1) x) i (p - 1) := by
  obtain ⟨j, rfl⟩ : ∃ j, p = j + 1 := ⟨p - 1, by omega⟩
  exact ins_swap h hx hz hl

theorem outer_stop' {c0 s : List FileD} {i p : Nat} {x z : FileD} (h1 : 1 ≤ p) (h : Ins c0 s i p) (hx : s[p]? = some x) (hz : s[p - 1]? = some z) (hl : fless x z = false) : Outer c0 s (i + 1) := by
  obtain ⟨j, rfl⟩ : ∃ j, p = j + 1 := ⟨p - 1, by omega⟩
  exact outer_stop h hx hz hl

theorem outer_end {c0 s : List FileD} {i : Nat} (h : Outer c0 s i) (hl : s.length ≤ i) : s.Perm c0 ∧ srt s := by
  refine ⟨h.1, ?_⟩
  have := h.2
  rwa [List.take_of_length_le hl] at this

theorem outer_length {c0 s : List FileD} {i : Nat} (h : Outer c0 s i) : s.length = c0.length := h.1.length_eq
theorem ins_length {c0 s : List FileD} {i j : Nat} (h : Ins c0 s i j) : s.length = c0.length := h.1.length_eq

theorem strs_set (s : List FileD) (j : Nat) (z : FileD) : strs (s.set j z) = (strs s).set j (.string z.path) := by simp [strs, List.map_set]
theorem strs_get {s : List FileD} {j : Nat} {z : FileD} (h : s[j]? = some z) : (strs s)[j]? = some (.string z.path) := by simp [strs, h]
end Go.Proofs.Qxb6001683a
