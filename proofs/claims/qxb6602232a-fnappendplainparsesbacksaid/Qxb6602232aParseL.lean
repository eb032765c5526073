/-
  The plain form read back: no Go in sight.
-/
import Derived.Test.Qxb6602232aPlainL
namespace Go.Proofs.Qxb6602232a

/-- one byte of the text: a point notes how many digits stand before it; a digit is gathered -/
def pstep (s : List Int × Int) (c : Int) : List Int × Int := if c = 46 then (s.1, s.1.length) else (s.1 ++ [c], s.2)
def pst (l : List Int) : List Int × Int := l.foldl pstep ([], -1)

theorem pst_snoc (l : List Int) (c : Int) : pst (l ++ [c]) = pstep (pst l) c := by simp [pst, List.foldl_append]

theorem fold_digits (l : List Int) : ∀ s : List Int × Int, (∀ c ∈ l, c ≠ 46) → l.foldl pstep s = (s.1 ++ l, s.2) := by
  induction l with
  | nil => intro s _; simp
  | cons c l ih =>
    intro s h
    rw [List.foldl_cons, ih _ (fun x hx => h x (by simp [hx]))]
    have : c ≠ 46 := h c (by simp)
    simp [pstep, this]

theorem pst_plain (l : List Int) (h : ∀ c ∈ l, c ≠ 46) : pst l = (l, -1) := by
  unfold pst; rw [fold_digits l _ h]; simp

theorem pst_point (P Q : List Int) (hP : ∀ c ∈ P, c ≠ 46) (hQ : ∀ c ∈ Q, c ≠ 46) : pst (P ++ 46 :: Q) = (P ++ Q, (P.length : Int)) := by
  have h1 : pst (P ++ 46 :: Q) = Q.foldl pstep (pstep (pst P) 46) := by simp [pst, List.foldl_append]
  rw [h1, pst_plain P hP, fold_digits Q _ hQ]
  simp [pstep]

theorem pst_bd (l : List Int) : (pst l).1.length ≤ l.length ∧ -1 ≤ (pst l).2 ∧ (pst l).2 ≤ l.length := by
  suffices ∀ (l : List Int) (s : List Int × Int) (m : Nat), s.1.length ≤ m → -1 ≤ s.2 → s.2 ≤ m → (l.foldl pstep s).1.length ≤ m + l.length ∧ -1 ≤ (l.foldl pstep s).2 ∧ (l.foldl pstep s).2 ≤ (m + l.length : Nat) by
    simpa [pst] using this l ([], -1) 0 (by simp) (by simp) (by simp)
  intro l
  induction l with
  | nil => intro s m h1 h2 h3; exact ⟨by simpa using h1, h2, by simpa using h3⟩
  | cons c l ih =>
    intro s m h1 h2 h3
    rw [List.foldl_cons]
    have := ih (pstep s c) (m + 1) (by unfold pstep; split <;> simp <;> omega) (by unfold pstep; split <;> simp <;> omega) (by unfold pstep; split <;> simp <;> omega)
    simp only [List.length_cons]
    refine ⟨by omega, this.2.1, by omega⟩

/-- what reading the text back comes to -/
structure Form (ds : List Int) (adj : Int) (Bd : List Int) (D : List Int) (K : Int) (Z T : Nat) : Prop where
  fin : pst Bd = (D, K)
  mid : D = List.replicate Z 48 ++ (ds ++ List.replicate T 48)
  all : ∀ c ∈ Bd, c = 46 ∨ (48 ≤ c ∧ c ≤ 57)
  dot : ∀ j (h : j < Bd.length), Bd[j] = 46 → (pst (Bd.take j)).2 = -1
  way : (K = -1 ∧ (D.length : Int) - 1 - Z = adj ∧ ∀ c ∈ Bd, c ≠ 46) ∨ (1 ≤ K ∧ K < D.length ∧ K - 1 - Z = adj)

theorem no_dot {l : List Int} (h : ∀ c ∈ l, 48 ≤ c ∧ c ≤ 57) : ∀ c ∈ l, c ≠ 46 := fun c hc => by have := h c hc; omega

theorem dot_point (P Q : List Int) (hP : ∀ c ∈ P, c ≠ 46) (hQ : ∀ c ∈ Q, c ≠ 46) : ∀ j (h : j < (P ++ 46 :: Q).length), (P ++ 46 :: Q)[j] = 46 → (pst ((P ++ 46 :: Q).take j)).2 = -1 := by
  intro j h e
  rcases Nat.lt_trichotomy j P.length with hj | hj | hj
  · rw [List.getElem_append_left hj] at e
    exact absurd e (hP _ (List.getElem_mem _))
  · subst hj
    rw [List.take_left' rfl, pst_plain P hP]
  · rw [List.getElem_append_right (by omega)] at e
    obtain ⟨m, hm⟩ : ∃ m, j - P.length = m + 1 := ⟨j - P.length - 1, by omega⟩
    simp only [hm, List.getElem_cons_succ] at e
    exact absurd e (hQ _ (List.getElem_mem _))

theorem form_body (ds : List Int) (adj : Int) (hd : ∀ c ∈ ds, 48 ≤ c ∧ c ≤ 57) (hn : ds ≠ []) : ∃ D K Z T, Form ds adj (bodyL 48 46 ds adj) D K Z T := by
  have hlen : 0 < ds.length := List.length_pos_iff.2 hn
  unfold bodyL
  split
  · rename_i h
    have hQ : ∀ c ∈ List.replicate (-(adj + 1)).toNat (48 : Int) ++ ds, 48 ≤ c ∧ c ≤ 57 := by
      intro c hc
      rcases List.mem_append.1 hc with h | h
      · rw [List.eq_of_mem_replicate h]; omega
      · exact hd c h
    have hP : ∀ c ∈ ([48] : List Int), c ≠ 46 := by simp
    have e : ([48, 46] : List Int) ++ (List.replicate (-(adj + 1)).toNat (48 : Int) ++ ds) = [48] ++ 46 :: (List.replicate (-(adj + 1)).toNat (48 : Int) ++ ds) := rfl
    rw [e]
    refine ⟨_, _, (-(adj + 1)).toNat + 1, 0, ⟨pst_point _ _ hP (no_dot hQ), ?_, ?_, dot_point _ _ hP (no_dot hQ), .inr ?_⟩⟩
    · simp [List.replicate_succ]
    · intro c hc
      simp only [List.mem_append, List.mem_cons, List.not_mem_nil, or_false] at hc
      rcases hc with h | h | h
      · omega
      · omega
      · exact .inr (hQ c (List.mem_append.2 h))
    · simp; omega
  · split
    · rename_i h h2
      have hP : ∀ c ∈ ds ++ List.replicate (adj + 1 - ds.length).toNat (48 : Int), 48 ≤ c ∧ c ≤ 57 := by
        intro c hc
        rcases List.mem_append.1 hc with h | h
        · exact hd c h
        · rw [List.eq_of_mem_replicate h]; omega
      refine ⟨_, _, 0, (adj + 1 - ds.length).toNat, ⟨pst_plain _ (no_dot hP), ?_, fun c hc => .inr (hP c hc), fun j h e => absurd e (no_dot hP _ (List.getElem_mem _)), .inl ?_⟩⟩
      · simp
      · refine ⟨rfl, ?_, no_dot hP⟩
        simp; omega
    · rename_i h h2
      have hP : ∀ c ∈ ds.take (adj + 1).toNat, 48 ≤ c ∧ c ≤ 57 := fun c hc => hd c (List.mem_of_mem_take hc)
      have hQ : ∀ c ∈ ds.drop (adj + 1).toNat, 48 ≤ c ∧ c ≤ 57 := fun c hc => hd c (List.mem_of_mem_drop hc)
      refine ⟨_, _, 0, 0, ⟨pst_point _ _ (no_dot hP) (no_dot hQ), ?_, ?_, dot_point _ _ (no_dot hP) (no_dot hQ), .inr ?_⟩⟩
      · simp
      · intro c hc
        simp only [List.mem_append, List.mem_cons] at hc
        rcases hc with h | h | h
        · exact .inr (hP c h)
        · exact .inl h
        · exact .inr (hQ c h)
      · simp; omega

/-- the state of the reading ahead of place t of the text, whose plain form begins at place off -/
def stAt (Bd : List Int) (off t : Nat) : List Int × Int := pst (Bd.take (t - off))

theorem stAt_start (Bd : List Int) (off : Nat) : stAt Bd off off = ([], -1) := by simp [stAt, pst]

theorem stAt_end (Bd : List Int) (off n : Nat) (h : n = off + Bd.length) : stAt Bd off n = pst Bd := by
  unfold stAt; rw [List.take_of_length_le (by omega)]

theorem stAt_bd (Bd : List Int) (off t : Nat) (A : List Int) (kk : Int) (h : stAt Bd off t = (A, kk)) : A.length ≤ t ∧ -1 ≤ kk ∧ kk ≤ t := by
  have h1 := pst_bd (Bd.take (t - off))
  have h2 : (Bd.take (t - off)).length ≤ t - off := List.length_take_le _ _
  unfold stAt at h
  rw [h] at h1
  simp only at h1
  omega

theorem stAt_step {ds : List Int} {adj : Int} {Bd D L pre : List Int} {K : Int} {Z T : Nat} (hL : L = pre ++ Bd) (F : Form ds adj Bd D K Z T) (off t : Nat) (ho : pre.length = off) (h : off ≤ t) (ht : t < L.length) (A : List Int) (kk : Int)
    (hst : stAt Bd off t = (A, kk)) :
    (L[t] = 46 ∧ kk = -1 ∧ stAt Bd off (t + 1) = (A, (A.length : Int))) ∨ (48 ≤ L[t] ∧ L[t] ≤ 57 ∧ stAt Bd off (t + 1) = (A ++ [L[t]], kk)) := by
  subst hL
  have hb : t - off < Bd.length := by simp at ht; omega
  have e : (pre ++ Bd)[t] = Bd[t - off] := by rw [List.getElem_append_right (by omega)]; simp [ho]
  rw [e]
  have e2 : stAt Bd off (t + 1) = pstep (A, kk) Bd[t - off] := by
    unfold stAt at hst ⊢
    rw [show t + 1 - off = (t - off) + 1 by omega, List.take_succ_eq_append_getElem hb, pst_snoc, hst]
  rcases F.all _ (List.getElem_mem hb) with h46 | hd
  · refine .inl ⟨h46, ?_, ?_⟩
    · have := F.dot _ hb h46
      unfold stAt at hst
      rw [hst] at this
      exact this
    · rw [e2, h46]; simp [pstep]
  · refine .inr ⟨hd.1, hd.2, ?_⟩
    rw [e2]
    unfold pstep
    rw [if_neg (by omega)]

theorem plainL_le (neg : Bool) (ds : List Int) (adj : Int) (h1 : -65536 ≤ adj) (h2 : adj ≤ 65536) : (plainL (48 : Int) 46 45 neg ds adj).length ≤ ds.length + 65541 := by
  have h := bodyL_length_le (48 : Int) 46 ds adj h1 h2
  unfold plainL
  rw [List.length_append]
  have : (if neg = true then [(45 : Int)] else []).length ≤ 1 := by split <;> simp
  omega

theorem zeros_at {ds D : List Int} {Z T : Nat} (h : D = List.replicate Z 48 ++ (ds ++ List.replicate T 48)) (j : Nat) (hj : j < Z) (hjD : j < D.length) : D[j] = 48 := by
  subst h
  rw [List.getElem_append_left (by simpa using hj)]
  simp

theorem digs_at {ds D : List Int} {Z T : Nat} (h : D = List.replicate Z 48 ++ (ds ++ List.replicate T 48)) (j : Nat) (hj : j < ds.length) (hjD : Z + j < D.length) : D[Z + j] = ds[j] := by
  subst h
  rw [List.getElem_append_right (by simp), List.getElem_append_left (by simpa using hj)]
  simp

theorem tail_at {ds D : List Int} {Z T : Nat} (h : D = List.replicate Z 48 ++ (ds ++ List.replicate T 48)) (j : Nat) (hj : Z + ds.length ≤ j) (hjD : j < D.length) : D[j] = 48 := by
  subst h
  rw [List.getElem_append_right (by simp; omega), List.getElem_append_right (by simp; omega)]
  simp

theorem mid_length {ds D : List Int} {Z T : Nat} (h : D = List.replicate Z 48 ++ (ds ++ List.replicate T 48)) : D.length = Z + (ds.length + T) := by
  subst h; simp
end Go.Proofs.Qxb6602232a
