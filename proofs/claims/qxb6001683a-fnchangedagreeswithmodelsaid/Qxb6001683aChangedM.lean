/-
  Search and insertion: no Go in sight.
-/
import Derived.Test.Qxb6001683aChangedL
namespace Go.Proofs.Qxb6001683a
set_option linter.unusedVariables false
set_option linter.unusedSimpArgs false
set_option linter.unusedSectionVars false

section
variable {K F : Type} [DecidableEq K] (lt : K → K → Bool) (key : F → K) (same : F → F → Bool)

/-- of was: what now lacks or holds otherwise -/
def pW (now : List F) (a : F) : Bool := match now.find? (fun b => key b == key a) with
  | none => true
  | some b => !(same a b)
/-- of now: what was lacks -/
def qW (was : List F) (b : F) : Bool := !(was.any fun a => key a == key b)

def cand (was now : List F) : List F := was.filter (pW key same now) ++ now.filter (qW key was)

/-- sorted: nothing stands behind a greater one -/
def Srt (l : List F) : Prop := l.Pairwise fun a b => lt (key b) (key a) = false

variable {lt key same}

theorem pW_iff (L : LO lt) {now : List F} (hn : Inc lt key now) (a : F) : pW key same now a = true ↔ ∀ b ∈ now, key b = key a → same a b = false := by
  unfold pW
  cases hf : now.find? (fun b => key b == key a) with
  | none =>
    simp only [true_iff]
    intro b hb e
    have := List.find?_eq_none.1 hf b hb
    simp [e] at this
  | some c =>
    have hc := List.mem_of_find?_eq_some hf
    have hk : key c = key a := by simpa using List.find?_some hf
    simp only [Bool.not_eq_true']
    constructor
    · intro h b hb e
      have : b = c := by
        -- one key, one element
        have uniq : ∀ (l : List F), Inc lt key l → ∀ x ∈ l, ∀ y ∈ l, key x = key y → x = y := by
          intro l hl
          induction l with
          | nil => intro x hx; cases hx
          | cons z l ih =>
            intro x hx y hy exy
            rcases List.mem_cons.1 hx with hx1 | hx1
            · rcases List.mem_cons.1 hy with hy1 | hy1
              · rw [hx1, hy1]
              · rw [hx1] at exy; exact absurd exy (L.ne (hl.head y hy1))
            · rcases List.mem_cons.1 hy with hy1 | hy1
              · rw [hy1] at exy; exact absurd exy.symm (L.ne (hl.head x hx1))
              · exact ih hl.tail x hx1 y hy1 exy
        exact uniq now hn b hb c hc (e.trans hk.symm)
      rw [this]; exact h
    · intro h; exact h c hc hk

theorem qW_iff {was : List F} (b : F) : qW key was b = true ↔ ∀ a ∈ was, key a ≠ key b := by
  unfold qW
  simp

theorem cand_mem (L : LO lt) {was now : List F} (hn : Inc lt key now) (k : K) : k ∈ (cand key same was now).map key ↔ Chg key same was now k := by
  unfold cand Chg
  rw [List.map_append, List.mem_append]
  constructor
  · rintro (h | h)
    · obtain ⟨a, ha, rfl⟩ := List.mem_map.1 h
      obtain ⟨h1, h2⟩ := List.mem_filter.1 ha
      exact .inl ⟨a, h1, rfl, (pW_iff L hn a).1 h2⟩
    · obtain ⟨b, hb, rfl⟩ := List.mem_map.1 h
      obtain ⟨h1, h2⟩ := List.mem_filter.1 hb
      exact .inr ⟨b, h1, rfl, qW_iff b |>.1 h2⟩
  · rintro (⟨a, h1, rfl, h2⟩ | ⟨b, h1, rfl, h2⟩)
    · exact .inl (List.mem_map.2 ⟨a, List.mem_filter.2 ⟨h1, (pW_iff L hn a).2 h2⟩, rfl⟩)
    · exact .inr (List.mem_map.2 ⟨b, List.mem_filter.2 ⟨h1, qW_iff b |>.2 h2⟩, rfl⟩)

theorem inc_ne (L : LO lt) {l : List F} (h : Inc lt key l) : l.Pairwise fun a b => key a ≠ key b := List.Pairwise.imp (fun hab => L.ne hab) h

theorem cand_nodup (L : LO lt) {was now : List F} (hw : Inc lt key was) (hn : Inc lt key now) : (cand key same was now).Pairwise fun a b => key a ≠ key b := by
  unfold cand
  refine List.pairwise_append.2 ⟨(inc_ne L hw).filter _, (inc_ne L hn).filter _, fun a ha b hb => ?_⟩
  exact (qW_iff b).1 (List.mem_filter.1 hb).2 a (List.mem_filter.1 ha).1

/-- THE PLAIN LAW: whatever sorts the candidates gives the merge's keys -/
theorem sorted_eq (L : LO lt) {was now s : List F} {n : Nat} (hw : Inc lt key was) (hn : Inc lt key now) (hl : was.length + now.length ≤ n) (hp : s.Perm (cand key same was now)) (hs : Srt lt key s) :
    (mrg lt key same n was now).map key = s.map key := by
  obtain ⟨m1, m2, _⟩ := mrg_spec (same := same) L n was now hl hw hn
  have hnd : s.Pairwise fun a b => key a ≠ key b := hp.symm.pairwise (cand_nodup L hw hn) (fun h => Ne.symm h)
  refine inc_eq L _ _ (List.pairwise_map.2 m1) (List.pairwise_map.2 ?_) fun k => ?_
  · have := List.Pairwise.and hs hnd
    refine List.Pairwise.imp (fun {a b} h => ?_) this
    cases hab : lt (key a) (key b) with
    | true => rfl
    | false => exact absurd (L.tri _ _ hab h.1) h.2
  · rw [m2 k, ← cand_mem (same := same) L hn k]
    exact (hp.map key).mem_iff.symm

/-! ### the insertion -/
theorem swap_set {α : Type} (A R : List α) (z x : α) (m : Nat) (hm : A.length + 1 = m) : ((A ++ z :: x :: R).set m z).set (m - 1) x = A ++ x :: z :: R := by
  subst hm
  rw [List.set_append_right _ _ (by omega), List.set_append_right _ _ (by simp)]
  simp

theorem srt_done (L : LO lt) {pre post : List F} {x : F} (h : Srt lt key (pre ++ post)) (hx : ∀ y ∈ post, lt (key x) (key y) = true) (hl : ∀ z, pre.getLast? = some z → lt (key x) (key z) = false) : Srt lt key (pre ++ x :: post) := by
  obtain ⟨h1, h2, h3⟩ := List.pairwise_append.1 h
  refine List.pairwise_append.2 ⟨h1, List.pairwise_cons.2 ⟨fun y hy => L.asym (hx y hy), h2⟩, fun a ha b hb => ?_⟩
  rcases List.mem_cons.1 hb with rfl | hb
  · -- a stands in pre: not above b
    cases hg : pre.getLast? with
    | none =>
      rw [List.getLast?_eq_none_iff] at hg
      subst hg; cases ha
    | some z =>
      have hz := hl z hg
      obtain ⟨p, rfl⟩ := List.getLast?_eq_some_iff.1 hg
      rcases List.mem_append.1 ha with ha | ha
      · have hza : lt (key z) (key a) = false := (List.pairwise_append.1 h1).2.2 a ha z (by simp)
        cases hba : lt (key b) (key a) with
        | false => rfl
        | true =>
          -- b < a ≤ z: b < z
          cases haz : lt (key a) (key z) with
          | true => have := L.trans _ _ _ hba haz; rw [hz] at this; cases this
          | false => rw [L.tri _ _ haz hza] at hba; rw [hz] at hba; cases hba
      · simp at ha; subst ha; exact hz
  · exact h3 a ha b hb
end
end Go.Proofs.Qxb6001683a
