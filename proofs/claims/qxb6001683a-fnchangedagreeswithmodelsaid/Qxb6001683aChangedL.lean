/-
  A merge of two rising lists, against search and insertion: no Go in sight.
-/
namespace Go.Proofs.Qxb6001683a
set_option linter.unusedVariables false
set_option linter.unusedSimpArgs false

section
variable {K F : Type} (lt : K → K → Bool) (key : F → K) (same : F → F → Bool)

/-- a strict linear order -/
structure LO : Prop where
  irr : ∀ a, lt a a = false
  trans : ∀ a b c, lt a b = true → lt b c = true → lt a c = true
  tri : ∀ a b, lt a b = false → lt b a = false → a = b

/-- strictly rising by key -/
def Inc (l : List F) : Prop := l.Pairwise fun a b => lt (key a) (key b) = true

/-- the merge -/
def mrg : Nat → List F → List F → List F
  | 0, _, _ => []
  | _ + 1, [], [] => []
  | n + 1, a :: as, [] => a :: mrg n as []
  | n + 1, [], b :: bs => b :: mrg n [] bs
  | n + 1, a :: as, b :: bs =>
    if lt (key a) (key b) = true then a :: mrg n as (b :: bs)
    else if lt (key b) (key a) = true then b :: mrg n (a :: as) bs
    else if same a b = true then mrg n as bs else b :: mrg n as bs

/-- a key that is in one list alone, or held differently -/
def Chg (as bs : List F) (k : K) : Prop :=
  (∃ a ∈ as, key a = k ∧ ∀ b ∈ bs, key b = k → same a b = false) ∨ (∃ b ∈ bs, key b = k ∧ ∀ a ∈ as, key a ≠ k)

variable {lt key same}

theorem Inc.tail {a : F} {as : List F} (h : Inc lt key (a :: as)) : Inc lt key as := (List.pairwise_cons.1 h).2
theorem Inc.head {a : F} {as : List F} (h : Inc lt key (a :: as)) : ∀ x ∈ as, lt (key a) (key x) = true := (List.pairwise_cons.1 h).1

theorem LO.ne (L : LO lt) {a b : K} (h : lt a b = true) : a ≠ b := by
  intro e; subst e; rw [L.irr] at h; cases h
theorem LO.asym (L : LO lt) {a b : K} (h : lt a b = true) : lt b a = false := by
  cases hb : lt b a with
  | false => rfl
  | true => have := L.trans a b a h hb; rw [L.irr] at this; cases this

/-- what the merge gives: rising; just the changed keys; all of it from the two lists -/
theorem mrg_spec (L : LO lt) : ∀ (n : Nat) (as bs : List F), as.length + bs.length ≤ n → Inc lt key as → Inc lt key bs →
    Inc lt key (mrg lt key same n as bs) ∧ (∀ k, k ∈ (mrg lt key same n as bs).map key ↔ Chg key same as bs k) ∧ (∀ x ∈ mrg lt key same n as bs, x ∈ as ∨ x ∈ bs) := by
  intro n
  induction n with
  | zero =>
    intro as bs h _ _
    have e1 : as = [] := List.eq_nil_of_length_eq_zero (by omega)
    have e2 : bs = [] := List.eq_nil_of_length_eq_zero (by omega)
    subst e1; subst e2
    refine ⟨List.Pairwise.nil, fun k => ?_, fun x hx => by cases hx⟩
    constructor
    · intro h; cases h
    · rintro (⟨a, ha, _⟩ | ⟨b, hb, _⟩)
      · cases ha
      · cases hb
  | succ n ih =>
    intro as bs h ha hb
    match as, bs, h, ha, hb with
    | [], [], h, ha, hb =>
      refine ⟨List.Pairwise.nil, fun k => ?_, fun x hx => by cases hx⟩
      constructor
      · intro h; cases h
      · rintro (⟨a, ha, _⟩ | ⟨b, hb, _⟩)
        · cases ha
        · cases hb
    | a :: as, [], h, ha, hb =>
      obtain ⟨i1, i2, i3⟩ := ih as [] (by simp at h ⊢; omega) ha.tail hb
      simp only [mrg]
      refine ⟨List.pairwise_cons.2 ⟨fun x hx => ?_, i1⟩, fun k => ?_, fun x hx => ?_⟩
      · rcases i3 x hx with h | h
        · exact ha.head x h
        · cases h
      · rw [List.map_cons, List.mem_cons, i2 k]
        constructor
        · rintro (rfl | h)
          · exact .inl ⟨a, by simp, rfl, fun b hb => by cases hb⟩
          · rcases h with ⟨x, hx, h1, h2⟩ | ⟨x, hx, _⟩
            · exact .inl ⟨x, by simp [hx], h1, h2⟩
            · cases hx
        · rintro (⟨x, hx, h1, h2⟩ | ⟨x, hx, _⟩)
          · rcases List.mem_cons.1 hx with rfl | hx
            · exact .inl h1.symm
            · exact .inr (.inl ⟨x, hx, h1, h2⟩)
          · cases hx
      · rcases List.mem_cons.1 hx with rfl | hx
        · exact .inl (by simp)
        · rcases i3 x hx with h | h
          · exact .inl (by simp [h])
          · cases h
    | [], b :: bs, h, ha, hb =>
      obtain ⟨i1, i2, i3⟩ := ih [] bs (by simp at h ⊢; omega) ha hb.tail
      simp only [mrg]
      refine ⟨List.pairwise_cons.2 ⟨fun x hx => ?_, i1⟩, fun k => ?_, fun x hx => ?_⟩
      · rcases i3 x hx with h | h
        · cases h
        · exact hb.head x h
      · rw [List.map_cons, List.mem_cons, i2 k]
        constructor
        · rintro (rfl | h)
          · exact .inr ⟨b, by simp, rfl, fun a ha => by cases ha⟩
          · rcases h with ⟨x, hx, _⟩ | ⟨x, hx, h1, h2⟩
            · cases hx
            · exact .inr ⟨x, by simp [hx], h1, h2⟩
        · rintro (⟨x, hx, _⟩ | ⟨x, hx, h1, h2⟩)
          · cases hx
          · rcases List.mem_cons.1 hx with rfl | hx
            · exact .inl h1.symm
            · exact .inr (.inr ⟨x, hx, h1, h2⟩)
      · rcases List.mem_cons.1 hx with rfl | hx
        · exact .inr (by simp)
        · rcases i3 x hx with h | h
          · cases h
          · exact .inr (by simp [h])
    | a :: as, b :: bs, h, ha, hb =>
      simp only [List.length_cons] at h
      simp only [mrg]
      by_cases c1 : lt (key a) (key b) = true
      · rw [if_pos c1]
        obtain ⟨i1, i2, i3⟩ := ih as (b :: bs) (by simp only [List.length_cons]; omega) ha.tail hb
        have below : ∀ x ∈ b :: bs, lt (key a) (key x) = true := by
          intro x hx
          rcases List.mem_cons.1 hx with rfl | hx
          · exact c1
          · exact L.trans _ _ _ c1 (hb.head x hx)
        refine ⟨List.pairwise_cons.2 ⟨fun x hx => ?_, i1⟩, fun k => ?_, fun x hx => ?_⟩
        · rcases i3 x hx with h | h
          · exact ha.head x h
          · exact below x h
        · rw [List.map_cons, List.mem_cons, i2 k]
          constructor
          · rintro (rfl | h)
            · exact .inl ⟨a, by simp, rfl, fun x hx e => absurd e.symm (L.ne (below x hx))⟩
            · rcases h with ⟨x, hx, h1, h2⟩ | ⟨x, hx, h1, h2⟩
              · exact .inl ⟨x, by simp [hx], h1, h2⟩
              · refine .inr ⟨x, hx, h1, fun y hy => ?_⟩
                rcases List.mem_cons.1 hy with rfl | hy
                · rw [← h1]; exact L.ne (below x hx)
                · exact h2 y hy
          · rintro (⟨x, hx, h1, h2⟩ | ⟨x, hx, h1, h2⟩)
            · rcases List.mem_cons.1 hx with rfl | hx
              · exact .inl h1.symm
              · exact .inr (.inl ⟨x, hx, h1, h2⟩)
            · exact .inr (.inr ⟨x, hx, h1, fun y hy => h2 y (by simp [hy])⟩)
        · rcases List.mem_cons.1 hx with rfl | hx
          · exact .inl (by simp)
          · rcases i3 x hx with h | h
            · exact .inl (by simp [h])
            · exact .inr h
      · rw [if_neg c1]
        have c1' : lt (key a) (key b) = false := by simpa using c1
        by_cases c2 : lt (key b) (key a) = true
        · rw [if_pos c2]
          obtain ⟨i1, i2, i3⟩ := ih (a :: as) bs (by simp only [List.length_cons]; omega) ha hb.tail
          have below : ∀ x ∈ a :: as, lt (key b) (key x) = true := by
            intro x hx
            rcases List.mem_cons.1 hx with rfl | hx
            · exact c2
            · exact L.trans _ _ _ c2 (ha.head x hx)
          refine ⟨List.pairwise_cons.2 ⟨fun x hx => ?_, i1⟩, fun k => ?_, fun x hx => ?_⟩
          · rcases i3 x hx with h | h
            · exact below x h
            · exact hb.head x h
          · rw [List.map_cons, List.mem_cons, i2 k]
            constructor
            · rintro (rfl | h)
              · exact .inr ⟨b, by simp, rfl, fun x hx e => absurd e.symm (L.ne (below x hx))⟩
              · rcases h with ⟨x, hx, h1, h2⟩ | ⟨x, hx, h1, h2⟩
                · refine .inl ⟨x, hx, h1, fun y hy e => ?_⟩
                  rcases List.mem_cons.1 hy with rfl | hy
                  · exact absurd (e.trans h1.symm) (L.ne (below x hx))
                  · exact h2 y hy e
                · exact .inr ⟨x, by simp [hx], h1, h2⟩
            · rintro (⟨x, hx, h1, h2⟩ | ⟨x, hx, h1, h2⟩)
              · exact .inr (.inl ⟨x, hx, h1, fun y hy => h2 y (by simp [hy])⟩)
              · rcases List.mem_cons.1 hx with rfl | hx
                · exact .inl h1.symm
                · exact .inr (.inr ⟨x, hx, h1, h2⟩)
          · rcases List.mem_cons.1 hx with rfl | hx
            · exact .inr (by simp)
            · rcases i3 x hx with h | h
              · exact .inl h
              · exact .inr (by simp [h])
        · rw [if_neg c2]
          have c2' : lt (key b) (key a) = false := by simpa using c2
          have ek : key a = key b := L.tri _ _ c1' c2'
          obtain ⟨i1, i2, i3⟩ := ih as bs (by omega) ha.tail hb.tail
          have ha' : ∀ x ∈ as, lt (key b) (key x) = true := fun x hx => ek ▸ ha.head x hx
          have hb' : ∀ x ∈ bs, lt (key b) (key x) = true := hb.head
          -- the keys behind the heads
          have rest : ∀ k, k ≠ key b → (Chg key same (a :: as) (b :: bs) k ↔ Chg key same as bs k) := by
            intro k hk
            constructor
            · rintro (⟨x, hx, h1, h2⟩ | ⟨x, hx, h1, h2⟩)
              · rcases List.mem_cons.1 hx with rfl | hx
                · exact absurd (h1.symm.trans ek) hk
                · exact .inl ⟨x, hx, h1, fun y hy => h2 y (by simp [hy])⟩
              · rcases List.mem_cons.1 hx with rfl | hx
                · exact absurd h1.symm hk
                · exact .inr ⟨x, hx, h1, fun y hy => h2 y (by simp [hy])⟩
            · rintro (⟨x, hx, h1, h2⟩ | ⟨x, hx, h1, h2⟩)
              · refine .inl ⟨x, by simp [hx], h1, fun y hy e => ?_⟩
                rcases List.mem_cons.1 hy with rfl | hy
                · exact absurd e.symm hk
                · exact h2 y hy e
              · refine .inr ⟨x, by simp [hx], h1, fun y hy e => ?_⟩
                rcases List.mem_cons.1 hy with rfl | hy
                · exact absurd (e.symm.trans ek) hk
                · exact h2 y hy e
          have none : ¬ Chg key same as bs (key b) := by
            rintro (⟨x, hx, h1, _⟩ | ⟨x, hx, h1, _⟩)
            · exact absurd h1.symm (L.ne (ha' x hx))
            · exact absurd h1.symm (L.ne (hb' x hx))
          by_cases c3 : same a b = true
          · rw [if_pos c3]
            refine ⟨i1, fun k => ?_, fun x hx => ?_⟩
            · rw [i2 k]
              by_cases hk : k = key b
              · subst hk
                refine ⟨fun h => absurd h none, ?_⟩
                rintro (⟨x, hx, h1, h2⟩ | ⟨x, hx, h1, h2⟩)
                · rcases List.mem_cons.1 hx with rfl | hx
                  · have := h2 b (by simp) rfl
                    rw [c3] at this; cases this
                  · exact absurd h1.symm (L.ne (ha' x hx))
                · exact absurd ek (h2 a (by simp))
              · exact (rest k hk).symm
            · rcases i3 x hx with h | h
              · exact .inl (by simp [h])
              · exact .inr (by simp [h])
          · rw [if_neg c3]
            have c3' : same a b = false := by simpa using c3
            refine ⟨List.pairwise_cons.2 ⟨fun x hx => ?_, i1⟩, fun k => ?_, fun x hx => ?_⟩
            · rcases i3 x hx with h | h
              · exact ha' x h
              · exact hb' x h
            · rw [List.map_cons, List.mem_cons, i2 k]
              by_cases hk : k = key b
              · subst hk
                refine ⟨fun _ => .inl ⟨a, by simp, ek, fun y hy e => ?_⟩, fun _ => .inl rfl⟩
                rcases List.mem_cons.1 hy with rfl | hy
                · exact c3'
                · exact absurd e.symm (L.ne (hb' y hy))
              · rw [rest k hk]
                exact ⟨fun h => h.resolve_left hk, .inr⟩
            · rcases List.mem_cons.1 hx with rfl | hx
              · exact .inr (by simp)
              · rcases i3 x hx with h | h
                · exact .inl (by simp [h])
                · exact .inr (by simp [h])

/-- two strictly rising lists of keys with the same members are one -/
theorem inc_eq (L : LO lt) : ∀ (a b : List K), a.Pairwise (fun x y => lt x y = true) → b.Pairwise (fun x y => lt x y = true) → (∀ k, k ∈ a ↔ k ∈ b) → a = b := by
  intro a
  induction a with
  | nil =>
    intro b _ _ h
    cases b with
    | nil => rfl
    | cons y b => exact absurd ((h y).2 (by simp)) (by simp)
  | cons x a ih =>
    intro b ha hb h
    cases b with
    | nil => exact absurd ((h x).1 (by simp)) (by simp)
    | cons y b =>
      obtain ⟨ha1, ha2⟩ := List.pairwise_cons.1 ha
      obtain ⟨hb1, hb2⟩ := List.pairwise_cons.1 hb
      have exy : x = y := by
        have h1 := (h x).1 (by simp)
        have h2 := (h y).2 (by simp)
        rcases List.mem_cons.1 h1 with e | h1
        · exact e
        · rcases List.mem_cons.1 h2 with e | h2
          · exact e.symm
          · have := L.trans _ _ _ (ha1 y h2) (hb1 x h1)
            rw [L.irr] at this; cases this
      subst exy
      congr 1
      refine ih b ha2 hb2 fun k => ?_
      constructor
      · intro hk
        rcases List.mem_cons.1 ((h k).1 (by simp [hk])) with e | h3
        · subst e; have := ha1 k hk; rw [L.irr] at this; cases this
        · exact h3
      · intro hk
        rcases List.mem_cons.1 ((h k).2 (by simp [hk])) with e | h3
        · subst e; have := hb1 k hk; rw [L.irr] at this; cases this
        · exact h3
end
end Go.Proofs.Qxb6001683a
