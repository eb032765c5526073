/-
  The walk over decimal positions, as a list: no Go in sight.
-/
import Derived.Test.Qxb6602232aPlainL
namespace Go.Proofs.Qxb6602232a

/-- what is written at position p -/
def piece (ds : List Int) (adj : Int) (pt : Bool) (p : Int) : List Int :=
  [if 0 ≤ adj - p ∧ adj - p < ds.length then ds.getD (adj - p).toNat 0 else 48] ++ (if p = 0 ∧ pt = true then [46] else [])

/-- what has been written behind t positions, the first of them hi -/
def mdl (ds : List Int) (adj : Int) (pt : Bool) (hi : Int) (t : Nat) : List Int := (List.range t).flatMap fun j : Nat => piece ds adj pt (hi - (j : Int))

theorem mdl_zero (ds : List Int) (adj : Int) (pt : Bool) (hi : Int) : mdl ds adj pt hi 0 = [] := rfl

theorem mdl_succ (ds : List Int) (adj : Int) (pt : Bool) (hi : Int) (t : Nat) : mdl ds adj pt hi (t + 1) = mdl ds adj pt hi t ++ piece ds adj pt (hi - t) := by
  unfold mdl
  rw [List.range_succ, List.flatMap_append]
  simp

theorem mdl_add (ds : List Int) (adj : Int) (pt : Bool) (hi : Int) (a : Nat) : ∀ b, mdl ds adj pt hi (a + b) = mdl ds adj pt hi a ++ mdl ds adj pt (hi - a) b := by
  intro b
  induction b with
  | zero => simp [mdl_zero]
  | succ b ih =>
    rw [← Nat.add_assoc, mdl_succ, ih, mdl_succ, List.append_assoc]
    congr 3
    omega

/-- positions that stand before the digits, and not at the units: zeros -/
theorem mdl_zeros (ds : List Int) (adj : Int) (pt : Bool) (n : Nat) : ∀ (hi : Int), (∀ j : Nat, j < n → (adj < hi - j ∨ (ds.length : Int) ≤ adj - (hi - j)) ∧ (hi - j ≠ 0 ∨ pt = false)) → mdl ds adj pt hi n = List.replicate n 48 := by
  induction n with
  | zero => intro hi _; rfl
  | succ n ih =>
    intro hi h
    rw [mdl_succ, ih hi (fun j hj => h j (by omega)), List.replicate_succ']
    congr 1
    have := h n (by omega)
    unfold piece
    rw [if_neg (by omega), if_neg (by rintro ⟨h1, h2⟩; rcases this.2 with h3 | h3 <;> simp_all)]
    rfl

/-- positions that bear digits, none of them the units with a point -/
theorem mdl_digits (ds : List Int) (adj : Int) (pt : Bool) (s n : Nat) (hs : s + n ≤ ds.length) : (∀ j : Nat, j < n → ((adj - s - j ≠ 0) ∨ pt = false)) → mdl ds adj pt (adj - s) n = (ds.drop s).take n := by
  induction n with
  | zero => intro _; simp [mdl_zero]
  | succ n ih =>
    intro h
    rw [mdl_succ, ih (by omega) (fun j hj => h j (by omega)), List.take_succ_eq_append_getElem (by simp; omega)]
    congr 1
    have h1 := h n (by omega)
    unfold piece
    have e : (adj - (adj - s - n)).toNat = s + n := by omega
    rw [if_pos (by omega), if_neg (by rintro ⟨h2, h3⟩; rcases h1 with h4 | h4 <;> simp_all), e]
    simp [List.getD, show s + n < ds.length by omega]

theorem mdl_one (ds : List Int) (adj : Int) (pt : Bool) (hi : Int) : mdl ds adj pt hi 1 = piece ds adj pt hi := by
  rw [show (1 : Nat) = 0 + 1 from rfl, mdl_succ, mdl_zero]; simp

/-- below one -/
theorem mdl_low (ds : List Int) (adj : Int) (h : adj + 1 ≤ 0) (t : Nat) (ht : (t : Int) = 0 - (adj - ds.length + 1) + 1) : mdl ds adj true 0 t = bodyL 48 46 ds adj := by
  obtain ⟨q, hq⟩ : ∃ q : Nat, (q : Int) = -(adj + 1) := ⟨(-(adj + 1)).toNat, by omega⟩
  obtain rfl : t = 1 + (q + ds.length) := by omega
  rw [mdl_add, mdl_add, mdl_one]
  have e1 : piece ds adj true 0 = [48, 46] := by
    unfold piece
    rw [if_neg (by omega), if_pos ⟨rfl, rfl⟩]; rfl
  rw [e1, mdl_zeros ds adj true q _ (by intro j hj; refine ⟨by omega, .inl (by omega)⟩)]
  have e2 : (0 : Int) - ((1 : Nat) : Int) - (q : Int) = adj - ((0 : Nat) : Int) := by omega
  rw [e2, mdl_digits ds adj true 0 ds.length (by omega) (by intro j hj; exact .inl (by omega))]
  unfold bodyL
  rw [if_pos h]
  have e3 : (-(adj + 1)).toNat = q := by omega
  rw [e3]
  simp

/-- an integer -/
theorem mdl_high (ds : List Int) (adj : Int) (h : 0 < adj + 1) (h2 : (ds.length : Int) ≤ adj + 1) (t : Nat) (ht : (t : Int) = adj + 1) : mdl ds adj false adj t = bodyL 48 46 ds adj := by
  obtain ⟨q, hq⟩ : ∃ q : Nat, (q : Int) = adj + 1 - ds.length := ⟨(adj + 1 - ds.length).toNat, by omega⟩
  obtain rfl : t = ds.length + q := by omega
  rw [mdl_add]
  have e0 : adj = adj - ((0 : Nat) : Int) := by omega
  have e1 : mdl ds adj false adj ds.length = ds := by
    have := mdl_digits ds adj false 0 ds.length (by omega) (by intro j hj; exact .inr rfl)
    rw [← e0] at this
    rw [this]
    simp
  rw [e1, mdl_zeros ds adj false q _ (by intro j hj; refine ⟨by omega, .inr rfl⟩)]
  unfold bodyL
  rw [if_neg (by omega), if_pos h2]
  have e3 : (adj + 1 - ds.length).toNat = q := by omega
  rw [e3]

/-- a point among the digits -/
theorem mdl_mid (ds : List Int) (adj : Int) (h : 0 < adj + 1) (h2 : adj + 1 < (ds.length : Int)) (t : Nat) (ht : (t : Int) = ds.length) : mdl ds adj true adj t = bodyL 48 46 ds adj := by
  obtain ⟨q, hq⟩ : ∃ q : Nat, (q : Int) = adj := ⟨adj.toNat, by omega⟩
  obtain rfl : t = q + (1 + (ds.length - (q + 1))) := by omega
  have e0 : adj = adj - ((0 : Nat) : Int) := by omega
  rw [mdl_add, mdl_add, mdl_one]
  have e1 : mdl ds adj true adj q = ds.take q := by
    have := mdl_digits ds adj true 0 q (by omega) (by intro j hj; exact .inl (by omega))
    rw [← e0] at this
    rw [this]
    simp
  have e2 : piece ds adj true (adj - q) = [ds.getD q 0, 46] := by
    unfold piece
    have e : (adj - (adj - q)).toNat = q := by omega
    rw [if_pos (by omega), if_pos ⟨by omega, rfl⟩, e]; rfl
  have e3 : adj - (q : Int) - ((1 : Nat) : Int) = adj - ((q + 1 : Nat) : Int) := by omega
  rw [e1, e2, e3, mdl_digits ds adj true (q + 1) (ds.length - (q + 1)) (by omega) (by intro j hj; exact .inl (by omega))]
  unfold bodyL
  rw [if_neg (by omega), if_neg (by omega)]
  have e4 : (adj + 1).toNat = q + 1 := by omega
  rw [e4, List.take_succ_eq_append_getElem (show q < ds.length by omega)]
  have e5 : ds.getD q 0 = ds[q] := by simp [List.getD, show q < ds.length by omega]
  rw [e5, List.take_of_length_le (l := ds.drop (q + 1)) (by simp)]
  simp only [List.append_assoc, List.cons_append, List.nil_append]
end Go.Proofs.Qxb6602232a
