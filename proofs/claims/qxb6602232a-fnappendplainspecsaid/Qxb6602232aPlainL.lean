/-
  The plain form as a list: no Go in sight.
-/
namespace Go.Proofs.Qxb6602232a

/-- what the switch of appendPlain appends: z, p: the zero and the point -/
def bodyL {α : Type} (z p : α) (ds : List α) (adj : Int) : List α :=
  if adj + 1 ≤ 0 then [z, p] ++ (List.replicate (-(adj + 1)).toNat z ++ ds)
  else if (ds.length : Int) ≤ adj + 1 then ds ++ List.replicate (adj + 1 - ds.length).toNat z
  else ds.take (adj + 1).toNat ++ p :: ds.drop (adj + 1).toNat

def plainL {α : Type} (z p m : α) (neg : Bool) (ds : List α) (adj : Int) : List α :=
  (if neg = true then [m] else []) ++ bodyL z p ds adj

theorem bodyL_map {α β : Type} (f : α → β) (z p : α) (ds : List α) (adj : Int) : (bodyL z p ds adj).map f = bodyL (f z) (f p) (ds.map f) adj := by
  unfold bodyL
  rw [List.length_map]
  split
  · simp
  · split
    · simp
    · simp [List.map_take, List.map_drop]

theorem plainL_map {α β : Type} (f : α → β) (z p m : α) (neg : Bool) (ds : List α) (adj : Int) : (plainL z p m neg ds adj).map f = plainL (f z) (f p) (f m) neg (ds.map f) adj := by
  unfold plainL
  rw [List.map_append, bodyL_map]
  split <;> rfl

theorem bodyL_length_le {α : Type} (z p : α) (ds : List α) (adj : Int) (h1 : -65536 ≤ adj) (h2 : adj ≤ 65536) : (bodyL z p ds adj).length ≤ ds.length + 65540 := by
  unfold bodyL
  split
  · simp; omega
  · split
    · simp; omega
    · simp; omega

theorem plainL_length {α : Type} (z p m : α) (neg : Bool) (ds : List α) (adj : Int) : ((plainL z p m neg ds adj).length : Int) =
    (if adj + 1 ≤ 0 then (ds.length : Int) + 1 + (1 - (adj + 1)) else if (ds.length : Int) ≤ adj + 1 then adj + 1 else ds.length + 1) + (if neg = true then 1 else 0) := by
  unfold plainL bodyL
  rw [List.length_append]
  cases neg
  · simp only [Bool.false_eq_true, if_false]
    split
    · simp; omega
    · split
      · simp; omega
      · simp; omega
  · simp only [if_true]
    split
    · simp; omega
    · split
      · simp; omega
      · simp; omega
end Go.Proofs.Qxb6602232a
