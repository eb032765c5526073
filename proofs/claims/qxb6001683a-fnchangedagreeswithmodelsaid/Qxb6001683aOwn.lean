/-
  Appends onto a slice that the call itself owns, whatever is appended (a slice, nil, a string): one law for the walk, and the frame that it leaves ('Adv').
-/
import Derived.WalkKit
import Derived.WalkSpells
import Derived.Deep.QuietTactic
import Derived.BigQuiet
import Derived.Deep.AppendSrc
import Derived.RegionTactic
namespace Go.Proofs.Qxb6001683a
open Go.RowKit
set_option linter.unusedVariables false
set_option linter.unusedSimpArgs false

/-- From (w0, v0) to (w, v): of what was there only v0's own row may have been written, and v lies in v0's row or in a new one. -/
structure Adv (w0 : World) (v0 : Value) (w : World) (v : Value) : Prop where
  grow : w0.grownBy w v0.ownBlock
  blk : v.ownBlock = v0.ownBlock ∨ ∀ k, v.ownBlock = some k → w0.heap.size ≤ k

theorem Adv.refl (w : World) (v : Value) : Adv w v w v := ⟨World.grownBy.refl _ _, .inl rfl⟩

theorem Adv.trans {w0 w1 w2 : World} {v0 v1 v2 : Value} (h : Adv w0 v0 w1 v1) (k : Adv w1 v1 w2 v2) : Adv w0 v0 w2 v2 := by
  refine ⟨⟨k.grow.os.trans h.grow.os, k.grow.tape.trans h.grow.tape, k.grow.output.trans h.grow.output, Nat.le_trans h.grow.size k.grow.size, fun i hi hne => ?_⟩, ?_⟩
  · refine (k.grow.block i (Nat.lt_of_lt_of_le hi h.grow.size) ?_).trans (h.grow.block i hi hne)
    intro e
    rcases h.blk with hb | hb
    · exact hne (e.trans hb)
    · have := hb i e.symm; omega
  · rcases k.blk with kb | kb
    · rcases h.blk with hb | hb
      · exact .inl (kb.trans hb)
      · exact .inr fun i hi => hb i (kb ▸ hi)
    · exact .inr fun i hi => Nat.le_trans h.grow.size (kb i hi)

theorem Adv.alloc {w0 w : World} {v0 v : Value} (h : Adv w0 v0 w v) (o : Obj) : Adv w0 v0 (w.alloc o) v :=
  h.trans ⟨World.grownBy_alloc w o _, .inl rfl⟩

theorem Adv.drew {w0 w : World} {v0 v : Value} (h : Adv w0 v0 w v) : Adv w0 v0 w.drew v := h.trans ⟨⟨rfl, rfl, rfl, Nat.le_refl _, fun _ _ _ => rfl⟩, .inl rfl⟩

theorem Adv.drewN {w0 w : World} {v0 v : Value} (h : Adv w0 v0 w v) (n : Nat) : Adv w0 v0 (w.drewN n) v :=
  h.trans ⟨⟨rfl, rfl, rfl, Nat.le_refl _, fun _ _ _ => rfl⟩, .inl rfl⟩

/-- 'Below' out of 'Adv'. -/
theorem Adv.below {w0 w : World} {v0 v : Value} (h : Adv w0 v0 w v) {B : Nat} (hB : B ≤ w0.heap.size) (hv : ∀ k, v0.ownBlock = some k → B ≤ k) : Below B w0 w :=
  (Below.refl B w0).grown h.grow hB hv

/-- Two values lie in different rows. -/
def Apart (d v : Value) : Prop := ∀ k, d.ownBlock = some k → v.ownBlock ≠ some k

theorem Apart.ne {d v : Value} (h : Apart d v) : d.ownBlock = none ∨ d.ownBlock ≠ v.ownBlock := by
  cases hk : d.ownBlock with
  | none => exact .inl rfl
  | some k => exact .inr fun e => h k hk e.symm

theorem Apart.symm {d v : Value} (h : Apart d v) : Apart v d := fun k hk hd => h k hd hk

/-- Another row is kept. -/
theorem Adv.kept {w0 w : World} {v0 v : Value} (h : Adv w0 v0 w v) {base : Nat} {e : TypeId} {size : Nat} {d : Value} {n : Nat} {xs : List Value} (hd : w0.ownsRow base e size d n xs) (hne : Apart d v0) : w.ownsRow base e size d n xs :=
  hd.kept h.grow hne.ne

/-- Two rows that are apart stay apart. -/
theorem Adv.apart {w0 w : World} {v0 v : Value} (h : Adv w0 v0 w v) {base : Nat} {e : TypeId} {size : Nat} {d : Value} {n : Nat} {xs : List Value} (hd : w0.ownsRow base e size d n xs) (hne : Apart d v0) : Apart d v := by
  intro k hk hv
  rcases h.blk with hb | hb
  · exact hne k hk (hb ▸ hv)
  · have h1 := hb k hv
    have h2 := (hd.lt k hk).2
    omega

section
variable {P : Program} (w : World)

/-- THE append ONTO AN OWNED ROW, whatever the source. -/
theorem run_append_src (base : Nat) (t tx ty e : TypeId) (i : TypeInfo) (z : Value) (size bytes : Nat) (ht : P.underlying t = some (.slice e)) (hi : P.info? e = some i) (hz : i.zero = some z)
    (hsize : i.size = size) (hby : i.bytes = bytes) (hzs : z.cells.size = size) (hsz : 0 < size)
    (v : Value) (n : Nat) (xs : List Value) (hown : w.ownsRow base e size v n xs)
    (x : Value) (m : Nat) (news : List Value) (hs : Src P size tx x m news w)
    (h63 : n + m ≤ maxLen) (hbytes : (n + m) * bytes ≤ 140737488355328) (hbase : base ≤ w.heap.size) :
    ∃ v' w', (Builtin.append_ #[t, tx] ty #[v, x]).run P w = .ok v' w' ∧ w'.ownsRow base e size v' (n + m) (xs ++ news) ∧ Adv w v w' v' := by
  subst hsize
  subst hby
  have hl := hs.newsLen
  have hsmall : n + m ≤ 9223372036854775807 := by simp only [maxLen] at h63; omega
  have hlen : (xs ++ news).length = (n + m) * i.size := by rw [List.length_append, hown.1, hl, Nat.add_mul]
  have grown : ∀ (old : Nat), old < n + m → ∀ (row : Option Nat),
      (w.drew.alloc (.cells ((xs ++ news).toArray ++ Builtin.zeroCells z.cells (grownCap w (n + m) old e - (n + m))) e)).ownsRow base e i.size
        (.slice (some ⟨w.heap.size, 0, none⟩) (n + m) (grownCap w (n + m) old e)) (n + m) (xs ++ news) ∧
      w.grownBy (w.drew.alloc (.cells ((xs ++ news).toArray ++ Builtin.zeroCells z.cells (grownCap w (n + m) old e - (n + m))) e)) row := by
    intro old ho row
    have hge := grownCap_ge w (n + m) old e
    have hcm : grownCap w (n + m) old e ≤ maxLen := grownCap_le_maxLen w (n + m) old e h63
    refine ⟨⟨hlen, .inr ⟨w.heap.size, _, _, rfl, hbase, heap_alloc_new w.drew _, hge, hcm, ?_, ?_⟩⟩, ⟨rfl, rfl, rfl, by simp, fun k hk _ => Below.heap_alloc w.drew _ k hk⟩⟩
    · simp only [Array.size_append, List.size_toArray, size_zeroCells, hzs, hlen, ← Nat.add_mul]
      congr 1
      omega
    · simp only [Array.toList_append]
      rw [← hlen]
      exact List.take_left
  rcases hown.2 with ⟨rfl, rfl⟩ | ⟨g, cap, cur, rfl, hbg, hg, hnc, hcm, hcs, htake⟩
  · have hx : xs = [] := List.eq_nil_of_length_eq_zero (by simpa using hown.1)
    subst hx
    by_cases hm : m = 0
    · subst hm
      have hn : news = [] := List.eq_nil_of_length_eq_zero (by simpa using hl)
      subst hn
      refine ⟨.slice none 0 0, w, ?_, World.ownsRow_nil w base e i.size, Adv.refl _ _⟩
      rcases hs.kind with ⟨e', hk⟩ | hk <;> simp [Builtin.append_, run_underlying ht, run_underlying hk, sizeOf, typeInfo, hi, hs.len, hs.cells]
    · have hr := run_append_grow_src (P := P) w t tx ty e i z ht hi hz none 0 0 [] (by simp [Builtin.firstCells]) x m news hs (by omega) (by omega) (growslice_fits (by omega) hbytes)
      have hgr := grown 0 (by omega) (Value.ownBlock (.slice none 0 0))
      exact ⟨_, _, hr, hgr.1, ⟨hgr.2, .inr (by simp [Value.ownBlock])⟩⟩
  · by_cases hroom : n + m ≤ cap
    · have hfit : n * i.size + news.length ≤ cur.size := by rw [hl, hcs, ← Nat.add_mul]; exact Nat.mul_le_mul_right _ hroom
      have hst := run_storeCells_at P g (n * i.size) e news 0 cur w hg (by simpa using hfit) hs.one
      simp only [Nat.add_zero] at hst
      have hr : (Builtin.append_ #[t, tx] ty #[.slice (some ⟨g, 0, none⟩) n cap, x]).run P w =
          .ok (.slice (some ⟨g, 0, none⟩) (n + m) cap) (w.setRow g (cur.toList.take (n * i.size) ++ news ++ cur.toList.drop (n * i.size + news.length)).toArray) := by
        rcases hs.kind with ⟨e', hk⟩ | hk <;> simp [Builtin.append_, run_underlying ht, run_underlying hk, sizeOf, typeInfo, hi, hs.len, hroom, hs.cells, Addr.add_lit, hst]
      refine ⟨_, _, hr, ⟨hlen, .inr ⟨g, cap, _, rfl, hbg, setRow_heap w g cur _ e _ hg, hroom, hcm, ?_, ?_⟩⟩, ⟨⟨rfl, rfl, rfl, by simp, fun k _ hk => setRow_other w g k _ (fun e => hk (by simp [Value.ownBlock, e]))⟩, .inl rfl⟩⟩
      · simp only [List.size_toArray, List.length_append, List.length_take, List.length_drop, Array.length_toList]
        omega
      · rw [htake, ← hlen]
        exact List.take_left
    · have holds : ∀ j u, xs[j]? = some u → w.cell? ((⟨g, 0, none⟩ : Addr).add j) = some u := hown.cells (g := g) rfl
      have hf := run_firstCells_some (P := P) w.drew i.size n ⟨g, 0, none⟩ n cap xs hown.1 (by simpa using holds)
      have hr := run_append_grow_src (P := P) w t tx ty e i z ht hi hz (some ⟨g, 0, none⟩) n cap xs hf x m news hs (by omega) (by omega) (growslice_fits (by omega) hbytes)
      have hgr := grown cap (by omega) (Value.ownBlock (.slice (some ⟨g, 0, none⟩) n cap))
      exact ⟨_, _, hr, hgr.1, ⟨hgr.2, .inr (by simp [Value.ownBlock])⟩⟩

theorem wpList_append_src {ops : Array Oper} {rest : List Oper} {o : Oper} {a : Act} {Q : Exit → Act → World → Prop} (hgd : o.guard = none) (s x : Operand) (t tx : TypeId)
    (ho : o.op = .call { callee := .builtin .append, args := #[s, x], argTypes := #[t, tx] })
    (base : Nat) (e : TypeId) (i : TypeInfo) (z : Value) (size bytes : Nat) (ht : P.underlying t = some (.slice e)) (hi : P.info? e = some i) (hz : i.zero = some z)
    (hsize : i.size = size) (hby : i.bytes = bytes) (hzs : z.cells.size = size) (hsz : 0 < size)
    (v : Value) (n : Nat) (xs : List Value) (hs : a.eval s = v) (hown : w.ownsRow base e size v n xs)
    (xv : Value) (m : Nat) (news : List Value) (hx : a.eval x = xv) (hsrc : Src P size tx xv m news w)
    (h63 : n + m ≤ maxLen) (hbytes : (n + m) * bytes ≤ 140737488355328) (hbase : base ≤ w.heap.size)
    (h : ∀ v' w', w'.ownsRow base e size v' (n + m) (xs ++ news) → Adv w v w' v' → wpList P ops Q rest (a.put o.dst v') w') : wpList P ops Q (o :: rest) a w := by
  refine wpList_plain hgd fun K hK => ?_
  obtain ⟨v', w', hr, h2, h3⟩ := run_append_src (P := P) w base t tx o.type e i z size bytes ht hi hz hsize hby hzs hsz v n xs hown xv m news hsrc h63 hbytes hbase
  unfold Oper.wp execOp
  simp only [ho, resolve, invoke, builtin, Sem.run_bind, Sem.run_pure, Result.andThen_ok, List.map_toArray, List.map_cons, List.map_nil, hs, hx, hr]
  exact hK _ _ (h v' w' h2 h3)

/-- the same at a step of a region that draws its order -/
theorem step_append_src {ops : Array Oper} {o : Oper} {a : Act} {K : Act → World → Prop} {Q : Exit → Act → World → Prop} {E : Prop} (hgd : o.guard = none) (s x : Operand) (t tx : TypeId)
    (ho : o.op = .call { callee := .builtin .append, args := #[s, x], argTypes := #[t, tx] })
    (base : Nat) (e : TypeId) (i : TypeInfo) (z : Value) (size bytes : Nat) (ht : P.underlying t = some (.slice e)) (hi : P.info? e = some i) (hz : i.zero = some z)
    (hsize : i.size = size) (hby : i.bytes = bytes) (hzs : z.cells.size = size) (hsz : 0 < size)
    (v : Value) (n : Nat) (xs : List Value) (hs : a.eval s = v) (hown : w.ownsRow base e size v n xs)
    (xv : Value) (m : Nat) (news : List Value) (hx : a.eval x = xv) (hsrc : Src P size tx xv m news w)
    (h63 : n + m ≤ maxLen) (hbytes : (n + m) * bytes ≤ 140737488355328) (hbase : base ≤ w.heap.size)
    (h : ∀ v' w', w'.ownsRow base e size v' (n + m) (xs ++ news) → Adv w v w' v' → K (a.put o.dst v') w') :
    if Region.wanted o (yielded ops a.tmps) = true then Oper.wp P o a w K Q else E := by
  have hw : Region.wanted o (yielded ops a.tmps) = true := by simp [Region.wanted, hgd]
  rw [if_pos hw]
  obtain ⟨v', w', hr, h2, h3⟩ := run_append_src (P := P) w base t tx o.type e i z size bytes ht hi hz hsize hby hzs hsz v n xs hown xv m news hsrc h63 hbytes hbase
  unfold Oper.wp execOp
  simp only [ho, resolve, invoke, builtin, Sem.run_bind, Sem.run_pure, Result.andThen_ok, List.map_toArray, List.map_cons, List.map_nil, hs, hx, hr]
  exact h v' w' h2 h3
end

section
variable {w w' : World} {e : TypeId} {size : Nat} {v : Value} {n : Nat} {xs : List Value}

theorem own_base {B B' : Nat} (h : w.ownsRow B e size v n xs) (hb : B' ≤ B) : w.ownsRow B' e size v n xs := by
  refine ⟨h.1, ?_⟩
  rcases h.2 with hn | ⟨g, cap, cur, hv, hg, r⟩
  · exact .inl hn
  · exact .inr ⟨g, cap, cur, hv, by omega, r⟩

theorem own_below {B : Nat} (h : w.ownsRow B e size v n xs) (hb : Below w.heap.size w w') : w'.ownsRow B e size v n xs := by
  refine ⟨h.1, ?_⟩
  rcases h.2 with hn | ⟨g, cap, cur, hv, hg, hh, r⟩
  · exact .inl hn
  · exact .inr ⟨g, cap, cur, hv, hg, by rw [hb.block g (Array.getElem?_eq_some_iff.1 hh).1]; exact hh, r⟩

theorem own_cast {B n' : Nat} {ys : List Value} (h : w.ownsRow B e size v n xs) (e1 : xs = ys) (e2 : n = n') : w.ownsRow B e size v n' ys := e1 ▸ e2 ▸ h

theorem own_pos {B : Nat} (h : w.ownsRow B e size v n xs) (hn : 0 < n) : ∃ g c, v = .slice (some ⟨g, 0, none⟩) n c ∧ n ≤ c ∧ c ≤ 9223372036854775807 ∧ B ≤ g ∧ g < w.heap.size := by
  rcases h.2 with ⟨_, h0⟩ | ⟨g, cap, cur, rfl, hb, hg, h1, h2, _⟩
  · omega
  · unfold maxLen at h2; exact ⟨g, cap, rfl, h1, by omega, hb, (Array.getElem?_eq_some_iff.1 hg).1⟩

theorem own_shape {B : Nat} (h : w.ownsRow B e size v n xs) : ∃ a c, v = .slice a n c := by
  rcases h.2 with ⟨rfl, rfl⟩ | ⟨g, cap, cur, rfl, _⟩
  · exact ⟨_, _, rfl⟩
  · exact ⟨_, _, rfl⟩
end
end Go.Proofs.Qxb6001683a
