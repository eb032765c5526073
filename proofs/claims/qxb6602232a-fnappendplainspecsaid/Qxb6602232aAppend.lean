/-
  appendPlain (function 21), ZZAppendPlain (function 16).
-/
import Derived.Test.Qxb6602232aZeros
import Derived.Test.Qxb6602232aPlainL
namespace Go.Proofs.Qxb6602232a
open Go.RowKit
set_option linter.unusedVariables false
set_option linter.unusedSimpArgs false

theorem appendZeros_any (v : Value) (n : Int) (w : World) (B : Nat) (k : Nat) (zs : List Value) (hv : w.ownsRow B 5 1 v k zs) (hB : B ≤ w.heap.size) (h0 : 0 ≤ n) (hN : n ≤ 2097152) (hz : k ≤ 8388608) :
    Calls Try.prog 24 #[v, .int .i64 n] w fun e w' => ∃ v', e = .returned v' ∧ w'.ownsRow B 5 1 v' (k + n.toNat) (zs ++ List.replicate n.toNat (.int .u8 48)) ∧ Adv w v w' v' := by
  obtain ⟨N, rfl⟩ : ∃ N : Nat, n = N := ⟨n.toNat, by omega⟩
  have e : zs.length = k := by simpa using hv.1
  subst e
  exact appendZeros_some v N w B zs hv hB (by omega) (by omega)

theorem src_own {w : World} {B : Nat} {a : Option Addr} {n c : Nat} {ds : List Value} (h : w.ownsRow B 5 1 (.slice a n c) n ds) (h1 : ∀ u ∈ ds, u.oneCell' = true) : Src Try.prog 1 22 (.slice a n c) n ds w := by
  rcases h.2 with ⟨hv, rfl⟩ | ⟨g, cap, cur, hv, _, hg, _⟩
  · obtain ⟨rfl, _, rfl⟩ := (by simpa using hv : a = none ∧ True ∧ c = 0)
    have : ds = [] := List.eq_nil_of_length_eq_zero (by simpa using h.1)
    subst this
    exact Src.ofNil _ Try.underlying22 0
  · obtain ⟨rfl, _⟩ := (by simpa using hv : a = some ⟨g, 0, none⟩ ∧ c = cap)
    exact Src.ofSlice _ Try.underlying22 ⟨g, 0, none⟩ n c ds (by simpa using h.1) (h.cells rfl) h1

theorem src_dot0 (w : World) : Src Try.prog 1 9 (.string { data := #[48, 46] }) 2 [.int .u8 48, .int .u8 46] w :=
  Src.ofString w Try.underlying9 { data := #[48, 46] }

/-- an append of bytes onto an owned row -/
theorem own_assoc {w : World} {B : Nat} {v : Value} {n : Nat} {xs ys : List Value} (h : w.ownsRow B 5 1 v n xs) (e : xs = ys) : w.ownsRow B 5 1 v n ys := e ▸ h

theorem bodyL_low {α : Type} (z p : α) (ds : List α) (adj : Int) (h : adj + 1 ≤ 0) : bodyL z p ds adj = [z, p] ++ (List.replicate (-(adj + 1)).toNat z ++ ds) := by
  unfold bodyL; rw [if_pos h]
theorem bodyL_high {α : Type} (z p : α) (ds : List α) (adj : Int) (h : ¬ adj + 1 ≤ 0) (h2 : (ds.length : Int) ≤ adj + 1) : bodyL z p ds adj = ds ++ List.replicate (adj + 1 - ds.length).toNat z := by
  unfold bodyL; rw [if_neg h, if_pos h2]
theorem bodyL_mid {α : Type} (z p : α) (ds : List α) (adj : Int) (h : ¬ adj + 1 ≤ 0) (h2 : ¬ (ds.length : Int) ≤ adj + 1) : bodyL z p ds adj = ds.take (adj + 1).toNat ++ p :: ds.drop (adj + 1).toNat := by
  unfold bodyL; rw [if_neg h, if_neg h2]

set_option maxHeartbeats 400000 in
/-- below one: "0." and zeros and the digits -/
theorem appendPlain_low_false (v : Value) (a : Option Addr) (n c : Nat) (adj : Int) (w : World) (B k : Nat) (zs ds : List Value) (hv : w.ownsRow B 5 1 v k zs) (hd : w.ownsRow B 5 1 (.slice a n c) n ds) (h1 : ∀ u ∈ ds, u.oneCell' = true)
    (hap : Apart (.slice a n c) v) (hB : B ≤ w.heap.size) (hk : k ≤ 2097152) (hn : n ≤ 2097152) (ha1 : -65536 ≤ adj) (ha3 : adj ≤ 65536) (ha2 : adj + 1 ≤ 0) :
    Calls Try.prog 21 #[v, .bool false, .slice a n c, .int .i64 adj] w fun e w' => ∃ v' m, e = .returned v' ∧ w'.ownsRow B 5 1 v' m (zs ++ (bodyL (.int .u8 48) (.int .u8 46) ds adj)) ∧ Adv w v w' v' := by
  obtain ⟨i0, hi, hz0, hz1, hz2⟩ := info_parts info5
  have hdl : ds.length = n := by simpa using hd.1
  rw [bodyL_low _ _ _ _ ha2]
  have hc1 : ¬ (n : Int) ≤ -1 := by omega
  go_enter Try.func21, Try.ntmps21
  have hszN := Nat.le_refl w.heap.size
  go_wp2_with (at_builtin; refine wpList_append_src _ rfl (.tmp 32) _ 22 9 rfl B 5 i0 (.int .u8 0) 1 1 Try.underlying22 hi hz0 hz1 hz2 rfl (by decide) _ _ _ rfl hv _ 2 [.int .u8 48, .int .u8 46] rfl (src_dot0 _) ?c1 ?c2 (by first | omega | (simp; omega)) ?_)
  case c1 => unfold maxLen; omega
  case c2 => omega
  intro v1 w1 hown1 hadv1
  have A1 := (Adv.refl w v).trans hadv1
  have hsz1 := hadv1.grow.size
  clear hadv1
  go_wp2_with fail
  refine (appendZeros_any _ _ _ B _ _ hown1 (by omega) (by omega) (by omega) (by omega)).mono ?_
  rintro e w2 ⟨v2, rfl, hown2, hadv2⟩
  have A2 := A1.trans hadv2
  have hsz2 := hadv2.grow.size
  have hd2 := A2.kept hd hap
  clear hadv2 hown1
  go_wp2_with (at_builtin; refine wpList_append_src _ rfl (.tmp 38) _ 22 22 rfl B 5 i0 (.int .u8 0) 1 1 Try.underlying22 hi hz0 hz1 hz2 rfl (by decide) _ _ _ rfl hown2 _ n ds rfl (src_own hd2 h1) ?d1 ?d2 (by first | omega | (simp; omega)) ?_)
  case d1 => unfold maxLen; omega
  case d2 => omega
  intro v3 w3 hown3 hadv3
  have A3 := A2.trans hadv3
  clear hadv3 hown2 hd2 
  go_wp2
  go_ret
  exact ⟨_, _, rfl, own_assoc hown3 (by simp), A3⟩

set_option maxHeartbeats 400000 in
/-- an integer: the digits and zeros -/
theorem appendPlain_high_false (v : Value) (a : Option Addr) (n c : Nat) (adj : Int) (w : World) (B k : Nat) (zs ds : List Value) (hv : w.ownsRow B 5 1 v k zs) (hd : w.ownsRow B 5 1 (.slice a n c) n ds) (h1 : ∀ u ∈ ds, u.oneCell' = true)
    (hap : Apart (.slice a n c) v) (hB : B ≤ w.heap.size) (hk : k ≤ 2097152) (hn : n ≤ 2097152) (ha1 : -65536 ≤ adj) (ha3 : adj ≤ 65536) (ha2 : ¬ adj + 1 ≤ 0) (ha4 : (n : Int) ≤ adj + 1) :
    Calls Try.prog 21 #[v, .bool false, .slice a n c, .int .i64 adj] w fun e w' => ∃ v' m, e = .returned v' ∧ w'.ownsRow B 5 1 v' m (zs ++ (bodyL (.int .u8 48) (.int .u8 46) ds adj)) ∧ Adv w v w' v' := by
  obtain ⟨i0, hi, hz0, hz1, hz2⟩ := info_parts info5
  have hdl : ds.length = n := by simpa using hd.1
  rw [bodyL_high _ _ _ _ ha2 (by omega), hdl]
  go_enter Try.func21, Try.ntmps21
  have hszN := Nat.le_refl w.heap.size
  go_wp2_with (at_builtin; refine wpList_append_src _ rfl (.tmp 46) _ 22 22 rfl B 5 i0 (.int .u8 0) 1 1 Try.underlying22 hi hz0 hz1 hz2 rfl (by decide) _ _ _ rfl hv _ n ds rfl (src_own hd h1) ?c1 ?c2 (by first | omega | (simp; omega)) ?_)
  case c1 => unfold maxLen; omega
  case c2 => omega
  intro v1 w1 hown1 hadv1
  have A1 := (Adv.refl w v).trans hadv1
  have hsz1 := hadv1.grow.size
  clear hadv1
  go_wp2_with fail
  refine (appendZeros_any _ _ _ B _ _ hown1 (by omega) (by omega) (by omega) (by omega)).mono ?_
  rintro e w2 ⟨v2, rfl, hown2, hadv2⟩
  have A2 := A1.trans hadv2
  clear hadv2 hown1
  go_wp2
  go_ret
  exact ⟨_, _, rfl, own_assoc hown2 (by simp), A2⟩

set_option maxHeartbeats 400000 in
/-- below one: "0." and zeros and the digits -/
theorem appendPlain_low_true (v : Value) (a : Option Addr) (n c : Nat) (adj : Int) (w : World) (B k : Nat) (zs ds : List Value) (hv : w.ownsRow B 5 1 v k zs) (hd : w.ownsRow B 5 1 (.slice a n c) n ds) (h1 : ∀ u ∈ ds, u.oneCell' = true)
    (hap : Apart (.slice a n c) v) (hB : B ≤ w.heap.size) (hk : k ≤ 2097152) (hn : n ≤ 2097152) (ha1 : -65536 ≤ adj) (ha3 : adj ≤ 65536) (ha2 : adj + 1 ≤ 0) :
    Calls Try.prog 21 #[v, .bool true, .slice a n c, .int .i64 adj] w fun e w' => ∃ v' m, e = .returned v' ∧ w'.ownsRow B 5 1 v' m (zs ++ ([.int .u8 45] ++ bodyL (.int .u8 48) (.int .u8 46) ds adj)) ∧ Adv w v w' v' := by
  obtain ⟨i0, hi, hz0, hz1, hz2⟩ := info_parts info5
  have hdl : ds.length = n := by simpa using hd.1
  rw [bodyL_low _ _ _ _ ha2]
  have hc1 : ¬ (n : Int) ≤ -1 := by omega
  go_enter Try.func21, Try.ntmps21
  go_wp2_with (at_builtin; refine wpList_append_src _ rfl (.tmp 11) _ 22 22 rfl B 5 i0 (.int .u8 0) 1 1 Try.underlying22 hi hz0 hz1 hz2 rfl (by decide) _ _ _ rfl (hv.alloc _) _ 1 [.int .u8 45] rfl (src_one w 45) ?n1 ?n2 (by first | omega | (simp; omega)) ?_)
  case n1 => unfold maxLen; omega
  case n2 => omega
  intro vn wn hownN hadvN
  have AN := ((Adv.refl w v).alloc _).trans hadvN
  have hdN := AN.kept hd hap
  have hapN := AN.apart hd hap
  have hszN := AN.grow.size
  clear hadvN
  go_wp2_with (at_builtin; refine wpList_append_src _ rfl (.tmp 32) _ 22 9 rfl B 5 i0 (.int .u8 0) 1 1 Try.underlying22 hi hz0 hz1 hz2 rfl (by decide) _ _ _ rfl hownN _ 2 [.int .u8 48, .int .u8 46] rfl (src_dot0 _) ?c1 ?c2 (by first | omega | (simp; omega)) ?_)
  case c1 => unfold maxLen; omega
  case c2 => omega
  intro v1 w1 hown1 hadv1
  have A1 := AN.trans hadv1
  have hsz1 := hadv1.grow.size
  clear hadv1
  go_wp2_with fail
  refine (appendZeros_any _ _ _ B _ _ hown1 (by omega) (by omega) (by omega) (by omega)).mono ?_
  rintro e w2 ⟨v2, rfl, hown2, hadv2⟩
  have A2 := A1.trans hadv2
  have hsz2 := hadv2.grow.size
  have hd2 := A2.kept hd hap
  clear hadv2 hown1
  go_wp2_with (at_builtin; refine wpList_append_src _ rfl (.tmp 38) _ 22 22 rfl B 5 i0 (.int .u8 0) 1 1 Try.underlying22 hi hz0 hz1 hz2 rfl (by decide) _ _ _ rfl hown2 _ n ds rfl (src_own hd2 h1) ?d1 ?d2 (by first | omega | (simp; omega)) ?_)
  case d1 => unfold maxLen; omega
  case d2 => omega
  intro v3 w3 hown3 hadv3
  have A3 := A2.trans hadv3
  clear hadv3 hown2 hd2 
  go_wp2
  go_ret
  exact ⟨_, _, rfl, own_assoc hown3 (by simp), A3⟩

set_option maxHeartbeats 400000 in
/-- an integer: the digits and zeros -/
theorem appendPlain_high_true (v : Value) (a : Option Addr) (n c : Nat) (adj : Int) (w : World) (B k : Nat) (zs ds : List Value) (hv : w.ownsRow B 5 1 v k zs) (hd : w.ownsRow B 5 1 (.slice a n c) n ds) (h1 : ∀ u ∈ ds, u.oneCell' = true)
    (hap : Apart (.slice a n c) v) (hB : B ≤ w.heap.size) (hk : k ≤ 2097152) (hn : n ≤ 2097152) (ha1 : -65536 ≤ adj) (ha3 : adj ≤ 65536) (ha2 : ¬ adj + 1 ≤ 0) (ha4 : (n : Int) ≤ adj + 1) :
    Calls Try.prog 21 #[v, .bool true, .slice a n c, .int .i64 adj] w fun e w' => ∃ v' m, e = .returned v' ∧ w'.ownsRow B 5 1 v' m (zs ++ ([.int .u8 45] ++ bodyL (.int .u8 48) (.int .u8 46) ds adj)) ∧ Adv w v w' v' := by
  obtain ⟨i0, hi, hz0, hz1, hz2⟩ := info_parts info5
  have hdl : ds.length = n := by simpa using hd.1
  rw [bodyL_high _ _ _ _ ha2 (by omega), hdl]
  go_enter Try.func21, Try.ntmps21
  go_wp2_with (at_builtin; refine wpList_append_src _ rfl (.tmp 11) _ 22 22 rfl B 5 i0 (.int .u8 0) 1 1 Try.underlying22 hi hz0 hz1 hz2 rfl (by decide) _ _ _ rfl (hv.alloc _) _ 1 [.int .u8 45] rfl (src_one w 45) ?n1 ?n2 (by first | omega | (simp; omega)) ?_)
  case n1 => unfold maxLen; omega
  case n2 => omega
  intro vn wn hownN hadvN
  have AN := ((Adv.refl w v).alloc _).trans hadvN
  have hdN := AN.kept hd hap
  have hapN := AN.apart hd hap
  have hszN := AN.grow.size
  clear hadvN
  go_wp2_with (at_builtin; refine wpList_append_src _ rfl (.tmp 46) _ 22 22 rfl B 5 i0 (.int .u8 0) 1 1 Try.underlying22 hi hz0 hz1 hz2 rfl (by decide) _ _ _ rfl hownN _ n ds rfl (src_own hdN h1) ?c1 ?c2 (by first | omega | (simp; omega)) ?_)
  case c1 => unfold maxLen; omega
  case c2 => omega
  intro v1 w1 hown1 hadv1
  have A1 := AN.trans hadv1
  have hsz1 := hadv1.grow.size
  clear hadv1
  go_wp2_with fail
  refine (appendZeros_any _ _ _ B _ _ hown1 (by omega) (by omega) (by omega) (by omega)).mono ?_
  rintro e w2 ⟨v2, rfl, hown2, hadv2⟩
  have A2 := A1.trans hadv2
  clear hadv2 hown1
  go_wp2
  go_ret
  exact ⟨_, _, rfl, own_assoc hown2 (by simp), A2⟩

theorem src_take {w : World} {B : Nat} {g n c : Nat} {ds : List Value} (h : w.ownsRow B 5 1 (.slice (some ⟨g, 0, none⟩) n c) n ds) (h1 : ∀ u ∈ ds, u.oneCell' = true) (m : Nat) (hm : m ≤ n) : Src Try.prog 1 22 (.slice (some ⟨g, 0, none⟩) m c) m (ds.take m) w := by
  have hl : ds.length = n := by simpa using h.1
  refine Src.ofSlice _ Try.underlying22 ⟨g, 0, none⟩ m c (ds.take m) (by simp; omega) ?_ (fun u hu => h1 u (List.mem_of_mem_take hu))
  intro j u hu
  rw [List.getElem?_take] at hu
  split at hu
  · exact h.cells rfl j u hu
  · cases hu

theorem src_drop {w : World} {B : Nat} {g n c : Nat} {ds : List Value} (h : w.ownsRow B 5 1 (.slice (some ⟨g, 0, none⟩) n c) n ds) (h1 : ∀ u ∈ ds, u.oneCell' = true) (m c' : Nat) : Src Try.prog 1 22 (.slice (some ⟨g, m, none⟩) (n - m) c') (n - m) (ds.drop m) w := by
  have hl : ds.length = n := by simpa using h.1
  refine Src.ofSlice _ Try.underlying22 ⟨g, m, none⟩ (n - m) c' (ds.drop m) (by simp; omega) ?_ (fun u hu => h1 u (List.mem_of_mem_drop hu))
  intro j u hu
  rw [List.getElem?_drop] at hu
  have := h.cells rfl (m + j) u hu
  simpa [Addr.add_lit] using this

set_option maxHeartbeats 400000 in
/-- a point among the digits -/
theorem appendPlain_mid_false (v : Value) (g n c : Nat) (adj : Int) (w : World) (B k : Nat) (zs ds : List Value) (hv : w.ownsRow B 5 1 v k zs) (hd : w.ownsRow B 5 1 (.slice (some ⟨g, 0, none⟩) n c) n ds) (h1 : ∀ u ∈ ds, u.oneCell' = true)
    (hap : Apart (.slice (some ⟨g, 0, none⟩) n c) v) (hB : B ≤ w.heap.size) (hk : k ≤ 2097152) (hn : n ≤ 2097152) (hnc : n ≤ c) (hc : c ≤ 9223372036854775807) (ha1 : -65536 ≤ adj) (ha3 : adj ≤ 65536) (ha2 : 0 < adj + 1) (ha4 : adj + 1 < (n : Int)) :
    Calls Try.prog 21 #[v, .bool false, .slice (some ⟨g, 0, none⟩) n c, .int .i64 adj] w fun e w' => ∃ v' m, e = .returned v' ∧ w'.ownsRow B 5 1 v' m (zs ++ (bodyL (.int .u8 48) (.int .u8 46) ds adj)) ∧ Adv w v w' v' := by
  obtain ⟨i0, hi, hz0, hz1, hz2⟩ := info_parts info5
  have hdl : ds.length = n := by simpa using hd.1
  rw [bodyL_mid _ _ _ _ (by omega) (by omega)]
  go_enter Try.func21, Try.ntmps21
  have hszN := Nat.le_refl w.heap.size
  go_wp2_with (at_builtin; refine wpList_append_src _ rfl (.tmp 16) _ 22 22 rfl B 5 i0 (.int .u8 0) 1 1 Try.underlying22 hi hz0 hz1 hz2 rfl (by decide) _ _ _ rfl hv _ (adj + 1).toNat (ds.take (adj + 1).toNat) rfl (src_take hd h1 _ (by omega)) ?c1 ?c2 (by first | omega | (simp; omega)) ?_)
  case c1 => unfold maxLen; omega
  case c2 => omega
  intro v1 w1 hown1 hadv1
  have A1 := (Adv.refl w v).trans hadv1
  have hsz1 := A1.grow.size
  clear hadv1
  go_wp2_with (at_builtin; refine wpList_append_src _ rfl (.tmp 21) _ 22 22 rfl B 5 i0 (.int .u8 0) 1 1 Try.underlying22 hi hz0 hz1 hz2 rfl (by decide) _ _ _ rfl (hown1.alloc _) _ 1 [.int .u8 46] rfl (src_one w1 46) ?d1 ?d2 (by first | omega | (simp; omega)) ?_)
  case d1 => unfold maxLen; omega
  case d2 => omega
  intro v2 w2 hown2 hadv2
  have A2 := (A1.alloc _).trans hadv2
  have hsz2 := A2.grow.size
  have hd2 := A2.kept hd hap
  clear hadv2 hown1
  go_wp2_with (at_builtin; refine wpList_append_src _ rfl (.tmp 24) _ 22 22 rfl B 5 i0 (.int .u8 0) 1 1 Try.underlying22 hi hz0 hz1 hz2 rfl (by decide) _ _ _ rfl hown2 _ (n - (adj + 1).toNat) (ds.drop (adj + 1).toNat) rfl (src_drop hd2 h1 _ _) ?e1 ?e2 (by first | omega | (simp; omega)) ?_)
  case e1 => unfold maxLen; omega
  case e2 => omega
  intro v3 w3 hown3 hadv3
  have A3 := A2.trans hadv3
  clear hadv3 hown2 hd2
  go_wp2
  go_ret
  exact ⟨_, _, rfl, own_assoc hown3 (by simp), A3⟩

set_option maxHeartbeats 400000 in
/-- a point among the digits -/
theorem appendPlain_mid_true (v : Value) (g n c : Nat) (adj : Int) (w : World) (B k : Nat) (zs ds : List Value) (hv : w.ownsRow B 5 1 v k zs) (hd : w.ownsRow B 5 1 (.slice (some ⟨g, 0, none⟩) n c) n ds) (h1 : ∀ u ∈ ds, u.oneCell' = true)
    (hap : Apart (.slice (some ⟨g, 0, none⟩) n c) v) (hB : B ≤ w.heap.size) (hk : k ≤ 2097152) (hn : n ≤ 2097152) (hnc : n ≤ c) (hc : c ≤ 9223372036854775807) (ha1 : -65536 ≤ adj) (ha3 : adj ≤ 65536) (ha2 : 0 < adj + 1) (ha4 : adj + 1 < (n : Int)) :
    Calls Try.prog 21 #[v, .bool true, .slice (some ⟨g, 0, none⟩) n c, .int .i64 adj] w fun e w' => ∃ v' m, e = .returned v' ∧ w'.ownsRow B 5 1 v' m (zs ++ ([.int .u8 45] ++ bodyL (.int .u8 48) (.int .u8 46) ds adj)) ∧ Adv w v w' v' := by
  obtain ⟨i0, hi, hz0, hz1, hz2⟩ := info_parts info5
  have hdl : ds.length = n := by simpa using hd.1
  rw [bodyL_mid _ _ _ _ (by omega) (by omega)]
  go_enter Try.func21, Try.ntmps21
  go_wp2_with (at_builtin; refine wpList_append_src _ rfl (.tmp 11) _ 22 22 rfl B 5 i0 (.int .u8 0) 1 1 Try.underlying22 hi hz0 hz1 hz2 rfl (by decide) _ _ _ rfl (hv.alloc _) _ 1 [.int .u8 45] rfl (src_one w 45) ?n1 ?n2 (by first | omega | (simp; omega)) ?_)
  case n1 => unfold maxLen; omega
  case n2 => omega
  intro vn wn hownN hadvN
  have AN := ((Adv.refl w v).alloc _).trans hadvN
  have hdN := AN.kept hd hap
  have hszN := AN.grow.size
  clear hadvN
  go_wp2_with (at_builtin; refine wpList_append_src _ rfl (.tmp 16) _ 22 22 rfl B 5 i0 (.int .u8 0) 1 1 Try.underlying22 hi hz0 hz1 hz2 rfl (by decide) _ _ _ rfl hownN _ (adj + 1).toNat (ds.take (adj + 1).toNat) rfl (src_take hdN h1 _ (by omega)) ?c1 ?c2 (by first | omega | (simp; omega)) ?_)
  case c1 => unfold maxLen; omega
  case c2 => omega
  intro v1 w1 hown1 hadv1
  have A1 := AN.trans hadv1
  have hsz1 := A1.grow.size
  clear hadv1
  go_wp2_with (at_builtin; refine wpList_append_src _ rfl (.tmp 21) _ 22 22 rfl B 5 i0 (.int .u8 0) 1 1 Try.underlying22 hi hz0 hz1 hz2 rfl (by decide) _ _ _ rfl (hown1.alloc _) _ 1 [.int .u8 46] rfl (src_one w1 46) ?d1 ?d2 (by first | omega | (simp; omega)) ?_)
  case d1 => unfold maxLen; omega
  case d2 => omega
  intro v2 w2 hown2 hadv2
  have A2 := (A1.alloc _).trans hadv2
  have hsz2 := A2.grow.size
  have hd2 := A2.kept hd hap
  clear hadv2 hown1
  go_wp2_with (at_builtin; refine wpList_append_src _ rfl (.tmp 24) _ 22 22 rfl B 5 i0 (.int .u8 0) 1 1 Try.underlying22 hi hz0 hz1 hz2 rfl (by decide) _ _ _ rfl hown2 _ (n - (adj + 1).toNat) (ds.drop (adj + 1).toNat) rfl (src_drop hd2 h1 _ _) ?e1 ?e2 (by first | omega | (simp; omega)) ?_)
  case e1 => unfold maxLen; omega
  case e2 => omega
  intro v3 w3 hown3 hadv3
  have A3 := A2.trans hadv3
  clear hadv3 hown2 hd2
  go_wp2
  go_ret
  exact ⟨_, _, rfl, own_assoc hown3 (by simp), A3⟩

/-- appendPlain: what it appends is 'plainL' -/
theorem appendPlain_any (v : Value) (neg : Bool) (a : Option Addr) (n c : Nat) (adj : Int) (w : World) (B k : Nat) (zs ds : List Value) (hv : w.ownsRow B 5 1 v k zs) (hd : w.ownsRow B 5 1 (.slice a n c) n ds) (h1 : ∀ u ∈ ds, u.oneCell' = true)
    (hap : Apart (.slice a n c) v) (hB : B ≤ w.heap.size) (hk : k ≤ 2097152) (hn : n ≤ 2097152) (ha1 : -65536 ≤ adj) (ha3 : adj ≤ 65536) :
    Calls Try.prog 21 #[v, .bool neg, .slice a n c, .int .i64 adj] w fun e w' => ∃ v' m, e = .returned v' ∧ w'.ownsRow B 5 1 v' m (zs ++ plainL (.int .u8 48) (.int .u8 46) (.int .u8 45) neg ds adj) ∧ Adv w v w' v' := by
  unfold plainL
  by_cases c1 : adj + 1 ≤ 0
  · cases neg
    · simpa using appendPlain_low_false v a n c adj w B k zs ds hv hd h1 hap hB hk hn ha1 ha3 c1
    · simpa using appendPlain_low_true v a n c adj w B k zs ds hv hd h1 hap hB hk hn ha1 ha3 c1
  · by_cases c2 : (n : Int) ≤ adj + 1
    · cases neg
      · simpa using appendPlain_high_false v a n c adj w B k zs ds hv hd h1 hap hB hk hn ha1 ha3 c1 c2
      · simpa using appendPlain_high_true v a n c adj w B k zs ds hv hd h1 hap hB hk hn ha1 ha3 c1 c2
    · rcases hd.2 with ⟨_, h0⟩ | ⟨g, cap, cur, he, _, _, hnc, hcm, _⟩
      · omega
      · obtain ⟨rfl, rfl⟩ := (by simpa using he : a = some ⟨g, 0, none⟩ ∧ c = cap)
        unfold maxLen at hcm
        cases neg
        · simpa using appendPlain_mid_false v g n c adj w B k zs ds hv hd h1 hap hB hk hn hnc (by omega) ha1 ha3 (by omega) (by omega)
        · simpa using appendPlain_mid_true v g n c adj w B k zs ds hv hd h1 hap hB hk hn hnc (by omega) ha1 ha3 (by omega) (by omega)

theorem zzAppendPlain_any (v : Value) (neg : Bool) (a : Option Addr) (n c : Nat) (adj : Int) (w : World) (B k : Nat) (zs ds : List Value) (hv : w.ownsRow B 5 1 v k zs) (hd : w.ownsRow B 5 1 (.slice a n c) n ds) (h1 : ∀ u ∈ ds, u.oneCell' = true)
    (hap : Apart (.slice a n c) v) (hB : B ≤ w.heap.size) (hk : k ≤ 2097152) (hn : n ≤ 2097152) (ha1 : -65536 ≤ adj) (ha3 : adj ≤ 65536) :
    Calls Try.prog 16 #[v, .bool neg, .slice a n c, .int .i64 adj] w fun e w' => ∃ v' m, e = .returned v' ∧ w'.ownsRow B 5 1 v' m (zs ++ plainL (.int .u8 48) (.int .u8 46) (.int .u8 45) neg ds adj) ∧ Adv w v w' v' := by
  go_enter Try.func16, Try.ntmps16
  go_wp2_with fail
  refine (appendPlain_any v neg a n c adj w B k zs ds hv hd h1 hap hB hk hn ha1 ha3).mono ?_
  rintro e w' ⟨v', m, rfl, hown, hadv⟩
  go_wp2
  go_ret
  exact ⟨_, _, rfl, hown, hadv⟩

theorem own_shape {w : World} {B : Nat} {v : Value} {n : Nat} {xs : List Value} (h : w.ownsRow B 5 1 v n xs) : ∃ a c, v = .slice a n c := by
  rcases h.2 with ⟨rfl, rfl⟩ | ⟨g, cap, cur, rfl, _⟩
  · exact ⟨_, _, rfl⟩
  · exact ⟨_, _, rfl⟩

/-- the same, the result written as a slice of the length that it has -/
theorem zzAppendPlain_slice (v : Value) (neg : Bool) (a : Option Addr) (n c : Nat) (adj : Int) (w : World) (B k : Nat) (zs ds : List Value) (hv : w.ownsRow B 5 1 v k zs) (hd : w.ownsRow B 5 1 (.slice a n c) n ds) (h1 : ∀ u ∈ ds, u.oneCell' = true)
    (hap : Apart (.slice a n c) v) (hB : B ≤ w.heap.size) (hk : k ≤ 2097152) (hn : n ≤ 2097152) (ha1 : -65536 ≤ adj) (ha3 : adj ≤ 65536) :
    Calls Try.prog 16 #[v, .bool neg, .slice a n c, .int .i64 adj] w fun e w' => ∃ a' c', e = .returned (.slice a' (zs ++ plainL (.int .u8 48) (.int .u8 46) (.int .u8 45) neg ds adj).length c') ∧ w'.ownsRow B 5 1 (.slice a' (zs ++ plainL (.int .u8 48) (.int .u8 46) (.int .u8 45) neg ds adj).length c') (zs ++ plainL (.int .u8 48) (.int .u8 46) (.int .u8 45) neg ds adj).length (zs ++ plainL (.int .u8 48) (.int .u8 46) (.int .u8 45) neg ds adj) ∧ Adv w v w' (.slice a' (zs ++ plainL (.int .u8 48) (.int .u8 46) (.int .u8 45) neg ds adj).length c') := by
  refine (zzAppendPlain_any v neg a n c adj w B k zs ds hv hd h1 hap hB hk hn ha1 ha3).mono ?_
  rintro e w' ⟨v', m, rfl, hown, hadv⟩
  have hm := hown.1
  simp only [Nat.mul_one] at hm
  subst hm
  obtain ⟨a', c', rfl⟩ := own_shape hown
  exact ⟨a', c', rfl, hown, hadv⟩
end Go.Proofs.Qxb6602232a
