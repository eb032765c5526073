/-
  plainModel (function 15), neg = true.
-/
import Derived.Test.Qxb6602232aModel
namespace Go.Proofs.Qxb6602232a
open Go.RowKit
set_option linter.unusedVariables false
set_option linter.unusedSimpArgs false

set_option maxHeartbeats 1000000 in
theorem model_low_true (v : Value) (a : Option Addr) (n c : Nat) (adj : Int) (w : World) (B k : Nat) (zs : List Value) (ds : List Int) (hv : w.ownsRow B 5 1 v k zs) (hd : w.ownsRow B 5 1 (.slice a n c) n (ds.map (Value.int .u8)))
    (hap : Apart (.slice a n c) v) (hB : B ≤ w.heap.size) (hk : k ≤ 2097152) (hn : n ≤ 2097152) (ha1 : -65536 ≤ adj) (ha3 : adj ≤ 65536) (h1 : adj + 1 ≤ 0) :
    Calls Try.prog 15 #[v, .bool true, .slice a n c, .int .i64 adj] w fun e w' => ∃ v' m, e = .returned v' ∧ w'.ownsRow B 5 1 v' m (zs ++ ([Value.int .u8 45] ++ (bodyL 48 46 ds adj).map (Value.int .u8))) ∧ Adv w v w' v' := by
  obtain ⟨i0, hi, hz0, hz1, hz2⟩ := info_parts info5
  have HL : Hid (ds.length = n) := by show ds.length = n; simpa using hd.1
  have q1 : adj < 0 := by omega
  have q2 : ¬ 0 < adj - (n : Int) + 1 := by omega
  go_enter Try.func15, Try.ntmps15
  go_wp2_with (at_builtin; refine wpList_append_src _ rfl (.tmp 17) _ 22 22 rfl B 5 i0 (.int .u8 0) 1 1 Try.underlying22 hi hz0 hz1 hz2 rfl (by decide) _ _ _ rfl (hv.alloc _) _ 1 [.int .u8 45] rfl (src_one w 45) ?n1 ?n2 (by first | omega | (simp; omega)) ?_)
  case n1 => unfold maxLen; omega
  case n2 => omega
  intro vn wn hownN hadvN
  have AN := ((Adv.refl w v).alloc _).trans hadvN
  clear hadvN
  go_wp2
  go_loopw [0, 13] (fun v' q wr => ∃ (t m : Nat) (p : Int), Hid (p = (0) - t) ∧ (adj - n + 1) - 1 ≤ p ∧ p ≤ (0) ∧ m ≤ k + 1 + 2 * t ∧ t ≤ 4194304 ∧ q = .int .i64 p ∧ wr.ownsRow B 5 1 v' m (zs ++ ([Value.int .u8 45] ++ (mdl ds adj true (0) t).map (Value.int .u8))) ∧ Adv w v wr v') (fun _ q _ => (intOf q - (adj - n + 1) + 1).toNat)
  case atStart => exact ⟨0, k + 1, 0, by show _ = _; omega, by omega, by omega, by omega, by omega, rfl, by simpa [mdl_zero] using hownN, AN⟩
  case round =>
    obtain ⟨t, m, p, HP, hp1, hp2, hm, ht, rfl, hown, hadv⟩ := hrel
    have hsz := hadv.grow.size
    have ht2 : t ≤ 4194300 := by have := HP.out; omega
    by_cases hge : adj - n + 1 ≤ p
    · by_cases hx1 : 0 ≤ adj - p
      · by_cases hx2 : adj - p < n
        · obtain ⟨g, ea, hy0⟩ := ds_cell (hadv.kept hd hap) (adj - p).toNat (by omega)
          subst ea
          obtain ⟨y, hy, HY⟩ : ∃ y, wr.cell? ⟨g, (adj - p).toNat, none⟩ = some (.int .u8 y) ∧ Hid (y = ds.getD (adj - p).toNat 0) := ⟨_, hy0, rfl⟩
          clear hy0
          have hpe : ¬ p = 0 := by omega
          have hp0' : (p == 0) = false := by simpa using hpe
          go_wp2_with (at_builtin; refine wpList_append_src _ rfl (.tmp 59) _ 22 22 rfl B 5 i0 (.int .u8 0) 1 1 Try.underlying22 hi hz0 hz1 hz2 rfl (by decide) _ _ _ rfl (hown.alloc _) _ 1 [.int .u8 y] rfl (src_one wr _) (by unfold maxLen; omega) (by omega) (by first | omega | (simp; omega)) ?_)
          intro v3 w3 hown3 hadv3
          have A3 := (hadv.alloc _).trans hadv3
          have hsz3 := A3.grow.size
          clear hadv3 hown hadv
          have R3 := own_assoc hown3 (show _ = zs ++ ([Value.int .u8 45] ++ (mdl ds adj true (0) (t + 1)).map (Value.int .u8)) by rw [mdl_step HP.out (piece_in HL.out hx1 hx2 HY.out [] (by rw [if_neg (by omega)]))]; simp)
          go_wp2
          go_roundw
          case rel => first | exact ⟨t + 1, _, p - 1, by have := HP.out; show _ = _; omega, by omega, by omega, by omega, by omega, rfl, R3, A3⟩ | ((repeat apply Exists.intro); exact ⟨⟨t + 1, _, p - 1, by have := HP.out; show _ = _; omega, by omega, by omega, by omega, by omega, rfl, R3, A3⟩, rfl⟩)
          case measure => simp [intOf]; omega
        · have hno : ¬ (0 ≤ adj - p ∧ adj - p < n) := fun h => hx2 h.2
          have HNO : Hid (¬ (0 ≤ adj - p ∧ adj - p < n)) := hno
          clear hno
          exfalso; omega
      · have HNO : Hid (¬ (0 ≤ adj - p ∧ adj - p < n)) := fun h => hx1 h.1
        have hx1' : decide (0 ≤ adj - p) = false := decide_eq_false hx1
        by_cases hp0 : (p == 0) = true
        · have HP0 : Hid (p = 0) := by show p = 0; simpa using hp0
          go_wp2_with (at_builtin; refine wpList_append_src _ rfl (.tmp 59) _ 22 22 rfl B 5 i0 (.int .u8 0) 1 1 Try.underlying22 hi hz0 hz1 hz2 rfl (by decide) _ _ _ rfl (hown.alloc _) _ 1 [.int .u8 48] rfl (src_one wr _) (by unfold maxLen; omega) (by omega) (by first | omega | (simp; omega)) ?_)
          intro v3 w3 hown3 hadv3
          have A3 := (hadv.alloc _).trans hadv3
          have hsz3 := A3.grow.size
          clear hadv3 hown hadv
          go_wp2_with (at_builtin; refine wpList_append_src _ rfl (.tmp 68) _ 22 22 rfl B 5 i0 (.int .u8 0) 1 1 Try.underlying22 hi hz0 hz1 hz2 rfl (by decide) _ _ _ rfl (hown3.alloc _) _ 1 [.int .u8 46] rfl (src_one w3 _) (by unfold maxLen; omega) (by omega) (by first | omega | (simp; omega)) ?_)
          intro v4 w4 hown4 hadv4
          have A4 := (A3.alloc _).trans hadv4
          have R4 := own_assoc hown4 (show _ = zs ++ ([Value.int .u8 45] ++ (mdl ds adj true (0) (t + 1)).map (Value.int .u8)) by rw [mdl_step HP.out (piece_out HL.out HNO.out [46] (by rw [if_pos ⟨HP0.out, rfl⟩]))]; simp)
          clear hadv4 hown4
          go_wp2
          go_roundw
          case rel => first | exact ⟨t + 1, _, p - 1, by have := HP.out; show _ = _; omega, by omega, by omega, by omega, by omega, rfl, R4, A4⟩ | ((repeat apply Exists.intro); exact ⟨⟨t + 1, _, p - 1, by have := HP.out; show _ = _; omega, by omega, by omega, by omega, by omega, rfl, R4, A4⟩, rfl⟩)
          case measure => simp [intOf]; omega
        · have hpe : ¬ p = 0 := by simpa using hp0
          have hp0' : (p == 0) = false := by simpa using hp0
          clear hp0
          go_wp2_with (at_builtin; refine wpList_append_src _ rfl (.tmp 59) _ 22 22 rfl B 5 i0 (.int .u8 0) 1 1 Try.underlying22 hi hz0 hz1 hz2 rfl (by decide) _ _ _ rfl (hown.alloc _) _ 1 [.int .u8 48] rfl (src_one wr _) (by unfold maxLen; omega) (by omega) (by first | omega | (simp; omega)) ?_)
          intro v3 w3 hown3 hadv3
          have A3 := (hadv.alloc _).trans hadv3
          have hsz3 := A3.grow.size
          clear hadv3 hown hadv
          have R3 := own_assoc hown3 (show _ = zs ++ ([Value.int .u8 45] ++ (mdl ds adj true (0) (t + 1)).map (Value.int .u8)) by rw [mdl_step HP.out (piece_out HL.out HNO.out [] (by rw [if_neg (by omega)]))]; simp)
          go_wp2
          go_roundw
          case rel => first | exact ⟨t + 1, _, p - 1, by have := HP.out; show _ = _; omega, by omega, by omega, by omega, by omega, rfl, R3, A3⟩ | ((repeat apply Exists.intro); exact ⟨⟨t + 1, _, p - 1, by have := HP.out; show _ = _; omega, by omega, by omega, by omega, by omega, rfl, R3, A3⟩, rfl⟩)
          case measure => simp [intOf]; omega
    · have hcl := mdl_low ds adj h1 t (by have := HP.out; have := HL.out; omega)
      have R := own_assoc hown (show _ = zs ++ ([Value.int .u8 45] ++ (bodyL 48 46 ds adj).map (Value.int .u8)) by rw [hcl])
      clear hcl hown
      go_wp2
      go_ret
      first | exact ⟨_, _, rfl, R, hadv⟩ | exact ⟨_, rfl, ⟨_, R⟩, hadv⟩

set_option maxHeartbeats 1000000 in
theorem model_high_true (v : Value) (a : Option Addr) (n c : Nat) (adj : Int) (w : World) (B k : Nat) (zs : List Value) (ds : List Int) (hv : w.ownsRow B 5 1 v k zs) (hd : w.ownsRow B 5 1 (.slice a n c) n (ds.map (Value.int .u8)))
    (hap : Apart (.slice a n c) v) (hB : B ≤ w.heap.size) (hk : k ≤ 2097152) (hn : n ≤ 2097152) (ha1 : -65536 ≤ adj) (ha3 : adj ≤ 65536) (h1 : 0 < adj + 1) (h2 : 0 < adj - n + 1) :
    Calls Try.prog 15 #[v, .bool true, .slice a n c, .int .i64 adj] w fun e w' => ∃ v' m, e = .returned v' ∧ w'.ownsRow B 5 1 v' m (zs ++ ([Value.int .u8 45] ++ (bodyL 48 46 ds adj).map (Value.int .u8))) ∧ Adv w v w' v' := by
  obtain ⟨i0, hi, hz0, hz1, hz2⟩ := info_parts info5
  have HL : Hid (ds.length = n) := by show ds.length = n; simpa using hd.1
  have q1 : ¬ adj < 0 := by omega
  have q3 : ¬ adj + 1 < (n : Int) := by omega
  go_enter Try.func15, Try.ntmps15
  go_wp2_with (at_builtin; refine wpList_append_src _ rfl (.tmp 17) _ 22 22 rfl B 5 i0 (.int .u8 0) 1 1 Try.underlying22 hi hz0 hz1 hz2 rfl (by decide) _ _ _ rfl (hv.alloc _) _ 1 [.int .u8 45] rfl (src_one w 45) ?n1 ?n2 (by first | omega | (simp; omega)) ?_)
  case n1 => unfold maxLen; omega
  case n2 => omega
  intro vn wn hownN hadvN
  have AN := ((Adv.refl w v).alloc _).trans hadvN
  clear hadvN
  go_wp2
  go_loopw [0, 13] (fun v' q wr => ∃ (t m : Nat) (p : Int), Hid (p = (adj) - t) ∧ (0) - 1 ≤ p ∧ p ≤ (adj) ∧ m ≤ k + 1 + 2 * t ∧ t ≤ 4194304 ∧ q = .int .i64 p ∧ wr.ownsRow B 5 1 v' m (zs ++ ([Value.int .u8 45] ++ (mdl ds adj false (adj) t).map (Value.int .u8))) ∧ Adv w v wr v') (fun _ q _ => (intOf q - (0) + 1).toNat)
  case atStart => exact ⟨0, k + 1, adj, by show _ = _; omega, by omega, by omega, by omega, by omega, rfl, by simpa [mdl_zero] using hownN, AN⟩
  case round =>
    obtain ⟨t, m, p, HP, hp1, hp2, hm, ht, rfl, hown, hadv⟩ := hrel
    have hsz := hadv.grow.size
    have ht2 : t ≤ 4194300 := by have := HP.out; omega
    by_cases hge : 0 ≤ p
    · by_cases hx1 : 0 ≤ adj - p
      · by_cases hx2 : adj - p < n
        · obtain ⟨g, ea, hy0⟩ := ds_cell (hadv.kept hd hap) (adj - p).toNat (by omega)
          subst ea
          obtain ⟨y, hy, HY⟩ : ∃ y, wr.cell? ⟨g, (adj - p).toNat, none⟩ = some (.int .u8 y) ∧ Hid (y = ds.getD (adj - p).toNat 0) := ⟨_, hy0, rfl⟩
          clear hy0
          have hpe : ¬ p = 0 := by omega
          have hp0' : (p == 0) = false := by simpa using hpe
          go_wp2_with (at_builtin; refine wpList_append_src _ rfl (.tmp 59) _ 22 22 rfl B 5 i0 (.int .u8 0) 1 1 Try.underlying22 hi hz0 hz1 hz2 rfl (by decide) _ _ _ rfl (hown.alloc _) _ 1 [.int .u8 y] rfl (src_one wr _) (by unfold maxLen; omega) (by omega) (by first | omega | (simp; omega)) ?_)
          intro v3 w3 hown3 hadv3
          have A3 := (hadv.alloc _).trans hadv3
          have hsz3 := A3.grow.size
          clear hadv3 hown hadv
          have R3 := own_assoc hown3 (show _ = zs ++ ([Value.int .u8 45] ++ (mdl ds adj false (adj) (t + 1)).map (Value.int .u8)) by rw [mdl_step HP.out (piece_in HL.out hx1 hx2 HY.out [] (by rw [if_neg (by simp)]))]; simp)
          go_wp2
          go_roundw
          case rel => first | exact ⟨t + 1, _, p - 1, by have := HP.out; show _ = _; omega, by omega, by omega, by omega, by omega, rfl, R3, A3⟩ | ((repeat apply Exists.intro); exact ⟨⟨t + 1, _, p - 1, by have := HP.out; show _ = _; omega, by omega, by omega, by omega, by omega, rfl, R3, A3⟩, rfl⟩)
          case measure => simp [intOf]; omega
        · have hno : ¬ (0 ≤ adj - p ∧ adj - p < n) := fun h => hx2 h.2
          have HNO : Hid (¬ (0 ≤ adj - p ∧ adj - p < n)) := hno
          clear hno
          by_cases hp0 : (p == 0) = true
          · have HP0 : Hid (p = 0) := by show p = 0; simpa using hp0
            go_wp2_with (at_builtin; refine wpList_append_src _ rfl (.tmp 59) _ 22 22 rfl B 5 i0 (.int .u8 0) 1 1 Try.underlying22 hi hz0 hz1 hz2 rfl (by decide) _ _ _ rfl (hown.alloc _) _ 1 [.int .u8 48] rfl (src_one wr _) (by unfold maxLen; omega) (by omega) (by first | omega | (simp; omega)) ?_)
            intro v3 w3 hown3 hadv3
            have A3 := (hadv.alloc _).trans hadv3
            have hsz3 := A3.grow.size
            clear hadv3 hown hadv
            have R3 := own_assoc hown3 (show _ = zs ++ ([Value.int .u8 45] ++ (mdl ds adj false (adj) (t + 1)).map (Value.int .u8)) by rw [mdl_step HP.out (piece_out HL.out HNO.out [] (by rw [if_neg (by simp)]))]; simp)
            go_wp2
            go_roundw
            case rel => first | exact ⟨t + 1, _, p - 1, by have := HP.out; show _ = _; omega, by omega, by omega, by omega, by omega, rfl, R3, A3⟩ | ((repeat apply Exists.intro); exact ⟨⟨t + 1, _, p - 1, by have := HP.out; show _ = _; omega, by omega, by omega, by omega, by omega, rfl, R3, A3⟩, rfl⟩)
            case measure => simp [intOf]; omega
          · have hpe : ¬ p = 0 := by simpa using hp0
            have hp0' : (p == 0) = false := by simpa using hp0
            clear hp0
            go_wp2_with (at_builtin; refine wpList_append_src _ rfl (.tmp 59) _ 22 22 rfl B 5 i0 (.int .u8 0) 1 1 Try.underlying22 hi hz0 hz1 hz2 rfl (by decide) _ _ _ rfl (hown.alloc _) _ 1 [.int .u8 48] rfl (src_one wr _) (by unfold maxLen; omega) (by omega) (by first | omega | (simp; omega)) ?_)
            intro v3 w3 hown3 hadv3
            have A3 := (hadv.alloc _).trans hadv3
            have hsz3 := A3.grow.size
            clear hadv3 hown hadv
            have R3 := own_assoc hown3 (show _ = zs ++ ([Value.int .u8 45] ++ (mdl ds adj false (adj) (t + 1)).map (Value.int .u8)) by rw [mdl_step HP.out (piece_out HL.out HNO.out [] (by rw [if_neg (by simp)]))]; simp)
            go_wp2
            go_roundw
            case rel => first | exact ⟨t + 1, _, p - 1, by have := HP.out; show _ = _; omega, by omega, by omega, by omega, by omega, rfl, R3, A3⟩ | ((repeat apply Exists.intro); exact ⟨⟨t + 1, _, p - 1, by have := HP.out; show _ = _; omega, by omega, by omega, by omega, by omega, rfl, R3, A3⟩, rfl⟩)
            case measure => simp [intOf]; omega
      · have HNO : Hid (¬ (0 ≤ adj - p ∧ adj - p < n)) := fun h => hx1 h.1
        have hx1' : decide (0 ≤ adj - p) = false := decide_eq_false hx1
        exfalso; omega
    · have hcl := mdl_high ds adj h1 (by have := HL.out; omega) t (by have := HP.out; have := HL.out; omega)
      have R := own_assoc hown (show _ = zs ++ ([Value.int .u8 45] ++ (bodyL 48 46 ds adj).map (Value.int .u8)) by rw [hcl])
      clear hcl hown
      go_wp2
      go_ret
      first | exact ⟨_, _, rfl, R, hadv⟩ | exact ⟨_, rfl, ⟨_, R⟩, hadv⟩

set_option maxHeartbeats 1000000 in
theorem model_edge_true (v : Value) (a : Option Addr) (n c : Nat) (adj : Int) (w : World) (B k : Nat) (zs : List Value) (ds : List Int) (hv : w.ownsRow B 5 1 v k zs) (hd : w.ownsRow B 5 1 (.slice a n c) n (ds.map (Value.int .u8)))
    (hap : Apart (.slice a n c) v) (hB : B ≤ w.heap.size) (hk : k ≤ 2097152) (hn : n ≤ 2097152) (ha1 : -65536 ≤ adj) (ha3 : adj ≤ 65536) (h1 : 0 < adj + 1) (h2 : adj - n + 1 ≤ 0) (h3 : 0 ≤ adj - n + 1) :
    Calls Try.prog 15 #[v, .bool true, .slice a n c, .int .i64 adj] w fun e w' => ∃ v' m, e = .returned v' ∧ w'.ownsRow B 5 1 v' m (zs ++ ([Value.int .u8 45] ++ (bodyL 48 46 ds adj).map (Value.int .u8))) ∧ Adv w v w' v' := by
  obtain ⟨i0, hi, hz0, hz1, hz2⟩ := info_parts info5
  have HL : Hid (ds.length = n) := by show ds.length = n; simpa using hd.1
  have q1 : ¬ adj < 0 := by omega
  have q2 : ¬ 0 < adj - (n : Int) + 1 := by omega
  have q3 : ¬ adj + 1 < (n : Int) := by omega
  go_enter Try.func15, Try.ntmps15
  go_wp2_with (at_builtin; refine wpList_append_src _ rfl (.tmp 17) _ 22 22 rfl B 5 i0 (.int .u8 0) 1 1 Try.underlying22 hi hz0 hz1 hz2 rfl (by decide) _ _ _ rfl (hv.alloc _) _ 1 [.int .u8 45] rfl (src_one w 45) ?n1 ?n2 (by first | omega | (simp; omega)) ?_)
  case n1 => unfold maxLen; omega
  case n2 => omega
  intro vn wn hownN hadvN
  have AN := ((Adv.refl w v).alloc _).trans hadvN
  clear hadvN
  go_wp2
  go_loopw [0, 13] (fun v' q wr => ∃ (t m : Nat) (p : Int), Hid (p = (adj) - t) ∧ (adj - n + 1) - 1 ≤ p ∧ p ≤ (adj) ∧ m ≤ k + 1 + 2 * t ∧ t ≤ 4194304 ∧ q = .int .i64 p ∧ wr.ownsRow B 5 1 v' m (zs ++ ([Value.int .u8 45] ++ (mdl ds adj false (adj) t).map (Value.int .u8))) ∧ Adv w v wr v') (fun _ q _ => (intOf q - (adj - n + 1) + 1).toNat)
  case atStart => exact ⟨0, k + 1, adj, by show _ = _; omega, by omega, by omega, by omega, by omega, rfl, by simpa [mdl_zero] using hownN, AN⟩
  case round =>
    obtain ⟨t, m, p, HP, hp1, hp2, hm, ht, rfl, hown, hadv⟩ := hrel
    have hsz := hadv.grow.size
    have ht2 : t ≤ 4194300 := by have := HP.out; omega
    by_cases hge : adj - n + 1 ≤ p
    · by_cases hx1 : 0 ≤ adj - p
      · by_cases hx2 : adj - p < n
        · obtain ⟨g, ea, hy0⟩ := ds_cell (hadv.kept hd hap) (adj - p).toNat (by omega)
          subst ea
          obtain ⟨y, hy, HY⟩ : ∃ y, wr.cell? ⟨g, (adj - p).toNat, none⟩ = some (.int .u8 y) ∧ Hid (y = ds.getD (adj - p).toNat 0) := ⟨_, hy0, rfl⟩
          clear hy0
          by_cases hp0 : (p == 0) = true
          · have HP0 : Hid (p = 0) := by show p = 0; simpa using hp0
            go_wp2_with (at_builtin; refine wpList_append_src _ rfl (.tmp 59) _ 22 22 rfl B 5 i0 (.int .u8 0) 1 1 Try.underlying22 hi hz0 hz1 hz2 rfl (by decide) _ _ _ rfl (hown.alloc _) _ 1 [.int .u8 y] rfl (src_one wr _) (by unfold maxLen; omega) (by omega) (by first | omega | (simp; omega)) ?_)
            intro v3 w3 hown3 hadv3
            have A3 := (hadv.alloc _).trans hadv3
            have hsz3 := A3.grow.size
            clear hadv3 hown hadv
            have R3 := own_assoc hown3 (show _ = zs ++ ([Value.int .u8 45] ++ (mdl ds adj false (adj) (t + 1)).map (Value.int .u8)) by rw [mdl_step HP.out (piece_in HL.out hx1 hx2 HY.out [] (by rw [if_neg (by simp)]))]; simp)
            go_wp2
            go_roundw
            case rel => first | exact ⟨t + 1, _, p - 1, by have := HP.out; show _ = _; omega, by omega, by omega, by omega, by omega, rfl, R3, A3⟩ | ((repeat apply Exists.intro); exact ⟨⟨t + 1, _, p - 1, by have := HP.out; show _ = _; omega, by omega, by omega, by omega, by omega, rfl, R3, A3⟩, rfl⟩)
            case measure => simp [intOf]; omega
          · have hpe : ¬ p = 0 := by simpa using hp0
            have hp0' : (p == 0) = false := by simpa using hp0
            clear hp0
            go_wp2_with (at_builtin; refine wpList_append_src _ rfl (.tmp 59) _ 22 22 rfl B 5 i0 (.int .u8 0) 1 1 Try.underlying22 hi hz0 hz1 hz2 rfl (by decide) _ _ _ rfl (hown.alloc _) _ 1 [.int .u8 y] rfl (src_one wr _) (by unfold maxLen; omega) (by omega) (by first | omega | (simp; omega)) ?_)
            intro v3 w3 hown3 hadv3
            have A3 := (hadv.alloc _).trans hadv3
            have hsz3 := A3.grow.size
            clear hadv3 hown hadv
            have R3 := own_assoc hown3 (show _ = zs ++ ([Value.int .u8 45] ++ (mdl ds adj false (adj) (t + 1)).map (Value.int .u8)) by rw [mdl_step HP.out (piece_in HL.out hx1 hx2 HY.out [] (by rw [if_neg (by simp)]))]; simp)
            go_wp2
            go_roundw
            case rel => first | exact ⟨t + 1, _, p - 1, by have := HP.out; show _ = _; omega, by omega, by omega, by omega, by omega, rfl, R3, A3⟩ | ((repeat apply Exists.intro); exact ⟨⟨t + 1, _, p - 1, by have := HP.out; show _ = _; omega, by omega, by omega, by omega, by omega, rfl, R3, A3⟩, rfl⟩)
            case measure => simp [intOf]; omega
        · have hno : ¬ (0 ≤ adj - p ∧ adj - p < n) := fun h => hx2 h.2
          have HNO : Hid (¬ (0 ≤ adj - p ∧ adj - p < n)) := hno
          clear hno
          exfalso; omega
      · have HNO : Hid (¬ (0 ≤ adj - p ∧ adj - p < n)) := fun h => hx1 h.1
        have hx1' : decide (0 ≤ adj - p) = false := decide_eq_false hx1
        exfalso; omega
    · have hcl := mdl_high ds adj h1 (by have := HL.out; omega) t (by have := HP.out; have := HL.out; omega)
      have R := own_assoc hown (show _ = zs ++ ([Value.int .u8 45] ++ (bodyL 48 46 ds adj).map (Value.int .u8)) by rw [hcl])
      clear hcl hown
      go_wp2
      go_ret
      first | exact ⟨_, _, rfl, R, hadv⟩ | exact ⟨_, rfl, ⟨_, R⟩, hadv⟩

set_option maxHeartbeats 1000000 in
theorem model_mid_true (v : Value) (a : Option Addr) (n c : Nat) (adj : Int) (w : World) (B k : Nat) (zs : List Value) (ds : List Int) (hv : w.ownsRow B 5 1 v k zs) (hd : w.ownsRow B 5 1 (.slice a n c) n (ds.map (Value.int .u8)))
    (hap : Apart (.slice a n c) v) (hB : B ≤ w.heap.size) (hk : k ≤ 2097152) (hn : n ≤ 2097152) (ha1 : -65536 ≤ adj) (ha3 : adj ≤ 65536) (h1 : 0 < adj + 1) (h2 : adj + 1 < n) :
    Calls Try.prog 15 #[v, .bool true, .slice a n c, .int .i64 adj] w fun e w' => ∃ v' m, e = .returned v' ∧ w'.ownsRow B 5 1 v' m (zs ++ ([Value.int .u8 45] ++ (bodyL 48 46 ds adj).map (Value.int .u8))) ∧ Adv w v w' v' := by
  obtain ⟨i0, hi, hz0, hz1, hz2⟩ := info_parts info5
  have HL : Hid (ds.length = n) := by show ds.length = n; simpa using hd.1
  have q1 : ¬ adj < 0 := by omega
  have q2 : ¬ 0 < adj - (n : Int) + 1 := by omega
  go_enter Try.func15, Try.ntmps15
  go_wp2_with (at_builtin; refine wpList_append_src _ rfl (.tmp 17) _ 22 22 rfl B 5 i0 (.int .u8 0) 1 1 Try.underlying22 hi hz0 hz1 hz2 rfl (by decide) _ _ _ rfl (hv.alloc _) _ 1 [.int .u8 45] rfl (src_one w 45) ?n1 ?n2 (by first | omega | (simp; omega)) ?_)
  case n1 => unfold maxLen; omega
  case n2 => omega
  intro vn wn hownN hadvN
  have AN := ((Adv.refl w v).alloc _).trans hadvN
  clear hadvN
  go_wp2
  go_loopw [0, 13] (fun v' q wr => ∃ (t m : Nat) (p : Int), Hid (p = (adj) - t) ∧ (adj - n + 1) - 1 ≤ p ∧ p ≤ (adj) ∧ m ≤ k + 1 + 2 * t ∧ t ≤ 4194304 ∧ q = .int .i64 p ∧ wr.ownsRow B 5 1 v' m (zs ++ ([Value.int .u8 45] ++ (mdl ds adj true (adj) t).map (Value.int .u8))) ∧ Adv w v wr v') (fun _ q _ => (intOf q - (adj - n + 1) + 1).toNat)
  case atStart => exact ⟨0, k + 1, adj, by show _ = _; omega, by omega, by omega, by omega, by omega, rfl, by simpa [mdl_zero] using hownN, AN⟩
  case round =>
    obtain ⟨t, m, p, HP, hp1, hp2, hm, ht, rfl, hown, hadv⟩ := hrel
    have hsz := hadv.grow.size
    have ht2 : t ≤ 4194300 := by have := HP.out; omega
    by_cases hge : adj - n + 1 ≤ p
    · by_cases hx1 : 0 ≤ adj - p
      · by_cases hx2 : adj - p < n
        · obtain ⟨g, ea, hy0⟩ := ds_cell (hadv.kept hd hap) (adj - p).toNat (by omega)
          subst ea
          obtain ⟨y, hy, HY⟩ : ∃ y, wr.cell? ⟨g, (adj - p).toNat, none⟩ = some (.int .u8 y) ∧ Hid (y = ds.getD (adj - p).toNat 0) := ⟨_, hy0, rfl⟩
          clear hy0
          by_cases hp0 : (p == 0) = true
          · have HP0 : Hid (p = 0) := by show p = 0; simpa using hp0
            go_wp2_with (at_builtin; refine wpList_append_src _ rfl (.tmp 59) _ 22 22 rfl B 5 i0 (.int .u8 0) 1 1 Try.underlying22 hi hz0 hz1 hz2 rfl (by decide) _ _ _ rfl (hown.alloc _) _ 1 [.int .u8 y] rfl (src_one wr _) (by unfold maxLen; omega) (by omega) (by first | omega | (simp; omega)) ?_)
            intro v3 w3 hown3 hadv3
            have A3 := (hadv.alloc _).trans hadv3
            have hsz3 := A3.grow.size
            clear hadv3 hown hadv
            go_wp2_with (at_builtin; refine wpList_append_src _ rfl (.tmp 68) _ 22 22 rfl B 5 i0 (.int .u8 0) 1 1 Try.underlying22 hi hz0 hz1 hz2 rfl (by decide) _ _ _ rfl (hown3.alloc _) _ 1 [.int .u8 46] rfl (src_one w3 _) (by unfold maxLen; omega) (by omega) (by first | omega | (simp; omega)) ?_)
            intro v4 w4 hown4 hadv4
            have A4 := (A3.alloc _).trans hadv4
            have R4 := own_assoc hown4 (show _ = zs ++ ([Value.int .u8 45] ++ (mdl ds adj true (adj) (t + 1)).map (Value.int .u8)) by rw [mdl_step HP.out (piece_in HL.out hx1 hx2 HY.out [46] (by rw [if_pos ⟨HP0.out, rfl⟩]))]; simp)
            clear hadv4 hown4
            go_wp2
            go_roundw
            case rel => first | exact ⟨t + 1, _, p - 1, by have := HP.out; show _ = _; omega, by omega, by omega, by omega, by omega, rfl, R4, A4⟩ | ((repeat apply Exists.intro); exact ⟨⟨t + 1, _, p - 1, by have := HP.out; show _ = _; omega, by omega, by omega, by omega, by omega, rfl, R4, A4⟩, rfl⟩)
            case measure => simp [intOf]; omega
          · have hpe : ¬ p = 0 := by simpa using hp0
            have hp0' : (p == 0) = false := by simpa using hp0
            clear hp0
            go_wp2_with (at_builtin; refine wpList_append_src _ rfl (.tmp 59) _ 22 22 rfl B 5 i0 (.int .u8 0) 1 1 Try.underlying22 hi hz0 hz1 hz2 rfl (by decide) _ _ _ rfl (hown.alloc _) _ 1 [.int .u8 y] rfl (src_one wr _) (by unfold maxLen; omega) (by omega) (by first | omega | (simp; omega)) ?_)
            intro v3 w3 hown3 hadv3
            have A3 := (hadv.alloc _).trans hadv3
            have hsz3 := A3.grow.size
            clear hadv3 hown hadv
            have R3 := own_assoc hown3 (show _ = zs ++ ([Value.int .u8 45] ++ (mdl ds adj true (adj) (t + 1)).map (Value.int .u8)) by rw [mdl_step HP.out (piece_in HL.out hx1 hx2 HY.out [] (by rw [if_neg (by omega)]))]; simp)
            go_wp2
            go_roundw
            case rel => first | exact ⟨t + 1, _, p - 1, by have := HP.out; show _ = _; omega, by omega, by omega, by omega, by omega, rfl, R3, A3⟩ | ((repeat apply Exists.intro); exact ⟨⟨t + 1, _, p - 1, by have := HP.out; show _ = _; omega, by omega, by omega, by omega, by omega, rfl, R3, A3⟩, rfl⟩)
            case measure => simp [intOf]; omega
        · have hno : ¬ (0 ≤ adj - p ∧ adj - p < n) := fun h => hx2 h.2
          have HNO : Hid (¬ (0 ≤ adj - p ∧ adj - p < n)) := hno
          clear hno
          exfalso; omega
      · have HNO : Hid (¬ (0 ≤ adj - p ∧ adj - p < n)) := fun h => hx1 h.1
        have hx1' : decide (0 ≤ adj - p) = false := decide_eq_false hx1
        exfalso; omega
    · have hcl := mdl_mid ds adj h1 (by have := HL.out; omega) t (by have := HP.out; have := HL.out; omega)
      have R := own_assoc hown (show _ = zs ++ ([Value.int .u8 45] ++ (bodyL 48 46 ds adj).map (Value.int .u8)) by rw [hcl])
      clear hcl hown
      go_wp2
      go_ret
      first | exact ⟨_, _, rfl, R, hadv⟩ | exact ⟨_, rfl, ⟨_, R⟩, hadv⟩

end Go.Proofs.Qxb6602232a
