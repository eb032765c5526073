/-
  isDigit (25), digitValue (23), hex4 (20), ZZHex4 (11).
-/
import Derived.Test.Qxb6602232aRows
import Derived.Test.Qxb6602232aOwn
import Derived.Test.Qxb6602232aBits
namespace Go.Proofs.Qxb6602232a
open Go.RowKit
set_option linter.unusedVariables false
set_option linter.unusedSimpArgs false

/-- the value of a hexadecimal digit; 16 where it is none -/
def dv (c : Int) : Int := if 48 ≤ c ∧ c ≤ 57 then c - 48 else if 97 ≤ c ∧ c ≤ 102 then c - 87 else if 65 ≤ c ∧ c ≤ 70 then c - 55 else 16

theorem dv_bd (c : Int) : 0 ≤ dv c ∧ dv c ≤ 16 := by unfold dv; split <;> (try split) <;> (try split) <;> omega

theorem ret_int' {k : IntKind} {a b : Int} (h : a = b) : Ending.returned (.int k a) = .returned (.int k b) := by rw [h]

theorem digitValue_any (c : Int) (w : World) (h0 : 0 ≤ c) (h1 : c ≤ 255) :
    Calls Try.prog 23 #[.int .u8 c] w fun e w' => e = .returned (.int .i64 (dv c)) ∧ w' = w := by
  rcases (show (48 ≤ c ∧ c ≤ 57) ∨ (97 ≤ c ∧ c ≤ 102) ∨ (65 ≤ c ∧ c ≤ 70) ∨ c < 48 ∨ (57 < c ∧ c < 65) ∨ (70 < c ∧ c < 97) ∨ 102 < c from by omega) with h | h | h | h | h | h | h
  all_goals
    go_enter Try.func23, Try.ntmps23
    go_wp2
    go_ret
    exact ⟨ret_int' (by unfold dv; (repeat (first | rw [if_pos (by omega)] | rw [if_neg (by omega)])) <;> omega), rfl⟩

def hacc (l : List Int) : Int := l.foldl (fun r c => r * 16 + dv c) 0

theorem hacc_snoc (l : List Int) (c : Int) : hacc (l ++ [c]) = hacc l * 16 + dv c := by simp [hacc, List.foldl_append]

theorem hacc_bd (l : List Int) (h : ∀ c ∈ l, dv c < 16) : 0 ≤ hacc l ∧ hacc l < 16 ^ l.length := by
  suffices ∀ (l : List Int) (r : Int) (m : Nat), (∀ c ∈ l, dv c < 16) → 0 ≤ r → r < 16 ^ m → 0 ≤ l.foldl (fun r c => r * 16 + dv c) r ∧ l.foldl (fun r c => r * 16 + dv c) r < 16 ^ (m + l.length) by
    simpa [hacc] using this l 0 0 h (by omega) (by omega)
  intro l
  induction l with
  | nil => intro r m _ h0 h1; exact ⟨h0, h1⟩
  | cons c l ih =>
    intro r m hc h0 h1
    have hd := dv_bd c
    have hc' := hc c (by simp)
    have := ih (r * 16 + dv c) (m + 1) (fun x hx => hc x (by simp [hx])) (by omega) (by rw [Int.pow_succ]; omega)
    simpa [Nat.add_assoc, Nat.add_comm 1] using this

set_option maxHeartbeats 400000 in
theorem hex4_any (g n c : Nat) (zs : List Int) (w : World) (hn : 4 ≤ n) (hnc : n ≤ c) (hc : c ≤ 9223372036854775807) (hl : zs.length = 4) (hb : ∀ k, 0 ≤ zs.getD k 0 ∧ zs.getD k 0 ≤ 255)
    (hcell : ∀ k, k < 4 → w.cell? ⟨g, k, none⟩ = some (.int .u8 (zs.getD k 0))) :
    Calls Try.prog 20 #[.slice (some ⟨g, 0, none⟩) n c] w fun e w' => (((∃ x ∈ zs, dv x = 16) ∧ e = .returned (.tuple #[.int .i32 0, .bool false])) ∨ ((∀ x ∈ zs, dv x < 16) ∧ e = .returned (.tuple #[.int .i32 (hacc zs), .bool true]))) ∧ w' = w := by
  have HC : Hid (∀ k, k < 4 → w.cell? ⟨g, k, none⟩ = some (.int .u8 (zs.getD k 0))) := hcell
  clear hcell
  go_enter Try.func20, Try.ntmps20
  go_wp2
  go_loop [4, 14] (fun r i => ∃ k : Nat, k ≤ 4 ∧ i = .int .i64 k ∧ r = .int .i32 (hacc (zs.take k)) ∧ ∀ x ∈ zs.take k, dv x < 16) (fun _ i => 4 - (intOf i).toNat)
  case atStart => exact ⟨0, by omega, rfl, rfl, by simp⟩
  case round =>
    obtain ⟨k, hk, rfl, rfl, hd⟩ := hrel
    have hab := hacc_bd (zs.take k) hd
    by_cases hlt : k < 4
    · obtain ⟨ck, hck, hb0, hb1, hts⟩ : ∃ ck, w.cell? ⟨g, k, none⟩ = some (.int .u8 ck) ∧ 0 ≤ ck ∧ ck ≤ 255 ∧ Hid (zs.take (k + 1) = zs.take k ++ [ck] ∧ ck ∈ zs) :=
        ⟨zs.getD k 0, HC.out k hlt, (hb k).1, (hb k).2, by
          have hkl : k < zs.length := by omega
          have e : zs.getD k 0 = zs[k] := by simp [List.getD, hkl]
          rw [e]
          exact ⟨List.take_succ_eq_append_getElem hkl, List.getElem_mem _⟩⟩
      have hdb := dv_bd ck
      by_cases h16 : dv ck < 16
      · go_wp2_with (go_at_call 23; refine (digitValue_any _ _ (by omega) (by omega)).mono ?_; rintro e w' ⟨rfl, rfl⟩)
        go_round
        case rel =>
          have hp := pow16_le _ k hlt (List.length_take_le k zs)
          refine ⟨k + 1, by omega, by go_num, ?_, ?_⟩
          · rw [hts.out.1, hacc_snoc, shl4_or _ _ hab.1 (by omega) (by omega) h16]
          · rw [hts.out.1]
            intro x hx
            rcases List.mem_append.1 hx with h | h
            · exact hd x h
            · simp at h; subst h; exact h16
        case measure => simp [intOf]; omega
      · have h16' : dv ck = 16 := by omega
        have H : Hid (dv ck = 16) := h16'
        clear h16'
        go_wp2_with (go_at_call 23; refine (digitValue_any _ _ (by omega) (by omega)).mono ?_; rintro e w' ⟨rfl, rfl⟩)
        go_ret2
        exact ⟨.inl ⟨⟨ck, hts.out.2, H.out⟩, rfl⟩, rfl⟩
    · have e4 : zs.take k = zs := List.take_of_length_le (by omega)
      rw [e4] at hd
      have E : Hid (zs.take k = zs) := e4
      clear e4
      go_wp2
      go_ret2
      exact ⟨.inr ⟨hd, by show Ending.returned (.tuple #[.int .i32 (hacc (zs.take k)), .bool true]) = _; rw [E.out]⟩, rfl⟩

theorem hex4_short (a : Option Addr) (n c : Nat) (w : World) (hn : n < 4) :
    Calls Try.prog 20 #[.slice a n c] w fun e w' => e = .returned (.tuple #[.int .i32 0, .bool false]) ∧ w' = w := by
  go_enter Try.func20, Try.ntmps20
  go_wp2
  go_ret2
  exact ⟨rfl, rfl⟩

theorem zzHex4_short (a : Option Addr) (n c : Nat) (w : World) (hn : n < 4) :
    Calls Try.prog 11 #[.slice a n c] w fun e w' => e = .returned (.tuple #[.int .i32 0, .bool false]) ∧ w' = w := by
  go_enter Try.func11, Try.ntmps11
  go_wp2_with (go_at_call 20; refine (hex4_short _ _ _ _ hn).mono ?_; rintro e w' ⟨rfl, rfl⟩)
  go_ret2
  exact ⟨rfl, rfl⟩

theorem zzHex4_any (g n c : Nat) (zs : List Int) (w : World) (hn : 4 ≤ n) (hnc : n ≤ c) (hc : c ≤ 9223372036854775807) (hl : zs.length = 4) (hb : ∀ k, 0 ≤ zs.getD k 0 ∧ zs.getD k 0 ≤ 255)
    (hcell : ∀ k, k < 4 → w.cell? ⟨g, k, none⟩ = some (.int .u8 (zs.getD k 0))) :
    Calls Try.prog 11 #[.slice (some ⟨g, 0, none⟩) n c] w fun e w' => (((∃ x ∈ zs, dv x = 16) ∧ e = .returned (.tuple #[.int .i32 0, .bool false])) ∨ ((∀ x ∈ zs, dv x < 16) ∧ e = .returned (.tuple #[.int .i32 (hacc zs), .bool true]))) ∧ w' = w := by
  have H := hex4_any g n c zs w hn hnc hc hl hb hcell
  have HH : Hid (Calls Try.prog 20 #[.slice (some ⟨g, 0, none⟩) n c] w fun e w' => (((∃ x ∈ zs, dv x = 16) ∧ e = .returned (.tuple #[.int .i32 0, .bool false])) ∨ ((∀ x ∈ zs, dv x < 16) ∧ e = .returned (.tuple #[.int .i32 (hacc zs), .bool true]))) ∧ w' = w) := H
  clear H hcell hb
  go_enter Try.func11, Try.ntmps11
  go_wp2_with fail
  refine HH.out.mono ?_
  rintro e w' ⟨⟨hx, rfl⟩ | ⟨hx, rfl⟩, hw⟩
  · subst hw
    have HX : Hid (∃ x ∈ zs, dv x = 16) := hx
    clear hx
    go_wp2
    go_ret2
    exact ⟨.inl ⟨HX.out, rfl⟩, rfl⟩
  · subst hw
    have HX : Hid (∀ x ∈ zs, dv x < 16) := hx
    clear hx
    go_wp2
    go_ret2
    exact ⟨.inr ⟨HX.out, rfl⟩, rfl⟩
end Go.Proofs.Qxb6602232a
