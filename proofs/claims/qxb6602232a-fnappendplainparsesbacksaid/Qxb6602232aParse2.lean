/-
  FnAppendPlainParsesBack (function 6): the walk, of a negative number.
-/
import Derived.Test.Qxb6602232aParse
namespace Go.Proofs.Qxb6602232a
open Go.RowKit
set_option linter.unusedVariables false
set_option linter.unusedSimpArgs false

set_option maxRecDepth 100000 in
set_option maxHeartbeats 1000000 in
theorem parse_true (b off len cap : Nat) (ds : List Int) (adj : Int) (w : World) (hl : ds.length = len) (hp : 0 < len) (hm : len ≤ 1048576) (hbw : b < w.heap.size)
    (hcell : ∀ k, k < len → w.cell? ⟨b, off + k, none⟩ = some (.int .u8 (ds.getD k 0))) (ha1 : -65536 ≤ adj) (ha3 : adj ≤ 65536) :
    Calls Try.prog 6 #[.bool true, .slice (some ⟨b, off, none⟩) len cap, .int .i64 adj] w fun e w' => e = .returned (.bool true) ∧ Below w.heap.size w w' := by
  obtain ⟨i0, hi, hz0, hz1, hz2⟩ := info_parts info5
  have HC : Hid (∀ k, k < len → w.cell? ⟨b, off + k, none⟩ = some (.int .u8 (ds.getD k 0))) := hcell
  have HL : Hid (ds.length = len) := hl
  clear hcell hl
  go_enter Try.func6, Try.ntmps6
  go_wp2
  go_loop [7] (fun i => ∃ k : Nat, k ≤ len ∧ i = .int .i64 k ∧ Hid (∀ j, j < k → 48 ≤ ds.getD j 0 ∧ ds.getD j 0 ≤ 57)) (fun i => len - (intOf i).toNat)
  case atStart => exact ⟨0, Nat.zero_le _, rfl, fun j hj => by omega⟩
  case round =>
    obtain ⟨k, hk, rfl, hdig⟩ := hrel
    by_cases hlt : k < len
    · obtain ⟨y, hy, HY⟩ : ∃ y, w.cell? ⟨b, off + k, none⟩ = some (.int .u8 y) ∧ Hid (y = ds.getD k 0) := ⟨_, HC.out k hlt, rfl⟩
      by_cases hy1 : y < 48
      · go_wp2
        go_ret
        exact ⟨rfl, Below.refl _ _⟩
      · by_cases hy2 : 57 < y
        · go_wp2
          go_ret
          exact ⟨rfl, Below.refl _ _⟩
        · go_wp2
          go_round
          case rel =>
            refine ⟨k + 1, by omega, by go_num, fun j hj => ?_⟩
            by_cases hjk : j < k
            · exact hdig.out j hjk
            · have : j = k := by omega
              subst this
              rw [← HY.out]
              omega
          case measure => simp [intOf]; omega
    · have ek : len = k := by omega
      subst ek
      obtain ⟨y0, hy0, HY0⟩ : ∃ y, w.cell? ⟨b, off, none⟩ = some (.int .u8 y) ∧ Hid (y = ds.getD 0 0) := ⟨_, HC.out 0 (by omega), rfl⟩
      obtain ⟨y1, hy1, HY1⟩ : ∃ y, w.cell? ⟨b, off + (len - 1), none⟩ = some (.int .u8 y) ∧ Hid (y = ds.getD (len - 1) 0) := ⟨_, HC.out (len - 1) (by omega), rfl⟩
      by_cases c0 : (y0 == 48) = true
      · go_wp2
        go_ret
        exact ⟨rfl, Below.refl _ _⟩
      · by_cases c1 : (y1 == 48) = true
        · have c0' : (y0 == 48) = false := by simpa using c0
          clear c0
          go_wp2
          go_ret
          exact ⟨rfl, Below.refl _ _⟩
        · have c0' : (y0 == 48) = false := by simpa using c0
          have c1' : (y1 == 48) = false := by simpa using c1
          clear c0 c1
          go_wp2_with fail
          refine (clone_pos b off len cap ds w HL.out (by omega) (by omega) hbw HC.out).mono ?_
          rintro e w1 ⟨g1, c1, rfl, hown1, hb1⟩
          have hsz1 := hb1.size
          go_wp2_with fail
          refine (zzAppendPlain_nil true g1 len c1 adj w1 w.heap.size ds hown1 hsz1 (by omega) (by omega) ha1 ha3).mono ?_
          rintro e w2 ⟨g2, c2, N, rfl, HN0, hN, hgot, hgrow⟩
          obtain ⟨D, K, Z, T, F0⟩ := form_body ds adj (dig_all HL.out hdig.out) (by intro h; have := HL.out; rw [h] at this; simp at this; omega)
          have F : Hid (Form ds adj (bodyL 48 46 ds adj) D K Z T) := F0
          have HN : Hid (N = (plainL 48 46 45 true ds adj).length) := HN0
          have hb2 : Below w.heap.size w w2 := hb1.grown hgrow hsz1 (by simp)
          have hsz2 := hb2.size
          have HD : Hid (w2.ownsRow w.heap.size 5 1 (.slice (some ⟨g1, 0, none⟩) len c1) len (ds.map (Value.int .u8))) := hown1.kept hgrow (by simp [Value.ownBlock])
          have HG : Hid (w2.ownsRow w.heap.size 5 1 (.slice (some ⟨g2, 0, none⟩) N c2) N ((plainL 48 46 45 true ds adj).map (Value.int .u8))) := hgot
          have hNb : N ≤ 2097152 := by
            have h1 := plainL_le true ds adj ha1 ha3
            have h2 := HL.out
            omega
          clear F0 HN0 hown1 hgot hgrow
          have hy2 := first_true HG.out
          go_wp2
          go_loopw [9, 11, 12] (fun i v k wr => ∃ (t : Nat) (A : List Int) (kk : Int) (na : Nat), 1 ≤ t ∧ t ≤ N ∧ i = .int .i64 t ∧ k = .int .i64 kk ∧ Hid (stAt (bodyL 48 46 ds adj) 1 t = (A, kk)) ∧ Hid (A.length = na) ∧ wr.ownsRow w.heap.size 5 1 v na (A.map (Value.int .u8)) ∧ Adv w2 (.slice none 0 0) wr v) (fun i _ _ _ => N - (intOf i).toNat)
          case atStart => exact ⟨1, [], -1, 0, by omega, by omega, rfl, rfl, stAt_start _ _, rfl, World.ownsRow_nil _ _ _ _, Adv.refl _ _⟩
          case round =>
            obtain ⟨t, A, kk, na, ht0, htN, rfl, rfl, HS, HNa, hownA, hadvA⟩ := hrel
            have hszA := hadvA.grow.size
            have hbdA := stAt_bd _ _ _ _ _ HS.out
            rw [HNa.out] at hbdA
            by_cases hlt : t < N
            · obtain ⟨y, hy, HYt⟩ : ∃ y, wr.cell? ⟨g2, t, none⟩ = some (.int .u8 y) ∧ ((y = 46 ∧ kk = -1 ∧ Hid (stAt (bodyL 48 46 ds adj) 1 (t + 1) = (A, (A.length : Int)))) ∨ (48 ≤ y ∧ y ≤ 57 ∧ Hid (stAt (bodyL 48 46 ds adj) 1 (t + 1) = (A ++ [y], kk)))) :=
                ⟨_, row_cell (hadvA.kept HG.out (by intro k _ h; simp [Value.ownBlock] at h)) t (by rw [← HN.out]; exact hlt), stAt_step (pre := [45]) (by simp [plainL]) F.out 1 t rfl ht0 (by rw [← HN.out]; exact hlt) A kk HS.out⟩
              rcases HYt with ⟨rfl, rfl, HS'⟩ | ⟨hya, hyb, HS'⟩
              · have hsh := own_shape hownA
                obtain ⟨a', c', hv⟩ := hsh
                subst hv
                have HS2 : Hid (stAt (bodyL 48 46 ds adj) 1 (t + 1) = (A, (na : Int))) := by have h := HS'.out; rw [HNa.out] at h; exact h
                go_wp2
                go_roundw
                case rel => first | exact ⟨t + 1, _, _, _, by omega, by omega, by go_num, rfl, HS2, HNa, hownA, hadvA⟩ | ((repeat apply Exists.intro); exact ⟨⟨t + 1, _, _, _, by omega, by omega, by go_num, rfl, HS2, HNa, hownA, hadvA⟩, rfl⟩)
                case measure => simp [intOf]; omega
              · go_wp2_with (at_builtin; refine wpList_append_src _ rfl _ _ 22 22 rfl w.heap.size 5 i0 (.int .u8 0) 1 1 Try.underlying22 hi hz0 hz1 hz2 rfl (by decide) _ _ _ rfl (hownA.alloc _) _ 1 [.int .u8 y] rfl (src_one wr _) (by unfold maxLen; omega) (by omega) (by first | omega | (simp; omega)) ?_)
                intro v3 w3 hown3 hadv3
                have A3 := (hadvA.alloc _).trans hadv3
                have R3 : w3.ownsRow w.heap.size 5 1 v3 (na + 1) ((A ++ [y]).map (Value.int .u8)) := by simpa using hown3
                have HNb : Hid ((A ++ [y]).length = na + 1) := by have h := HNa.out; show (A ++ [y]).length = na + 1; simp [h]
                clear hown3 hadv3 hownA hadvA
                go_wp2
                go_roundw
                case rel => first | exact ⟨t + 1, _, _, _, by omega, by omega, by go_num, rfl, HS', HNb, R3, A3⟩ | ((repeat apply Exists.intro); exact ⟨⟨t + 1, _, _, _, by omega, by omega, by go_num, rfl, HS', HNb, R3, A3⟩, rfl⟩)
                case measure => simp [intOf]; omega
            · have et : N = t := by omega
              subst et
              have hLB : N = 1 + (bodyL (48 : Int) 46 ds adj).length := by rw [HN.out]; simp [plainL]; omega
              have hfin := HS.out
              rw [stAt_end _ _ _ hLB, F.out.fin] at hfin
              obtain ⟨e1, e2⟩ := Prod.mk.inj hfin
              subst e1
              subst e2
              obtain ⟨n3, en3⟩ : ∃ n3, n3 = na := ⟨_, rfl⟩
              subst en3
              have hDl := mid_length F.out.mid
              rw [HL.out, HNa.out] at hDl
              obtain ⟨g3, c3, hv, hnc3, hc3, _⟩ := own_pos hownA (by omega)
              subst hv
              have HW : Hid (wr.ownsRow w.heap.size 5 1 (.slice (some ⟨g3, 0, none⟩) n3 c3) n3 (D.map (Value.int .u8))) := hownA
              have hbw3 : Below w.heap.size w wr := hb2.trans (hadvA.below hsz2 (by simp [Value.ownBlock]))
              have HDr : Hid (wr.ownsRow w.heap.size 5 1 (.slice (some ⟨g1, 0, none⟩) len c1) len (ds.map (Value.int .u8))) := hadvA.kept HD.out (by intro k _ h; simp [Value.ownBlock] at h)
              obtain ⟨y4, hy4, HY4⟩ : ∃ y, wr.cell? ⟨g2, N - 1, none⟩ = some (.int .u8 y) ∧ Hid (y ∈ bodyL 48 46 ds adj) := last_byte (hadvA.kept HG.out (by intro k _ h; simp [Value.ownBlock] at h)) hN ⟨[45], by simp [plainL], form_ne F.out (by rw [HNa.out]; omega)⟩
              have hway := F.out.way
              rw [HNa.out] at hway
              have hD1 : 0 < n3 := by omega
              have hDz : Z < n3 := by omega
              have hDn : Z + len ≤ n3 := by omega
              clear hownA hadvA hfin hLB hDl
              rcases hway with ⟨rfl, hq, hnd⟩ | ⟨hK1, hK2, hq⟩
              · have hy46 : (y4 == 46) = false := by simpa using hnd _ HY4.out
                clear hnd
                go_wp2
                go_loop [14] (fun i => ∃ z : Nat, z ≤ Z ∧ i = .int .i64 z) (fun i => Z - (intOf i).toNat)
                case atStart => exact ⟨0, Nat.zero_le _, rfl⟩
                case round =>
                  obtain ⟨z, hz, rfl⟩ := hrel
                  by_cases hzZ : z < Z
                  · have hcz : wr.cell? ⟨g3, z, none⟩ = some (.int .u8 48) := by
                      have h0 := HNa.out
                      have h1 := row_cell HW.out z (by omega)
                      rwa [zeros_at F.out.mid z hzZ (by omega)] at h1
                    go_wp2
                    go_round
                    case rel => exact ⟨z + 1, by omega, by go_num⟩
                    case measure => simp [intOf]; omega
                  · have ez : Z = z := by omega
                    subst ez
                    obtain ⟨yz, hcz, hyz⟩ : ∃ y, wr.cell? ⟨g3, Z, none⟩ = some (.int .u8 y) ∧ (y == 48) = false := first_dig HW.out F.out.mid HL.out hp HY0.out c0'
                    go_wp2
                    go_loop [15] (fun i => ∃ e : Nat, Z + len ≤ e ∧ e ≤ n3 ∧ i = .int .i64 e) (fun i => (intOf i).toNat - (Z + len))
                    case atStart => exact ⟨n3, hDn, Nat.le_refl _, rfl⟩
                    case round =>
                      obtain ⟨e, he1, he2, rfl⟩ := hrel
                      by_cases heZ : Z + len < e
                      · obtain ⟨e', rfl⟩ : ∃ e', e = e' + 1 := ⟨e - 1, by omega⟩
                        have hce : wr.cell? ⟨g3, e', none⟩ = some (.int .u8 48) := by
                          have h0 := HNa.out
                          have h2 := HL.out
                          have h1 := row_cell HW.out e' (by omega)
                          rwa [tail_at F.out.mid e' (by omega) (by omega)] at h1
                        go_wp2
                        go_round
                        case rel => exact ⟨e', by omega, by omega, by go_num⟩
                        case measure => simp [intOf]; omega
                      · have ee : e = Z + len := by omega
                        subst ee
                        obtain ⟨ye, hce, hye⟩ : ∃ y, wr.cell? ⟨g3, Z + len - 1, none⟩ = some (.int .u8 y) ∧ (y == 48) = false := last_dig HW.out F.out.mid HL.out hp HY1.out c1'
                        go_wp2_with fail
                        refine (same_eq g3 Z _ g1 0 c1 len ds wr (by omega) (mid_cells HW.out F.out.mid HL.out) (fun k hk => by rw [Nat.zero_add]; exact own_cells HDr.out HL.out k hk)).mono ?_
                        rintro e w' ⟨rfl, q, hw⟩
                        subst hw
                        have hbq := hbw3.trans (below_drew (B := w.heap.size) wr q)
                        go_wp2
                        go_ret
                        exact ⟨rfl, hbq⟩

              · go_wp2
                go_loop [14] (fun i => ∃ z : Nat, z ≤ Z ∧ i = .int .i64 z) (fun i => Z - (intOf i).toNat)
                case atStart => exact ⟨0, Nat.zero_le _, rfl⟩
                case round =>
                  obtain ⟨z, hz, rfl⟩ := hrel
                  by_cases hzZ : z < Z
                  · have hcz : wr.cell? ⟨g3, z, none⟩ = some (.int .u8 48) := by
                      have h0 := HNa.out
                      have h1 := row_cell HW.out z (by omega)
                      rwa [zeros_at F.out.mid z hzZ (by omega)] at h1
                    go_wp2
                    go_round
                    case rel => exact ⟨z + 1, by omega, by go_num⟩
                    case measure => simp [intOf]; omega
                  · have ez : Z = z := by omega
                    subst ez
                    obtain ⟨yz, hcz, hyz⟩ : ∃ y, wr.cell? ⟨g3, Z, none⟩ = some (.int .u8 y) ∧ (y == 48) = false := first_dig HW.out F.out.mid HL.out hp HY0.out c0'
                    go_wp2
                    go_loop [15] (fun i => ∃ e : Nat, Z + len ≤ e ∧ e ≤ n3 ∧ i = .int .i64 e) (fun i => (intOf i).toNat - (Z + len))
                    case atStart => exact ⟨n3, hDn, Nat.le_refl _, rfl⟩
                    case round =>
                      obtain ⟨e, he1, he2, rfl⟩ := hrel
                      by_cases heZ : Z + len < e
                      · obtain ⟨e', rfl⟩ : ∃ e', e = e' + 1 := ⟨e - 1, by omega⟩
                        have hce : wr.cell? ⟨g3, e', none⟩ = some (.int .u8 48) := by
                          have h0 := HNa.out
                          have h2 := HL.out
                          have h1 := row_cell HW.out e' (by omega)
                          rwa [tail_at F.out.mid e' (by omega) (by omega)] at h1
                        go_wp2
                        go_round
                        case rel => exact ⟨e', by omega, by omega, by go_num⟩
                        case measure => simp [intOf]; omega
                      · have ee : e = Z + len := by omega
                        subst ee
                        obtain ⟨ye, hce, hye⟩ : ∃ y, wr.cell? ⟨g3, Z + len - 1, none⟩ = some (.int .u8 y) ∧ (y == 48) = false := last_dig HW.out F.out.mid HL.out hp HY1.out c1'
                        go_wp2_with fail
                        refine (same_eq g3 Z _ g1 0 c1 len ds wr (by omega) (mid_cells HW.out F.out.mid HL.out) (fun k hk => by rw [Nat.zero_add]; exact own_cells HDr.out HL.out k hk)).mono ?_
                        rintro e w' ⟨rfl, q, hw⟩
                        subst hw
                        have hbq := hbw3.trans (below_drew (B := w.heap.size) wr q)
                        go_wp2
                        go_ret
                        exact ⟨rfl, hbq⟩

end Go.Proofs.Qxb6602232a
