/-
  zzChangedModel (20): the walk.
-/
import Derived.Test.Qxb6001683aSel
namespace Go.Proofs.Qxb6001683a
open Go.RowKit
set_option linter.unusedVariables false
set_option linter.unusedSimpArgs false
attribute [local go_sem ↓] Go.wp_at_zero Go.wp_at_succ

set_option maxRecDepth 100000 in
set_option maxHeartbeats 16000000 in
theorem model_any (aw : Option Addr) (n cw : Nat) (an : Option Addr) (m cn : Nat) (fw fn : List FileD) (w : World) (B : Nat) (hw : w.ownsRow B 51 34 (.slice aw n cw) n (frow fw)) (hn : w.ownsRow B 51 34 (.slice an m cn) m (frow fn)) (okw : FilesOK fw) (okn : FilesOK fn) (lw : fw.length = n) (ln : fn.length = m) (bw : n ≤ 4096) (bn : m ≤ 4096) (hB : B ≤ w.heap.size) :
    Calls Try.prog 20 #[.slice aw n cw, .slice an m cn] w fun e w' => ∃ v k s, e = .returned v ∧ w'.ownsRow w.heap.size 9 1 v k (strs s) ∧ Below w.heap.size w w' ∧ Hid (s.Perm (cands fw fn) ∧ srt s) := by
  obtain ⟨i0, hi, hz0, hz1, hz2⟩ := info_parts info9
  have HW : Hid (w.ownsRow B 51 34 (.slice aw n cw) n (frow fw)) := hw
  have HN : Hid (w.ownsRow B 51 34 (.slice an m cn) m (frow fn)) := hn
  have OW : Hid (FilesOK fw) := okw
  have ON : Hid (FilesOK fn) := okn
  have LW : Hid (fw.length = n) := lw
  have LN : Hid (fn.length = m) := ln
  have hu49 := Try.underlying49
  clear hw hn okw okn lw ln
  go_enter Try.func20, Try.ntmps20
  go_wp2_with (at_make; refine wpList_make_own _ rfl _ _ 34 rfl w.heap.size 9 i0 (.string ByteArray.empty) 1 Try.underlying34 hi hz0 hz1 _ _ _ (n + m) rfl rfl (by omega) (by rw [hz2]; omega) (by unfold maxLen; omega) (Nat.le_refl _) ?_)
  intro w1 hown1 hgrow1
  have hb1 : Below w.heap.size w w1 := (Below.refl _ _).grown hgrow1 (Nat.le_refl _) (by simp)
  clear hgrow1
  go_wp2
  go_loopw [5, 6] (fun v a wr => ∃ (i : Nat) (acc : List FileD) (k : Nat), i ≤ n ∧ k ≤ i ∧ a = .int .i64 i ∧ Hid (Sel (pSel fn) fw [] i acc) ∧ wr.ownsRow w.heap.size 9 1 v k (strs acc) ∧ Below w.heap.size w wr) (fun _ a _ => n - (intOf a).toNat)
  case atStart => exact ⟨0, [], 0, by omega, by omega, rfl, sel_start _ _ _, own_cast hown1 (by simp [strs]) rfl, hb1⟩
  case round =>
    clear hown1 hb1
    obtain ⟨i, acc, k, hi1, hk, rfl, HS, hown, hb⟩ := hrel
    have hsz := hb.size
    by_cases hin : i < n
    · have _u := hin
      obtain ⟨gw, dw, egw, _⟩ := own_pos HW.out (by omega)
      obtain ⟨rfl, rfl⟩ := (by simpa using egw : aw = some ⟨gw, 0, none⟩ ∧ cw = dw)
      obtain ⟨f, fr0, f0, f1, f2, fs, fp, fh0⟩ := file_at (own_below HW.out hb) OW.out LW.out i hin
      have fh : Hid (fw[i]? = some f) := fh0
      have f2' : Hid (wr.rangeAt gw (i * 34 + 2) (f.sum.map (Value.int .u8))) := f2
      have gwl := (HW.out.lt gw rfl).2
      have inn : (0 : Int) ≤ (i : Int) := Int.natCast_nonneg _
      clear fh0 fr0 f2 egw
      have hiN : (i : Int) < (n : Int) := by omega
      go_wp2
      obtain ⟨wo, ewo⟩ : ∃ wo : World, wo = wr := ⟨_, rfl⟩
      subst ewo
      go_loopw [7, 8] (fun x b ws => ∃ j : Nat, j ≤ m ∧ x = .int .i64 (-1) ∧ b = .int .i64 j ∧ Hid (Nf fn f j) ∧ ∃ q, ws = wo.drewN q) (fun _ b _ => m - (intOf b).toNat)
      case atStart => exact ⟨0, by omega, rfl, rfl, nf_start _ _, 0, rfl⟩
      case round =>
        obtain ⟨j, hj1, rfl, rfl, HNf, q, rfl⟩ := hrel
        by_cases hjm : j < m
        · obtain ⟨gn, dn, egn, _⟩ := own_pos HN.out (by omega)
          obtain ⟨rfl, rfl⟩ := (by simpa using egn : an = some ⟨gn, 0, none⟩ ∧ cn = dn)
          obtain ⟨g, gr0, g0, g1, g2, gs, gp, gh0⟩ := file_at (own_below HN.out hb) ON.out LN.out j hjm
          have gh : Hid (fn[j]? = some g) := gh0
          have g2' : Hid (wo.rangeAt gn (j * 34 + 2) (g.sum.map (Value.int .u8))) := g2
          have gnl := (HN.out.lt gn rfl).2
          have jnn : (0 : Int) ≤ (j : Int) := Int.natCast_nonneg _
          clear gh0 gr0 g2
          clear egn
          have hjM : (j : Int) < (m : Int) := by omega
          have dj0 : decide ((j : Int) < 0) = false := decide_eq_false (by omega)
          by_cases ce : (g.path.toList == f.path.toList) = true
          · have HP : Hid (pSel fn f = !(fsame f g)) := nf_some HNf.out gh.out ce
            by_cases cl : g.link = f.link
            · have hneq : ∀ w0 : World, (binOp .neq 49 (.agg (g.sum.map (Value.int .u8)).toArray) (.agg (f.sum.map (Value.int .u8)).toArray)).run Try.prog w0 = .ok (.bool (!(decide (g.sum = f.sum)))) w0 := fun w0 => eq49 g.sum f.sum gs fs w0
              have hi49g : (Try.prog.info? 49).map (·.size) = some (g.sum.map (Value.int .u8)).length := by rw [List.length_map, gs.1]; exact size49
              have hi49f : (Try.prog.info? 49).map (·.size) = some (f.sum.map (Value.int .u8)).length := by rw [List.length_map, fs.1]; exact size49
              by_cases cs : g.sum = f.sum
              · have HP' : Hid (pSel fn f = false) := by show _ = _; rw [HP.out]; simp [fsame, cl, cs]
                have hneq' : ∀ w0 : World, (binOp .neq 49 (.agg (g.sum.map (Value.int .u8)).toArray) (.agg (f.sum.map (Value.int .u8)).toArray)).run Try.prog w0 = .ok (.bool false) w0 := fun w0 => by rw [hneq w0]; simp [cs]
                clear hneq HP HNf cs
                go_wp2
                go_quiet (fail)
                go_wp2
                refine wp_region_quiet_lit (by kernel_rfl) (by kernel_rfl) ?_
                go_big_quiet_step (fail)
                go_big_quiet_step (fail)
                go_big_quiet_step (fail)
                go_big_quiet_step (fail)
                go_big_quiet_step (fail)
                go_big_quiet_step (fail)
                go_big_quiet_step (fail)
                go_big_quiet_step (fail)
                go_big_quiet_step (fail)
                go_big_quiet_step (fail)
                go_big_quiet_step (fail)
                go_big_quiet_step (fail)
                go_big_quiet_step (fail)
                go_big_quiet_step (fail)
                go_big_quiet_step (fail)
                go_big_quiet_step (fail)
                go_big_quiet_step (fail)
                go_big_quiet_step (fail)
                go_big_quiet_step (fail)
                go_big_quiet_step (fail)
                go_big_quiet_want
                refine quiet_load_mid 49 _ rfl _ _ rfl (g.sum.map (Value.int .u8)) _ (fun w0 h0 => by obtain ⟨n0, rfl⟩ := h0; exact g2'.out) hu49 rfl hi49g ?_
                simp only [Act.put, List.setIfInBounds_toArray, List.set_cons_zero, List.set_cons_succ]
                go_big_quiet_on
                go_big_quiet_step (fail)
                go_big_quiet_step (fail)
                go_big_quiet_step (fail)
                go_big_quiet_step (fail)
                go_big_quiet_want
                refine quiet_load_mid 49 _ rfl _ _ rfl (f.sum.map (Value.int .u8)) _ (fun w0 h0 => by obtain ⟨n0, rfl⟩ := h0; exact f2'.out) hu49 rfl hi49f ?_
                simp only [Act.put, List.setIfInBounds_toArray, List.set_cons_zero, List.set_cons_succ]
                go_big_quiet_on
                go_big_quiet_step (fail)
                go_big_quiet_step (fail)
                refine wpQuiet_nil ?_
                intro _ hw'
                obtain ⟨nq3, hw''⟩ := hw'
                subst hw''
                go_wp2
                go_roundw
                case rel => exact ⟨i + 1, acc, k, by omega, by omega, by go_num, sel_no HS.out fh.out HP'.out, own_drewN hown _, below_d hb _⟩
                case measure => simp [intOf]; omega
              · have HP' : Hid (pSel fn f = true) := by show _ = _; rw [HP.out]; simp [fsame, cl, Ne.symm cs]
                have hneq' : ∀ w0 : World, (binOp .neq 49 (.agg (g.sum.map (Value.int .u8)).toArray) (.agg (f.sum.map (Value.int .u8)).toArray)).run Try.prog w0 = .ok (.bool true) w0 := fun w0 => by rw [hneq w0]; simp [cs]
                clear hneq HP HNf cs
                go_wp2
                go_quiet (fail)
                go_wp2
                refine wp_region_quiet_lit (by kernel_rfl) (by kernel_rfl) ?_
                go_big_quiet_step (fail)
                go_big_quiet_step (fail)
                go_big_quiet_step (fail)
                go_big_quiet_step (fail)
                go_big_quiet_step (fail)
                go_big_quiet_step (fail)
                go_big_quiet_step (fail)
                go_big_quiet_step (fail)
                go_big_quiet_step (fail)
                go_big_quiet_step (fail)
                go_big_quiet_step (fail)
                go_big_quiet_step (fail)
                go_big_quiet_step (fail)
                go_big_quiet_step (fail)
                go_big_quiet_step (fail)
                go_big_quiet_step (fail)
                go_big_quiet_step (fail)
                go_big_quiet_step (fail)
                go_big_quiet_step (fail)
                go_big_quiet_step (fail)
                go_big_quiet_want
                refine quiet_load_mid 49 _ rfl _ _ rfl (g.sum.map (Value.int .u8)) _ (fun w0 h0 => by obtain ⟨n0, rfl⟩ := h0; exact g2'.out) hu49 rfl hi49g ?_
                simp only [Act.put, List.setIfInBounds_toArray, List.set_cons_zero, List.set_cons_succ]
                go_big_quiet_on
                go_big_quiet_step (fail)
                go_big_quiet_step (fail)
                go_big_quiet_step (fail)
                go_big_quiet_step (fail)
                go_big_quiet_want
                refine quiet_load_mid 49 _ rfl _ _ rfl (f.sum.map (Value.int .u8)) _ (fun w0 h0 => by obtain ⟨n0, rfl⟩ := h0; exact f2'.out) hu49 rfl hi49f ?_
                simp only [Act.put, List.setIfInBounds_toArray, List.set_cons_zero, List.set_cons_succ]
                go_big_quiet_on
                go_big_quiet_step (fail)
                go_big_quiet_step (fail)
                refine wpQuiet_nil ?_
                intro _ hw'
                obtain ⟨nq3, hw''⟩ := hw'
                subst hw''
                go_wp2_with (at_builtin; refine wpList_append_src _ rfl (.tmp 73) _ 34 34 rfl w.heap.size 9 i0 (.string ByteArray.empty) 1 16 Try.underlying34 hi hz0 hz1 hz2 rfl (by decide) _ _ _ rfl (own_drewN hown _ |>.alloc _) (.slice (some ⟨wo.heap.size, 0, none⟩) 1 1) 1 [.string f.path] rfl (src_strN wo _ _) (by unfold maxLen; omega) (by omega) (size_dA hsz _ _) ?_)
                intro v3 w3 hown3 hadv3
                have R : w3.ownsRow w.heap.size 9 1 v3 (k + 1) (strs (acc ++ [f])) := own_cast hown3 (strs_snoc acc f).symm rfl
                have A : Below w.heap.size w w3 := (below_dA hb hsz _ _).trans (hadv3.below (size_dA hsz _ _) (fun q hq => (hown.lt q hq).1))
                clear hown3 hadv3 hown
                go_wp2
                go_roundw
                case rel => first | exact ⟨i + 1, acc ++ [f], k + 1, by omega, by omega, by go_num, sel_yes HS.out fh.out (HP'.out), R, A⟩ | ((repeat apply Exists.intro); exact ⟨⟨i + 1, acc ++ [f], k + 1, by omega, by omega, by go_num, sel_yes HS.out fh.out (HP'.out), R, A⟩, rfl⟩)
                case measure => simp [intOf]; omega
            · have HP' : Hid (pSel fn f = true) := by show _ = _; rw [HP.out]; simp [fsame, Ne.symm cl]
              clear HP HNf
              go_wp2
              go_quiet (fail)
              go_wp2
              go_quiet (fail)
              go_wp2_with (at_builtin; refine wpList_append_src _ rfl (.tmp 73) _ 34 34 rfl w.heap.size 9 i0 (.string ByteArray.empty) 1 16 Try.underlying34 hi hz0 hz1 hz2 rfl (by decide) _ _ _ rfl (own_drewN hown _ |>.alloc _) (.slice (some ⟨wo.heap.size, 0, none⟩) 1 1) 1 [.string f.path] rfl (src_strN wo _ _) (by unfold maxLen; omega) (by omega) (size_dA hsz _ _) ?_)
              intro v3 w3 hown3 hadv3
              have R : w3.ownsRow w.heap.size 9 1 v3 (k + 1) (strs (acc ++ [f])) := own_cast hown3 (strs_snoc acc f).symm rfl
              have A : Below w.heap.size w w3 := (below_dA hb hsz _ _).trans (hadv3.below (size_dA hsz _ _) (fun q hq => (hown.lt q hq).1))
              clear hown3 hadv3 hown
              go_wp2
              go_roundw
              case rel => first | exact ⟨i + 1, acc ++ [f], k + 1, by omega, by omega, by go_num, sel_yes HS.out fh.out (HP'.out), R, A⟩ | ((repeat apply Exists.intro); exact ⟨⟨i + 1, acc ++ [f], k + 1, by omega, by omega, by go_num, sel_yes HS.out fh.out (HP'.out), R, A⟩, rfl⟩)
              case measure => simp [intOf]; omega
          · have ce' : (g.path.toList == f.path.toList) = false := by simpa using ce
            clear ce
            go_wp2
            go_quiet (fail)
            go_wp2
            go_roundw
            case rel => exact ⟨j + 1, by omega, rfl, by go_num, nf_step HNf.out gh.out ce', _, rfl⟩
            case measure => simp [intOf]; omega
        · have ejm : m = j := by omega
          subst ejm
          have HP : Hid (pSel fn f = true) := nf_none LN.out HNf.out
          clear HNf
          go_wp2
          go_quiet (fail)
          go_wp2_with (at_builtin; refine wpList_append_src _ rfl (.tmp 73) _ 34 34 rfl w.heap.size 9 i0 (.string ByteArray.empty) 1 16 Try.underlying34 hi hz0 hz1 hz2 rfl (by decide) _ _ _ rfl (own_drewN hown _ |>.alloc _) (.slice (some ⟨wo.heap.size, 0, none⟩) 1 1) 1 [.string f.path] rfl (src_strN wo _ _) (by unfold maxLen; omega) (by omega) (size_dA hsz _ _) ?_)
          intro v3 w3 hown3 hadv3
          have R : w3.ownsRow w.heap.size 9 1 v3 (k + 1) (strs (acc ++ [f])) := own_cast hown3 (strs_snoc acc f).symm rfl
          have A : Below w.heap.size w w3 := (below_dA hb hsz _ _).trans (hadv3.below (size_dA hsz _ _) (fun q hq => (hown.lt q hq).1))
          clear hown3 hadv3 hown
          go_wp2
          go_roundw
          case rel => first | exact ⟨i + 1, acc ++ [f], k + 1, by omega, by omega, by go_num, sel_yes HS.out fh.out (HP.out), R, A⟩ | ((repeat apply Exists.intro); exact ⟨⟨i + 1, acc ++ [f], k + 1, by omega, by omega, by go_num, sel_yes HS.out fh.out (HP.out), R, A⟩, rfl⟩)
          case measure => simp [intOf]; omega
    · have ein : n = i := by omega
      subst ein
      have HA : Hid (acc = fw.filter (pSel fn)) := by show _ = _; rw [sel_end LW.out HS.out, List.nil_append]
      clear HS
      go_wp2
      obtain ⟨wA, ewA⟩ : ∃ wA : World, wA = wr := ⟨_, rfl⟩
      subst ewA
      obtain ⟨A0, eA0⟩ : ∃ A0 : List FileD, A0 = acc := ⟨_, rfl⟩
      subst eA0
      obtain ⟨kA, ekA⟩ : ∃ kA : Nat, kA = k := ⟨_, rfl⟩
      subst ekA
      go_loopw [5, 9] (fun v b ws => ∃ (j : Nat) (acc : List FileD) (k : Nat), j ≤ m ∧ k ≤ n + j ∧ b = .int .i64 j ∧ Hid (Sel (qSel fw) fn A0 j acc) ∧ ws.ownsRow w.heap.size 9 1 v k (strs acc) ∧ Below w.heap.size w ws) (fun _ b _ => m - (intOf b).toNat)
      case atStart => exact ⟨0, A0, kA, by omega, by omega, rfl, sel_start _ _ _, hown, hb⟩
      case round =>
        clear hown hb hsz
        obtain ⟨j, acc, k, hj1, hk2, rfl, HS, hown, hb⟩ := hrel
        have hsz := hb.size
        by_cases hjm : j < m
        · have _u := hjm
          obtain ⟨gn, dn, egn, _⟩ := own_pos HN.out (by omega)
          obtain ⟨rfl, rfl⟩ := (by simpa using egn : an = some ⟨gn, 0, none⟩ ∧ cn = dn)
          obtain ⟨g, gr0, g0, g1, g2, gs, gp, gh0⟩ := file_at (own_below HN.out hb) ON.out LN.out j hjm
          have gh : Hid (fn[j]? = some g) := gh0
          have g2' : Hid (wr.rangeAt gn (j * 34 + 2) (g.sum.map (Value.int .u8))) := g2
          have gnl := (HN.out.lt gn rfl).2
          have jnn : (0 : Int) ≤ (j : Int) := Int.natCast_nonneg _
          clear gh0 gr0 g2 egn
          have hjM : (j : Int) < (m : Int) := by omega
          go_wp2
          obtain ⟨wo, ewo⟩ : ∃ wo : World, wo = wr := ⟨_, rfl⟩
          subst ewo
          go_loopw [10, 11] (fun x b ws => ∃ t : Nat, t ≤ n ∧ x = .bool false ∧ b = .int .i64 t ∧ Hid (Nf fw g t) ∧ ∃ q, ws = wo.drewN q) (fun _ b _ => n - (intOf b).toNat)
          case atStart => exact ⟨0, by omega, rfl, rfl, nf_start _ _, 0, rfl⟩
          case round =>
            obtain ⟨t, ht1, rfl, rfl, HNf, q, rfl⟩ := hrel
            by_cases htn : t < n
            · obtain ⟨gw, dw, egw, _⟩ := own_pos HW.out (by omega)
              obtain ⟨rfl, rfl⟩ := (by simpa using egw : aw = some ⟨gw, 0, none⟩ ∧ cw = dw)
              obtain ⟨f, fr0, f0, f1, f2, fs, fp, fh0⟩ := file_at (own_below HW.out hb) OW.out LW.out t htn
              have fh : Hid (fw[t]? = some f) := fh0
              have f2' : Hid (wo.rangeAt gw (t * 34 + 2) (f.sum.map (Value.int .u8))) := f2
              have gwl := (HW.out.lt gw rfl).2
              have tnn : (0 : Int) ≤ (t : Int) := Int.natCast_nonneg _
              clear fh0 fr0 f2
              clear egw
              have htN : (t : Int) < (n : Int) := by omega
              by_cases ce : (f.path.toList == g.path.toList) = true
              · have HP : Hid (qSel fw g = false) := nf_q' fh.out ce
                clear HNf
                go_wp2
                go_quiet (fail)
                go_wp2
                go_roundw
                case rel => exact ⟨j + 1, acc, k, by omega, by omega, by go_num, sel_no HS.out gh.out HP.out, own_drewN hown _, below_d hb _⟩
                case measure => simp [intOf]; omega
              · have ce' : (f.path.toList == g.path.toList) = false := by simpa using ce
                clear ce
                go_wp2
                go_quiet (fail)
                go_wp2
                go_roundw
                case rel => exact ⟨t + 1, by omega, rfl, by go_num, nf_step HNf.out fh.out ce', _, rfl⟩
                case measure => simp [intOf]; omega
            · have ent : n = t := by omega
              subst ent
              have HP : Hid (qSel fw g = true) := nf_q LW.out HNf.out
              clear HNf
              go_wp2_with (at_builtin; refine wpList_append_src _ rfl (.tmp 106) _ 34 34 rfl w.heap.size 9 i0 (.string ByteArray.empty) 1 16 Try.underlying34 hi hz0 hz1 hz2 rfl (by decide) _ _ _ rfl (own_drewN hown _ |>.alloc _) (.slice (some ⟨wo.heap.size, 0, none⟩) 1 1) 1 [.string g.path] rfl (src_strN wo _ _) (by unfold maxLen; omega) (by omega) (size_dA hsz _ _) ?_)
              intro v3 w3 hown3 hadv3
              have R : w3.ownsRow w.heap.size 9 1 v3 (k + 1) (strs (acc ++ [g])) := own_cast hown3 (strs_snoc acc g).symm rfl
              have A : Below w.heap.size w w3 := (below_dA hb hsz _ _).trans (hadv3.below (size_dA hsz _ _) (fun q hq => (hown.lt q hq).1))
              clear hown3 hadv3 hown
              go_wp2
              go_roundw
              case rel => first | exact ⟨j + 1, acc ++ [g], k + 1, by omega, by omega, by go_num, sel_yes HS.out gh.out HP.out, R, A⟩ | ((repeat apply Exists.intro); exact ⟨⟨j + 1, acc ++ [g], k + 1, by omega, by omega, by go_num, sel_yes HS.out gh.out HP.out, R, A⟩, rfl⟩)
              case measure => simp [intOf]; omega
        · have ejm : m = j := by omega
          subst ejm
          have HC : Hid (acc = cands fw fn) := by show _ = _; rw [sel_end LN.out HS.out, HA.out]; rfl
          clear HS HA
          obtain ⟨C0, eC0⟩ : ∃ C0 : List FileD, C0 = acc := ⟨_, rfl⟩
          subst eC0
          obtain ⟨av, cv, ev⟩ := own_shape hown
          subst ev
          have hlen : C0.length = k := by simpa [strs] using hown.1
          go_wp2
          obtain ⟨wB, ewB⟩ : ∃ wB : World, wB = wr := ⟨_, rfl⟩
          subst ewB
          go_loopw [12] (fun a ws => ∃ (i : Nat) (s : List FileD), 1 ≤ i ∧ (i ≤ k ∨ i = 1) ∧ a = .int .i64 i ∧ Hid (Outer C0 s i) ∧ ws.ownsRow w.heap.size 9 1 (.slice av k cv) k (strs s) ∧ Below w.heap.size w ws) (fun a _ => k - (intOf a).toNat)
          case atStart => exact ⟨1, C0, by omega, .inr rfl, rfl, outer_one _, hown, hb⟩
          case round =>
            clear hown hb hsz
            obtain ⟨i, s, hi1, hi2, rfl, HO, hown, hb⟩ := hrel
            have hsz := hb.size
            by_cases hik : i < k
            · obtain ⟨gv, dv, egv, _, _, hgv, _⟩ := own_pos hown (by omega)
              obtain ⟨rfl, rfl⟩ := (by simpa using egv : av = some ⟨gv, 0, none⟩ ∧ cv = dv)
              clear egv
              have HI : Hid (Ins C0 s i i) := outer_ins HO.out (by rw [outer_length HO.out]; omega)
              clear HO
              go_wp2
              obtain ⟨wC, ewC⟩ : ∃ wC : World, wC = wr := ⟨_, rfl⟩
              subst ewC
              obtain ⟨s0, es0⟩ : ∃ s0 : List FileD, s0 = s := ⟨_, rfl⟩
              subst es0
              go_loopw [13] (fun b ws => ∃ (p : Nat) (s : List FileD), p ≤ i ∧ b = .int .i64 p ∧ Hid (Ins C0 s i p) ∧ ws.ownsRow w.heap.size 9 1 (.slice (some ⟨gv, 0, none⟩) k cv) k (strs s) ∧ Below w.heap.size w ws) (fun b _ => (intOf b).toNat)
              case atStart => exact ⟨i, s0, by omega, rfl, HI.out, hown, hb⟩
              case round =>
                clear hown hb hsz HI
                obtain ⟨p, s, hp1, rfl, HI, hown, hb⟩ := hrel
                have hsz := hb.size
                by_cases hp0 : p = 0
                · subst hp0
                  go_wp2
                  go_quiet (fail)
                  go_wp2
                  go_roundw
                  case rel => exact ⟨i + 1, s, by omega, .inl (by omega), by go_num, outer_zero HI.out, own_drewN hown _, below_d hb _⟩
                  case measure => simp [intOf]; omega
                · have hl0 := ins_length HI.out
                  obtain ⟨x, hx⟩ : ∃ x, s[p]? = some x := ⟨_, List.getElem?_eq_getElem (by omega)⟩
                  obtain ⟨z, hz⟩ : ∃ z, s[p - 1]? = some z := ⟨_, List.getElem?_eq_getElem (by omega)⟩
                  have cx : wr.cell? ⟨gv, p, none⟩ = some (.string x.path) := by rw [hown.cellAt p (by omega)]; exact strs_get hx
                  have cz : wr.cell? ⟨gv, p - 1, none⟩ = some (.string z.path) := by rw [hown.cellAt (p - 1) (by omega)]; exact strs_get hz
                  have HX : Hid (s[p]? = some x) := hx
                  have HZ : Hid (s[p - 1]? = some z) := hz
                  have hq0 : (1 : Int) ≤ (p : Int) := by omega
                  have hqk : (p : Int) < (k : Int) := by omega
                  have hpp : 0 < p := by omega
                  clear hx hz hl0
                  by_cases cl : Op.bytesLess x.path.toList z.path.toList = true
                  · have f0 := hown.frozenAt p
                    have f1 := hown.frozenAt (p - 1)
                    have HH : Hid (wr.ownsRow w.heap.size 9 1 (.slice (some ⟨gv, 0, none⟩) k cv) k (strs s)) := hown
                    clear hown
                    go_wp2
                    go_quiet (fail)
                    go_wp2
                    go_roundw
                    case rel =>
                      have s1 := (own_drewN HH.out nq).stored p (.string z.path)
                      have s2 := s1.1.stored (p - 1) (.string x.path)
                      exact ⟨p - 1, (s.set p z).set (p - 1) x, by omega, by go_num, ins_swap' (by omega) HI.out HX.out HZ.out cl, own_cast s2.1 (by rw [strs_set, strs_set]) rfl, (below_d hb nq).grown (growTrans s1.2 s2.2) hsz (by intro k hk; simp at hk; omega)⟩
                    case measure => simp [intOf]; omega
                  · have cl' : Op.bytesLess x.path.toList z.path.toList = false := by simpa using cl
                    clear cl
                    go_wp2
                    go_quiet (fail)
                    go_wp2
                    go_roundw
                    case rel => exact ⟨i + 1, s, by omega, .inl (by omega), by go_num, outer_stop' (by omega) HI.out HX.out HZ.out cl', own_drewN hown _, below_d hb _⟩
                    case measure => simp [intOf]; omega
            · have hE : s.Perm C0 ∧ srt s := outer_end HO.out (by rw [outer_length HO.out]; omega)
              have HE : Hid (s.Perm (cands fw fn) ∧ srt s) := ⟨by rw [← HC.out]; exact hE.1, hE.2⟩
              clear hE HO
              go_wp2
              go_ret
              exact ⟨_, k, s, rfl, hown, hb, HE⟩
end Go.Proofs.Qxb6001683a
