/-
  Changed (19): the walk.
-/
import Derived.Test.Qxb6001683aChg
namespace Go.Proofs.Qxb6001683a
open Go.RowKit
set_option linter.unusedVariables false
set_option linter.unusedSimpArgs false
attribute [local go_sem ↓] Go.wp_at_zero Go.wp_at_succ

theorem strs_snoc (acc : List FileD) (f : FileD) : strs (acc ++ [f]) = strs acc ++ [.string f.path] := by simp [strs]

theorem kept_to {w0 w : World} {v0 v d : Value} {B e s n : Nat} {xs : List Value} (hd : w0.ownsRow B e s d n xs) (h : Adv w0 v0 w v) (hap : Apart d v0) : w.ownsRow B e s d n xs := h.kept hd hap

theorem range_drew {w : World} {g o q : Nat} {cs : List Value} (h : w.rangeAt g o cs) : (w.drewN q).rangeAt g o cs := h

theorem src_strN (w : World) (q : Nat) (s : ByteArray) : Src Try.prog 1 34 (.slice (some ⟨w.heap.size, 0, none⟩) 1 1) 1 [.string s] ((w.drewN q).alloc (.cells #[.string s] 9)) := src_str (w.drewN q) s

theorem eqF_same {f g : FileD} (h1 : Op.bytesLess f.path.toList g.path.toList = false) (h2 : Op.bytesLess g.path.toList f.path.toList = false) : eqF f g = fsame f g := by
  have e : f.path.toList = g.path.toList := byteLO.tri _ _ h1 h2
  simp [eqF, fsame, e]

theorem size51' : (Try.prog.info? 51).map (·.size) = some 34 := by kernel_rfl

theorem size51 (f : FileD) (h : SumOK f.sum) : (Try.prog.info? 51).map (·.size) = some (fcells f).length := by
  have e : (fcells f).length = 34 := by simp [fcells, h.1]
  rw [e]
  exact size51'

/-- a load of a whole row, in a quiet walk -/
theorem quiet_load_mid {P : Program} {C : World → Prop} {o : Oper} {a : Act} {K : Act → Prop} (ty : TypeId) (x : Operand) (ho : o.op = .load ty x)
    (b off : Nat) (hx : a.eval x = .pointer (some ⟨b, off, none⟩)) (cs : List Value) (d : TypeDesc) (hS : ∀ w, C w → w.rangeAt b off cs)
    (hu : P.underlying ty = some d) (hd : d.isRow = true) (hi : (P.info? ty).map (·.size) = some cs.length) (hk : K (a.put o.dst (.agg cs.toArray))) : o.quiet P a C K :=
  ⟨_, fun w hw => by
    unfold Oper.quietAt execOp
    simp only [ho, hx, Instr.loadAt, Instr.sureAddr, Sem.run_bind, Sem.run_pure, Result.andThen_ok, run_loadVar_mid w b off ty cs d (hS w hw) hu hd hi]
    exact ⟨rfl, rfl⟩, hk⟩

theorem at_a0m {fw fn res acc : List FileD} {i m : Nat} {f : FileD} (hm : fn.length = m) (hf : fw[i]? = some f) (h : At fw fn res i m acc) : At fw fn res (i + 1) m (acc ++ [f]) := by subst hm; exact at_a0 hf h

theorem at_0bm {fw fn res acc : List FileD} {j n : Nat} {f : FileD} (hn : fw.length = n) (hf : fn[j]? = some f) (h : At fw fn res n j acc) : At fw fn res n (j + 1) (acc ++ [f]) := by subst hn; exact at_0b hf h

theorem at_endm {fw fn res acc : List FileD} {n m : Nat} (hn : fw.length = n) (hm : fn.length = m) (h : At fw fn res n m acc) : acc = res := by subst hn; subst hm; exact at_end h

theorem below_d {B : Nat} {w wr : World} (hb : Below B w wr) (q : Nat) : Below B w (wr.drewN q) := hb.trans ⟨rfl, rfl, rfl, Nat.le_refl _, fun _ _ => rfl⟩

theorem own_drewN {w : World} {B e s n : Nat} {v : Value} {xs : List Value} (h : w.ownsRow B e s v n xs) (q : Nat) : (w.drewN q).ownsRow B e s v n xs := h

theorem size_dA {B : Nat} {wr : World} (hs : B ≤ wr.heap.size) (q : Nat) (o : Obj) : B ≤ ((wr.drewN q).alloc o).heap.size := by
  have : ((wr.drewN q).alloc o).heap.size = wr.heap.size + 1 := by simp [World.drewN]
  omega

theorem below_dA {w wr : World} (hb : Below w.heap.size w wr) (hs : w.heap.size ≤ wr.heap.size) (q : Nat) (o : Obj) : Below w.heap.size w ((wr.drewN q).alloc o) := by
  have h1 : Below w.heap.size w (wr.drewN q) := hb.trans ⟨rfl, rfl, rfl, Nat.le_refl _, fun _ _ => rfl⟩
  exact h1.alloc hs o

set_option maxRecDepth 100000 in
set_option maxHeartbeats 8000000 in
theorem changed_any (aw : Option Addr) (n cw : Nat) (an : Option Addr) (m cn : Nat) (fw fn : List FileD) (w : World) (B : Nat) (hw : w.ownsRow B 51 34 (.slice aw n cw) n (frow fw)) (hn : w.ownsRow B 51 34 (.slice an m cn) m (frow fn)) (okw : FilesOK fw) (okn : FilesOK fn) (lw : fw.length = n) (ln : fn.length = m) (bw : n ≤ 4096) (bn : m ≤ 4096) (hB : B ≤ w.heap.size) :
    Calls Try.prog 19 #[.slice aw n cw, .slice an m cn] w fun e w' => ∃ v k, e = .returned v ∧ w'.ownsRow w.heap.size 9 1 v k (strs (merged (fw.length + fn.length) fw fn)) ∧ Below w.heap.size w w' := by
  obtain ⟨i0, hi, hz0, hz1, hz2⟩ := info_parts info9
  have HW : Hid (w.ownsRow B 51 34 (.slice aw n cw) n (frow fw)) := hw
  have HN : Hid (w.ownsRow B 51 34 (.slice an m cn) m (frow fn)) := hn
  have OW : Hid (FilesOK fw) := okw
  have ON : Hid (FilesOK fn) := okn
  have LW : Hid (fw.length = n) := lw
  have LN : Hid (fn.length = m) := ln
  have hu51 := Try.underlying51
  clear hw hn okw okn lw ln
  go_enter Try.func19, Try.ntmps19
  go_wp2
  go_loopw [5, 6, 7] (fun v a b wr => ∃ (i j : Nat) (acc : List FileD) (k : Nat), i ≤ n ∧ j ≤ m ∧ k ≤ i + j ∧ a = .int .i64 i ∧ b = .int .i64 j ∧ Hid (At fw fn (merged (fw.length + fn.length) fw fn) i j acc) ∧ wr.ownsRow w.heap.size 9 1 v k (strs acc) ∧ Below w.heap.size w wr) (fun _ a b _ => (n - (intOf a).toNat) + (m - (intOf b).toNat))
  case atStart => exact ⟨0, 0, [], 0, by omega, by omega, by omega, rfl, rfl, at_start fw fn, World.ownsRow_lit w #[] 0 (Nat.le_refl _) (by unfold maxLen; omega) rfl, (Below.refl _ _).alloc (Nat.le_refl _) _⟩
  case round =>
    obtain ⟨i, j, acc, k, hi1, hj1, hk, rfl, rfl, HA, hown, hb⟩ := hrel
    have hsz := hb.size
    by_cases hin : i < n
    · by_cases hjm : j < m
      · -- both lists go on
        obtain ⟨gw, dw, ew, _⟩ := own_pos HW.out (by omega)
        obtain ⟨rfl, rfl⟩ := (by simpa using ew : aw = some ⟨gw, 0, none⟩ ∧ cw = dw)
        obtain ⟨gn, dn, en, _⟩ := own_pos HN.out (by omega)
        obtain ⟨rfl, rfl⟩ := (by simpa using en : an = some ⟨gn, 0, none⟩ ∧ cn = dn)
        obtain ⟨f, fr, f0, _, _, fs, fp, HF⟩ := file_at (own_below HW.out hb) OW.out LW.out i hin
        obtain ⟨g, gr, g0, _, _, gs, gp, HG⟩ := file_at (own_below HN.out hb) ON.out LN.out j hjm
        have HF' : Hid (fw[i]? = some f) := HF
        have HG' : Hid (fn[j]? = some g) := HG
        have hi0 : (0 : Int) ≤ (i : Int) := Int.natCast_nonneg _
        have hj0 : (0 : Int) ≤ (j : Int) := Int.natCast_nonneg _
        have hiN : (i : Int) < (n : Int) := by omega
        have hjM : (j : Int) < (m : Int) := by omega
        have dj : (((j : Nat) : Int) == ((m : Nat) : Int)) = false := by simp; omega
        have di : (((i : Nat) : Int) == ((n : Nat) : Int)) = false := by simp; omega
        have gwl := (HW.out.lt gw rfl).2
        have gnl := (HN.out.lt gn rfl).2
        clear HF HG ew en
        by_cases c1 : Op.bytesLess f.path.toList g.path.toList = true
        · clear fr gr
          go_wp2
          go_quiet (fail)
          go_wp2_with (at_builtin; refine wpList_append_src _ rfl (.tmp 64) _ 34 34 rfl w.heap.size 9 i0 (.string ByteArray.empty) 1 16 Try.underlying34 hi hz0 hz1 hz2 rfl (by decide) _ _ _ rfl (own_drewN hown _ |>.alloc _) (.slice (some ⟨wr.heap.size, 0, none⟩) 1 1) 1 [.string f.path] rfl (src_strN wr _ _) (by unfold maxLen; omega) (by omega) (size_dA hsz _ _) ?_)
          intro v3 w3 hown3 hadv3
          have R : w3.ownsRow w.heap.size 9 1 v3 (k + 1) (strs (acc ++ [f])) := own_cast hown3 (strs_snoc acc f).symm rfl
          have A : Below w.heap.size w w3 := (below_dA hb hsz _ _).trans (hadv3.below (size_dA hsz _ _) (fun q hq => (hown.lt q hq).1))
          clear hown3 hadv3 hown
          go_wp2
          go_roundw
          case rel => first | exact ⟨i + 1, j, acc ++ [f], k + 1, by omega, by omega, by omega, by go_num, by go_num, at_lt HF'.out HG'.out c1 HA.out, R, A⟩ | ((repeat apply Exists.intro); exact ⟨⟨i + 1, j, acc ++ [f], k + 1, by omega, by omega, by omega, by go_num, by go_num, at_lt HF'.out HG'.out c1 HA.out, R, A⟩, rfl⟩)
          case measure => simp [intOf]; omega
        · have c1' : Op.bytesLess f.path.toList g.path.toList = false := by simpa using c1
          clear c1
          by_cases c2 : Op.bytesLess g.path.toList f.path.toList = true
          · clear fr gr
            go_wp2
            go_quiet (fail)
            go_wp2
            go_quiet (fail)
            go_wp2_with (at_builtin; refine wpList_append_src _ rfl (.tmp 92) _ 34 34 rfl w.heap.size 9 i0 (.string ByteArray.empty) 1 16 Try.underlying34 hi hz0 hz1 hz2 rfl (by decide) _ _ _ rfl (own_drewN hown _ |>.alloc _) (.slice (some ⟨wr.heap.size, 0, none⟩) 1 1) 1 [.string g.path] rfl (src_strN wr _ _) (by unfold maxLen; omega) (by omega) (size_dA hsz _ _) ?_)
            intro v3 w3 hown3 hadv3
            have R : w3.ownsRow w.heap.size 9 1 v3 (k + 1) (strs (acc ++ [g])) := own_cast hown3 (strs_snoc acc g).symm rfl
            have A : Below w.heap.size w w3 := (below_dA hb hsz _ _).trans (hadv3.below (size_dA hsz _ _) (fun q hq => (hown.lt q hq).1))
            clear hown3 hadv3 hown
            go_wp2
            go_roundw
            case rel => first | exact ⟨i, j + 1, acc ++ [g], k + 1, by omega, by omega, by omega, by go_num, by go_num, at_gt HF'.out HG'.out c1' c2 HA.out, R, A⟩ | ((repeat apply Exists.intro); exact ⟨⟨i, j + 1, acc ++ [g], k + 1, by omega, by omega, by omega, by go_num, by go_num, at_gt HF'.out HG'.out c1' c2 HA.out, R, A⟩, rfl⟩)
            case measure => simp [intOf]; omega
          · have c2' : Op.bytesLess g.path.toList f.path.toList = false := by simpa using c2
            clear c2
            have hsame : eqF f g = fsame f g := eqF_same c1' c2'
            have hneq : ∀ w0 : World, (binOp .neq 51 (.agg (fcells f).toArray) (.agg (fcells g).toArray)).run Try.prog w0 = .ok (.bool (!(fsame f g))) w0 := fun w0 => by rw [eq51 f g fp gp fs gs w0, hsame]
            have hi51f := size51 f fs
            have hi51g := size51 g gs
            have fr' : Hid (wr.rangeAt gw (i * 34) (fcells f)) := fr
            have gr' : Hid (wr.rangeAt gn (j * 34) (fcells g)) := gr
            clear fr gr
            clear hsame
            by_cases c3 : fsame f g = true
            · rw [c3] at hneq
              go_wp2
              go_quiet (fail)
              go_wp2
              go_quiet (fail)
              go_wp2
              refine wp_region_quiet_lit (by kernel_rfl) (by kernel_rfl) ?_
              go_big_quiet_step (fail)
              go_big_quiet_step (fail)
              go_big_quiet_step (fail)
              go_big_quiet_want
              refine quiet_load_mid 51 _ rfl _ _ rfl (fcells f) _ (fun w0 h0 => by obtain ⟨n0, rfl⟩ := h0; exact fr'.out) hu51 rfl hi51f ?_
              simp only [Act.put, List.setIfInBounds_toArray, List.set_cons_zero, List.set_cons_succ]
              go_big_quiet_on
              go_big_quiet_step (fail)
              go_big_quiet_step (fail)
              go_big_quiet_step (fail)
              go_big_quiet_want
              refine quiet_load_mid 51 _ rfl _ _ rfl (fcells g) _ (fun w0 h0 => by obtain ⟨n0, rfl⟩ := h0; exact gr'.out) hu51 rfl hi51g ?_
              simp only [Act.put, List.setIfInBounds_toArray, List.set_cons_zero, List.set_cons_succ]
              go_big_quiet_on
              go_big_quiet_step (fail)
              refine wpQuiet_nil ?_
              intro _ hw'
              obtain ⟨nq3, hw''⟩ := hw'
              subst hw''
              have HA2 : Hid (At fw fn (merged (fw.length + fn.length) fw fn) (i + 1) (j + 1) acc) := by
                have := at_eq HF'.out HG'.out c1' c2' HA.out
                rw [c3, if_pos rfl, List.append_nil] at this
                exact this
              go_wp2
              go_roundw
              case rel => first | exact ⟨i + 1, j + 1, acc, k, by omega, by omega, by omega, by go_num, by go_num, HA2, own_drewN hown _, below_d hb _⟩ | ((repeat apply Exists.intro); exact ⟨⟨i + 1, j + 1, acc, k, by omega, by omega, by omega, by go_num, by go_num, HA2, own_drewN hown _, below_d hb _⟩, rfl⟩)
              case measure => simp [intOf]; omega
            · have c3' : fsame f g = false := by simpa using c3
              clear c3
              rw [c3'] at hneq
              go_wp2
              go_quiet (fail)
              go_wp2
              go_quiet (fail)
              go_wp2
              refine wp_region_quiet_lit (by kernel_rfl) (by kernel_rfl) ?_
              go_big_quiet_step (fail)
              go_big_quiet_step (fail)
              go_big_quiet_step (fail)
              go_big_quiet_want
              refine quiet_load_mid 51 _ rfl _ _ rfl (fcells f) _ (fun w0 h0 => by obtain ⟨n0, rfl⟩ := h0; exact fr'.out) hu51 rfl hi51f ?_
              simp only [Act.put, List.setIfInBounds_toArray, List.set_cons_zero, List.set_cons_succ]
              go_big_quiet_on
              go_big_quiet_step (fail)
              go_big_quiet_step (fail)
              go_big_quiet_step (fail)
              go_big_quiet_want
              refine quiet_load_mid 51 _ rfl _ _ rfl (fcells g) _ (fun w0 h0 => by obtain ⟨n0, rfl⟩ := h0; exact gr'.out) hu51 rfl hi51g ?_
              simp only [Act.put, List.setIfInBounds_toArray, List.set_cons_zero, List.set_cons_succ]
              go_big_quiet_on
              go_big_quiet_step (fail)
              refine wpQuiet_nil ?_
              intro _ hw'
              obtain ⟨nq3, hw''⟩ := hw'
              subst hw''
              have HA2 : At fw fn (merged (fw.length + fn.length) fw fn) (i + 1) (j + 1) (acc ++ [g]) := by
                have := at_eq HF'.out HG'.out c1' c2' HA.out
                rw [c3', if_neg (by simp)] at this
                exact this
              go_wp2_with (at_builtin; refine wpList_append_src _ rfl (.tmp 28) _ 34 34 rfl w.heap.size 9 i0 (.string ByteArray.empty) 1 16 Try.underlying34 hi hz0 hz1 hz2 rfl (by decide) _ _ _ rfl (own_drewN hown _ |>.alloc _) (.slice (some ⟨wr.heap.size, 0, none⟩) 1 1) 1 [.string g.path] rfl (src_strN wr _ _) (by unfold maxLen; omega) (by omega) (size_dA hsz _ _) ?_)
              intro v3 w3 hown3 hadv3
              have R : w3.ownsRow w.heap.size 9 1 v3 (k + 1) (strs (acc ++ [g])) := own_cast hown3 (strs_snoc acc g).symm rfl
              have A : Below w.heap.size w w3 := (below_dA hb hsz _ _).trans (hadv3.below (size_dA hsz _ _) (fun q hq => (hown.lt q hq).1))
              clear hown3 hadv3 hown
              go_wp2
              go_roundw
              case rel => first | exact ⟨i + 1, j + 1, acc ++ [g], k + 1, by omega, by omega, by omega, by go_num, by go_num, HA2, R, A⟩ | ((repeat apply Exists.intro); exact ⟨⟨i + 1, j + 1, acc ++ [g], k + 1, by omega, by omega, by omega, by go_num, by go_num, HA2, R, A⟩, rfl⟩)
              case measure => simp [intOf]; omega
      · -- now is at its end
        have ejm : m = j := by omega
        subst ejm
        obtain ⟨gw, dw, ew, _⟩ := own_pos HW.out (by omega)
        obtain ⟨rfl, rfl⟩ := (by simpa using ew : aw = some ⟨gw, 0, none⟩ ∧ cw = dw)
        obtain ⟨f, fr, f0, _, _, fs, fp, HF⟩ := file_at (own_below HW.out hb) OW.out LW.out i hin
        have HF' : Hid (fw[i]? = some f) := HF
        have hi0 : (0 : Int) ≤ (i : Int) := Int.natCast_nonneg _
        have hiN : (i : Int) < (n : Int) := by omega
        have dj : (((m : Nat) : Int) == ((m : Nat) : Int)) = true := by simp
        have gwl := (HW.out.lt gw rfl).2
        clear HF ew fr
        go_wp2
        go_quiet (fail)
        go_wp2_with (at_builtin; refine wpList_append_src _ rfl (.tmp 64) _ 34 34 rfl w.heap.size 9 i0 (.string ByteArray.empty) 1 16 Try.underlying34 hi hz0 hz1 hz2 rfl (by decide) _ _ _ rfl (own_drewN hown _ |>.alloc _) (.slice (some ⟨wr.heap.size, 0, none⟩) 1 1) 1 [.string f.path] rfl (src_strN wr _ _) (by unfold maxLen; omega) (by omega) (size_dA hsz _ _) ?_)
        intro v3 w3 hown3 hadv3
        have R : w3.ownsRow w.heap.size 9 1 v3 (k + 1) (strs (acc ++ [f])) := own_cast hown3 (strs_snoc acc f).symm rfl
        have A : Below w.heap.size w w3 := (below_dA hb hsz _ _).trans (hadv3.below (size_dA hsz _ _) (fun q hq => (hown.lt q hq).1))
        clear hown3 hadv3 hown
        go_wp2
        go_roundw
        case rel => first | exact ⟨i + 1, m, acc ++ [f], k + 1, by omega, by omega, by omega, by go_num, by go_num, at_a0m LN.out HF'.out HA.out, R, A⟩ | ((repeat apply Exists.intro); exact ⟨⟨i + 1, m, acc ++ [f], k + 1, by omega, by omega, by omega, by go_num, by go_num, at_a0m LN.out HF'.out HA.out, R, A⟩, rfl⟩)
        case measure => simp [intOf]; omega
    · have ein : n = i := by omega
      subst ein
      have di : (((n : Nat) : Int) == ((n : Nat) : Int)) = true := by simp
      by_cases hjm : j < m
      · obtain ⟨gn, dn, en, _⟩ := own_pos HN.out (by omega)
        obtain ⟨rfl, rfl⟩ := (by simpa using en : an = some ⟨gn, 0, none⟩ ∧ cn = dn)
        obtain ⟨g, gr, g0, _, _, gs, gp, HG⟩ := file_at (own_below HN.out hb) ON.out LN.out j hjm
        have HG' : Hid (fn[j]? = some g) := HG
        have hj0 : (0 : Int) ≤ (j : Int) := Int.natCast_nonneg _
        have hjM : (j : Int) < (m : Int) := by omega
        have dj : (((j : Nat) : Int) == ((m : Nat) : Int)) = false := by simp; omega
        have gnl := (HN.out.lt gn rfl).2
        clear HG en gr
        go_wp2
        go_quiet (fail)
        go_wp2
        go_quiet (fail)
        go_wp2_with (at_builtin; refine wpList_append_src _ rfl (.tmp 92) _ 34 34 rfl w.heap.size 9 i0 (.string ByteArray.empty) 1 16 Try.underlying34 hi hz0 hz1 hz2 rfl (by decide) _ _ _ rfl (own_drewN hown _ |>.alloc _) (.slice (some ⟨wr.heap.size, 0, none⟩) 1 1) 1 [.string g.path] rfl (src_strN wr _ _) (by unfold maxLen; omega) (by omega) (size_dA hsz _ _) ?_)
        intro v3 w3 hown3 hadv3
        have R : w3.ownsRow w.heap.size 9 1 v3 (k + 1) (strs (acc ++ [g])) := own_cast hown3 (strs_snoc acc g).symm rfl
        have A : Below w.heap.size w w3 := (below_dA hb hsz _ _).trans (hadv3.below (size_dA hsz _ _) (fun q hq => (hown.lt q hq).1))
        clear hown3 hadv3 hown
        go_wp2
        go_roundw
        case rel => first | exact ⟨n, j + 1, acc ++ [g], k + 1, by omega, by omega, by omega, by go_num, by go_num, at_0bm LW.out HG'.out HA.out, R, A⟩ | ((repeat apply Exists.intro); exact ⟨⟨n, j + 1, acc ++ [g], k + 1, by omega, by omega, by omega, by go_num, by go_num, at_0bm LW.out HG'.out HA.out, R, A⟩, rfl⟩)
        case measure => simp [intOf]; omega
      · have ejm : m = j := by omega
        subst ejm
        have E : acc = merged (fw.length + fn.length) fw fn := at_endm LW.out LN.out HA.out
        have R : wr.ownsRow w.heap.size 9 1 _ k (strs (merged (fw.length + fn.length) fw fn)) := E ▸ hown
        clear E HA hown
        go_wp2
        go_ret
        exact ⟨_, k, rfl, R, hb⟩
end Go.Proofs.Qxb6001683a
