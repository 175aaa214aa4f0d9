/-
  Shallow forms of the walked functions, and that each call comes to its form. Written by a program of this repo (gen.py). Conditions: none.
-/
import Derived.Test.YtlihjljdndbpdaaST
namespace Go.Proofs.Ytlihjljdndbpdaa
open Go.Hp
set_option maxRecDepth 100000
set_option maxHeartbeats 8000000
set_option linter.unusedVariables false
set_option linter.unusedSimpArgs false

/-! ### impl.MSet -/
def i_MSet.j1 (s6 : Value) (s7 : Value) (h : Heap) (Q : Value → Heap → Prop) : Prop :=
    i_entries.call #[s6] h fun t40 h =>
    Q (.tuple #[s7, t40]) h
def i_MSet.j4 (s6 : Value) (s7 : Value) (s14 : Value) (s15 : Value) (s16 : Value) (h : Heap) (K1 : List Value → Heap → Prop) (Q : Value → Heap → Prop) : Prop :=
    arith (· + ·) s16 (.int .i64 1) fun t37 =>
    K1 [s7, t37] h
def i_MSet.j3 (s6 : Value) (s7 : Value) (s14 : Value) (s15 : Value) (s16 : Value) (h : Heap) (K1 : List Value → Heap → Prop) (Q : Value → Heap → Prop) : Prop :=
    idx 2 s14 s16 fun t18 =>
    loadN 2 t18 h fun t19 =>
    alloc [(.int .i64 0), (.int .i64 0)] 27 h fun t9 h =>
    storeN 2 t9 t19 h fun h =>
    fld 0 t9 fun t22 =>
    load1 t22 h fun t23 =>
    fld 1 t9 fun t24 =>
    load1 t24 h fun t25 =>
    Map_ii_Set.call #[s6, t23, t25] h fun t26 h =>
    extr 0 t26 fun t27 =>
    extr 1 t26 fun t28 =>
    fld 0 t9 fun t30 =>
    load1 t30 h fun t31 =>
    i_pair.call #[t31, t27, t28] h fun t34 h =>
    mkSl (if 1 * 3 = 0 then [] else zeros [(.int .i64 0), (.int .i64 0), (.bool false)] 1) 1 [(0 * 3, 3, t34)] 32 h fun t35 h =>
    app 32 3 24 [(.int .i64 0), (.int .i64 0), (.bool false)] s7 t35 h fun t36 h =>
    i_MSet.j4 s6 t36 s14 s15 s16 h K1 Q
def i_MSet.l2.b (c6 : Value) (c14 : Value) (c15 : Value) (s7 : Value) (s16 : Value) (h : Heap) (K1 : List Value → Heap → Prop) (Q : Value → Heap → Prop) : Prop :=
    cmpI (fun a b => decide (a < b)) s16 c15 fun t17 =>
    ifV t17
    (i_MSet.j3 c6 s7 c14 c15 s16 h K1 Q)
    (i_MSet.j1 c6 s7 h Q)
def i_MSet.sh (a0 : Value) (a1 : Value) (h : Heap) (Q : Value → Heap → Prop) : Prop :=
    i_growMap.call #[a0, (.slice none 0 0)] h fun t13 h =>
    lenV a1 fun t15 =>
    loopC (fun c s h K1 => i_MSet.l2.b (c.getD 0 undef) (c.getD 1 undef) (c.getD 2 undef) (s.getD 0 undef) (s.getD 1 undef) h K1 Q) [t13, a1, t15] [(.slice none 0 0), (.int .i64 0)] h
theorem i_MSet.body (a0 : Value) (a1 : Value) (h : Heap) (Q : Value → Heap → Prop) (H : i_MSet.sh a0 a1 h Q) : i_MSet.call #[a0, a1] h Q := by
  refine callsH_of (args := [a0, a1]) Try.func37 rfl rfl ?_
  unfold i_MSet.sh at H
  refine WPc_seq' ?_
  refine W_region (by kernel_rfl) ?_
  refine vl_n ?_
  refine H_of_R (R_assign (v := (.slice none 0 0)) rfl ?_)
  refine vl_n ?_
  refine H_of_R (R_assign (v := (.slice none 0 0)) rfl ?_)
  refine vl_e ?_
  refine WPc_seq' ?_
  refine W_region (by kernel_rfl) ?_
  refine vl_n ?_
  refine H_of_R (R_move (v := a0) rfl ?_)
  refine vl_n ?_
  refine H_call HB_76 H fun t13 h H => ?_
  refine vl_n ?_
  refine H_of_R (R_assign (v := t13) rfl ?_)
  refine vl_e ?_
  refine WPc_seq' ?_
  refine W_region (by kernel_rfl) ?_
  refine vl_n ?_
  refine H_of_R (R_assign (v := (.slice none 0 0)) rfl ?_)
  refine vl_e ?_
  refine WPc_seq (fun e h => i_MSet.j1 (e 6) (e 7) h Q) ?_ (fun e h H => ?_)
  rotate_left
  · unfold i_MSet.j1 at H
    refine WPc_seq' ?_
    refine W_region (by kernel_rfl) ?_
    refine vl_n ?_
    refine H_of_R (R_move (v := (e 7)) rfl ?_)
    refine vl_n ?_
    refine H_of_R (R_move (v := (e 6)) rfl ?_)
    refine vl_n ?_
    refine H_call HB_92 H fun t40 h H => ?_
    refine vl_n ?_
    refine H_of_R (R_assign (v := (e 7)) rfl ?_)
    refine vl_n ?_
    refine H_of_R (R_assign (v := t40) rfl ?_)
    refine vl_e ?_
    refine WPc_ret ?_
    refine resH_of rfl ?_
    exact H
  refine WPc_seq' ?_
  refine W_region (by kernel_rfl) ?_
  refine vl_n ?_
  refine H_of_R (R_move (v := a1) rfl ?_)
  refine vl_n ?_
  refine H_of_R (R_len Try.underlying22 H fun t15 H => ?_)
  refine vl_n ?_
  refine H_of_R (R_move (v := (.int .i64 0)) rfl ?_)
  refine vl_e ?_
  refine WPc_block ?_
  refine loop_at (fun e => [e 7, e 16]) (fun e => [e 6, e 14, e 15]) H rfl rfl ?_
  intro K1 e1 h H hin1
  replace H : i_MSet.l2.b (e1 6) (e1 14) (e1 15) (e1 7) (e1 16) h K1 Q := H
  unfold i_MSet.l2.b at H
  clear hin1
  refine WPc_seq' ?_
  refine W_region (by kernel_rfl) ?_
  refine vl_n ?_
  refine H_of_R (R_lss H fun t17 H => ?_)
  refine vl_e ?_
  refine WPc_seq (fun e h => i_MSet.j3 (e 6) (e 7) (e 14) (e 15) (e 16) h K1 Q ∧ [e1 6, e1 14, e1 15] = [e 6, e 14, e 15]) ?_ (fun e h ⟨H, hq1⟩ => ?_)
  rotate_left
  · unfold i_MSet.j3 at H
    refine WPc_seq (fun e h => i_MSet.j4 (e 6) (e 7) (e 14) (e 15) (e 16) h K1 Q ∧ [e1 6, e1 14, e1 15] = [e 6, e 14, e 15]) ?_ (fun e h ⟨H, hq1⟩ => ?_)
    rotate_left
    · unfold i_MSet.j4 at H
      refine W_region (by kernel_rfl) ?_
      refine vl_n ?_
      refine H_of_R (R_add H fun t37 H => ?_)
      refine vl_n ?_
      refine H_of_R (R_move (v := t37) rfl ?_)
      refine vl_e ?_
      exact ⟨H, hq1⟩
    refine WPc_block ?_
    refine WPc_seq' ?_
    refine W_region (by kernel_rfl) ?_
    refine vl_n ?_
    refine H_of_R (R_idx TE_22 H fun t18 H => ?_)
    refine vl_n ?_
    refine H_of_R (R_loadN TN_27 H fun _ t19 _ _ H _ _ => ?_)
    refine vl_n ?_
    refine H_alloc TV_27 H fun t9 h H => ?_
    refine vl_n ?_
    refine H_storeN TS_27 H fun h H => ?_
    refine vl_e ?_
    refine WPc_seq' ?_
    refine W_region (by kernel_rfl) ?_
    refine vl_n ?_
    refine H_of_R (R_move (v := (e 6)) rfl ?_)
    refine vl_n ?_
    refine H_of_R (R_fld TF_27_0 H fun t22 H => ?_)
    refine vl_n ?_
    refine H_of_R (R_load1 T1_3 H fun _ t23 _ _ H => ?_)
    refine vl_n ?_
    refine H_of_R (R_fld TF_27_1 H fun t24 H => ?_)
    refine vl_n ?_
    refine H_of_R (R_load1 T1_3 H fun _ t25 _ _ H => ?_)
    refine vl_n ?_
    refine H_call HB_59 H fun t26 h H => ?_
    refine vl_n ?_
    refine H_of_R (R_move (v := t26) rfl ?_)
    refine vl_n ?_
    refine H_of_R (R_ext H fun t27 H => ?_)
    refine vl_n ?_
    refine H_of_R (R_ext H fun t28 H => ?_)
    refine vl_n ?_
    refine H_of_R (R_assign (v := t27) rfl ?_)
    refine vl_n ?_
    refine H_of_R (R_assign (v := t28) rfl ?_)
    refine vl_e ?_
    refine W_region (by kernel_rfl) ?_
    refine vl_n ?_
    refine H_of_R (R_move (v := (e 7)) rfl ?_)
    refine vl_n ?_
    refine H_of_R (R_fld TF_27_0 H fun t30 H => ?_)
    refine vl_n ?_
    refine H_of_R (R_load1 T1_3 H fun _ t31 _ _ H => ?_)
    refine vl_n ?_
    refine H_of_R (R_move (v := t27) rfl ?_)
    refine vl_n ?_
    refine H_of_R (R_move (v := t28) rfl ?_)
    refine vl_n ?_
    refine H_call HB_60 H fun t34 h H => ?_
    refine vl_n ?_
    refine H_mkSl TZ_66 (by decide) rfl H rfl fun t35 h H => ?_
    refine vl_n ?_
    refine H_app TZ_66 TU_66 H fun t36 h H => ?_
    refine vl_n ?_
    refine H_of_R (R_assign (v := t36) rfl ?_)
    refine vl_e ?_
    exact ⟨H, hq1⟩
  obtain ⟨b, hc, H1, H2⟩ := H
  refine WPc_cond hc (fun hh => ?_) (fun hh => ?_)
  · have H := H1 hh; clear H1 H2
    refine WPc_skip ?_
    exact ⟨H, rfl⟩
  · have H := H2 hh; clear H1 H2
    refine WPc_exit ?_
    exact H
/-! ### (*pub/tidwallbtree.Map[int, int]).get -/
def Map_ii_get.j4 (s0 : Value) (s1 : Value) (s2 : Value) (s8 : Value) (s9 : Value) (h : Heap) (K1 : List Value → Heap → Prop) (Q : Value → Heap → Prop) : Prop :=
    nilck s8 fun t52 =>
    fld 3 t52 fun t53 =>
    load1 t53 h fun t54 =>
    nilck t54 fun t55 =>
    load1 t55 h fun t56 =>
    idx 1 t56 s9 fun t58 =>
    Map_ii_isoLoad.call #[s0, t58, s2] h fun t60 h =>
    K1 [t60] h
def Map_ii_get.j3 (s0 : Value) (s1 : Value) (s2 : Value) (s8 : Value) (s9 : Value) (h : Heap) (K1 : List Value → Heap → Prop) (Q : Value → Heap → Prop) : Prop :=
    mapNode_ii_leaf.call #[s8] h fun t44 h =>
    ifV t44
    (nilck s0 fun t46 =>
    fld 4 t46 fun t47 =>
    fld 0 t47 fun t48 =>
    load1 t48 h fun t49 =>
    Q (.tuple #[t49, (.bool false)]) h)
    (Map_ii_get.j4 s0 s1 s2 s8 s9 h K1 Q)
def Map_ii_get.l2.b (c0 : Value) (c1 : Value) (c2 : Value) (s8 : Value) (h : Heap) (K1 : List Value → Heap → Prop) (Q : Value → Heap → Prop) : Prop :=
    Map_ii_search.call #[c0, s8, c1] h fun t31 h =>
    extr 0 t31 fun t32 =>
    extr 1 t31 fun t33 =>
    ifV t33
    (nilck s8 fun t36 =>
    fld 2 t36 fun t37 =>
    load1 t37 h fun t38 =>
    idx 2 t38 t32 fun t40 =>
    fld 0 t40 fun t41 =>
    load1 t41 h fun t42 =>
    Q (.tuple #[t42, (.bool true)]) h)
    (Map_ii_get.j3 c0 c1 c2 s8 t32 h K1 Q)
def Map_ii_get.j1 (s0 : Value) (s1 : Value) (s2 : Value) (h : Heap) (Q : Value → Heap → Prop) : Prop :=
    nilck s0 fun t23 =>
    fld 2 t23 fun t24 =>
    Map_ii_isoLoad.call #[s0, t24, s2] h fun t26 h =>
    loopC (fun c s h K1 => Map_ii_get.l2.b (c.getD 0 undef) (c.getD 1 undef) (c.getD 2 undef) (s.getD 0 undef) h K1 Q) [s0, s1, s2] [t26] h
def Map_ii_get.sh (a0 : Value) (a1 : Value) (a2 : Value) (h : Heap) (Q : Value → Heap → Prop) : Prop :=
    nilck a0 fun t12 =>
    fld 2 t12 fun t13 =>
    load1 t13 h fun t14 =>
    eqNilP t14 fun t15 =>
    ifV t15
    (nilck a0 fun t17 =>
    fld 4 t17 fun t18 =>
    fld 0 t18 fun t19 =>
    load1 t19 h fun t20 =>
    Q (.tuple #[t20, (.bool false)]) h)
    (Map_ii_get.j1 a0 a1 a2 h Q)
theorem Map_ii_get.body (a0 : Value) (a1 : Value) (a2 : Value) (h : Heap) (Q : Value → Heap → Prop) (H : Map_ii_get.sh a0 a1 a2 h Q) : Map_ii_get.call #[a0, a1, a2] h Q := by
  refine callsH_of (args := [a0, a1, a2]) Try.func143 rfl rfl ?_
  unfold Map_ii_get.sh at H
  refine WPc_seq' ?_
  refine W_region (by kernel_rfl) ?_
  refine vl_n ?_
  refine H_of_R (R_assign (v := (.int .i64 0)) rfl ?_)
  refine vl_n ?_
  refine H_of_R (R_assign (v := (.bool false)) rfl ?_)
  refine vl_e ?_
  refine WPc_seq (fun e h => Map_ii_get.j1 (e 0) (e 1) (e 2) h Q) ?_ (fun e h H => ?_)
  rotate_left
  · unfold Map_ii_get.j1 at H
    refine WPc_seq' ?_
    refine W_region (by kernel_rfl) ?_
    refine vl_n ?_
    refine H_of_R (R_move (v := (e 0)) rfl ?_)
    refine vl_n ?_
    refine H_of_R (R_move (v := (e 0)) rfl ?_)
    refine vl_n ?_
    refine H_of_R (R_nil H fun t23 H => ?_)
    refine vl_n ?_
    refine H_of_R (R_fld TF_182_2 H fun t24 H => ?_)
    refine vl_n ?_
    refine H_of_R (R_move (v := (e 2)) rfl ?_)
    refine vl_n ?_
    refine H_call HB_125 H fun t26 h H => ?_
    refine vl_n ?_
    refine H_of_R (R_assign (v := t26) rfl ?_)
    refine vl_e ?_
    refine WPc_block ?_
    refine loop_at (fun e => [e 8]) (fun e => [e 0, e 1, e 2]) H rfl rfl ?_
    intro K1 e1 h H hin1
    replace H : Map_ii_get.l2.b (e1 0) (e1 1) (e1 2) (e1 8) h K1 Q := H
    unfold Map_ii_get.l2.b at H
    clear hin1
    refine WPc_block ?_
    refine WPc_seq' ?_
    refine W_region (by kernel_rfl) ?_
    refine vl_n ?_
    refine H_of_R (R_move (v := (e1 0)) rfl ?_)
    refine vl_n ?_
    refine H_of_R (R_move (v := (e1 8)) rfl ?_)
    refine vl_n ?_
    refine H_of_R (R_move (v := (e1 1)) rfl ?_)
    refine vl_n ?_
    refine H_call HB_156 H fun t31 h H => ?_
    refine vl_n ?_
    refine H_of_R (R_move (v := t31) rfl ?_)
    refine vl_n ?_
    refine H_of_R (R_ext H fun t32 H => ?_)
    refine vl_n ?_
    refine H_of_R (R_ext H fun t33 H => ?_)
    refine vl_n ?_
    refine H_of_R (R_assign (v := t32) rfl ?_)
    refine vl_n ?_
    refine H_of_R (R_assign (v := t33) rfl ?_)
    refine vl_e ?_
    refine WPc_seq (fun e h => Map_ii_get.j3 (e 0) (e 1) (e 2) (e 8) (e 9) h K1 Q ∧ [e1 0, e1 1, e1 2] = [e 0, e 1, e 2]) ?_ (fun e h ⟨H, hq1⟩ => ?_)
    rotate_left
    · unfold Map_ii_get.j3 at H
      refine WPc_seq (fun e h => Map_ii_get.j4 (e 0) (e 1) (e 2) (e 8) (e 9) h K1 Q ∧ [e1 0, e1 1, e1 2] = [e 0, e 1, e 2]) ?_ (fun e h ⟨H, hq1⟩ => ?_)
      rotate_left
      · unfold Map_ii_get.j4 at H
        refine W_region (by kernel_rfl) ?_
        refine vl_n ?_
        refine H_of_R (R_move (v := (e 0)) rfl ?_)
        refine vl_n ?_
        refine H_of_R (R_move (v := (e 8)) rfl ?_)
        refine vl_n ?_
        refine H_of_R (R_nil H fun t52 H => ?_)
        refine vl_n ?_
        refine H_of_R (R_fld TF_188_3 H fun t53 H => ?_)
        refine vl_n ?_
        refine H_of_R (R_load1 T1_186 H fun _ t54 _ _ H => ?_)
        refine vl_n ?_
        refine H_of_R (R_nil H fun t55 H => ?_)
        refine vl_n ?_
        refine H_of_R (R_load1 T1_194 H fun _ t56 _ _ H => ?_)
        refine vl_n ?_
        refine H_of_R (R_move (v := (e 9)) rfl ?_)
        refine vl_n ?_
        refine H_of_R (R_idx TE_194 H fun t58 H => ?_)
        refine vl_n ?_
        refine H_of_R (R_move (v := (e 2)) rfl ?_)
        refine vl_n ?_
        refine H_call HB_125 H fun t60 h H => ?_
        refine vl_n ?_
        refine H_of_R (R_assign (v := t60) rfl ?_)
        refine vl_e ?_
        exact ⟨H, hq1⟩
      refine WPc_seq' ?_
      refine W_region (by kernel_rfl) ?_
      refine vl_n ?_
      refine H_of_R (R_move (v := (e 8)) rfl ?_)
      refine vl_n ?_
      refine H_call HB_126 H fun t44 h H => ?_
      refine vl_e ?_
      obtain ⟨b, hc, H1, H2⟩ := H
      refine WPc_cond hc (fun hh => ?_) (fun hh => ?_)
      · have H := H1 hh; clear H1 H2
        refine WPc_seq' ?_
        refine W_region (by kernel_rfl) ?_
        refine vl_n ?_
        refine H_of_R (R_move (v := (e 0)) rfl ?_)
        refine vl_n ?_
        refine H_of_R (R_nil H fun t46 H => ?_)
        refine vl_n ?_
        refine H_of_R (R_fld TF_182_4 H fun t47 H => ?_)
        refine vl_n ?_
        refine H_of_R (R_fld TF_178_0 H fun t48 H => ?_)
        refine vl_n ?_
        refine H_of_R (R_load1 T1_3 H fun _ t49 _ _ H => ?_)
        refine vl_n ?_
        refine H_of_R (R_assign (v := t49) rfl ?_)
        refine vl_n ?_
        refine H_of_R (R_assign (v := (.bool false)) rfl ?_)
        refine vl_e ?_
        refine WPc_ret ?_
        refine resH_of rfl ?_
        exact H
      · have H := H2 hh; clear H1 H2
        refine WPc_skip ?_
        exact ⟨H, hq1⟩
    refine WPc_seq' ?_
    refine W_region (by kernel_rfl) ?_
    refine vl_n ?_
    refine H_of_R (R_move (v := t33) rfl ?_)
    refine vl_e ?_
    obtain ⟨b, hc, H1, H2⟩ := H
    refine WPc_cond hc (fun hh => ?_) (fun hh => ?_)
    · have H := H1 hh; clear H1 H2
      refine WPc_seq' ?_
      refine W_region (by kernel_rfl) ?_
      refine vl_n ?_
      refine H_of_R (R_move (v := (e1 8)) rfl ?_)
      refine vl_n ?_
      refine H_of_R (R_nil H fun t36 H => ?_)
      refine vl_n ?_
      refine H_of_R (R_fld TF_188_2 H fun t37 H => ?_)
      refine vl_n ?_
      refine H_of_R (R_load1 T1_185 H fun _ t38 _ _ H => ?_)
      refine vl_n ?_
      refine H_of_R (R_move (v := t32) rfl ?_)
      refine vl_n ?_
      refine H_of_R (R_idx TE_185 H fun t40 H => ?_)
      refine vl_n ?_
      refine H_of_R (R_fld TF_178_0 H fun t41 H => ?_)
      refine vl_n ?_
      refine H_of_R (R_load1 T1_3 H fun _ t42 _ _ H => ?_)
      refine vl_n ?_
      refine H_of_R (R_assign (v := t42) rfl ?_)
      refine vl_n ?_
      refine H_of_R (R_assign (v := (.bool true)) rfl ?_)
      refine vl_e ?_
      refine WPc_ret ?_
      refine resH_of rfl ?_
      exact H
    · have H := H2 hh; clear H1 H2
      refine WPc_skip ?_
      exact ⟨H, rfl⟩
  refine WPc_seq' ?_
  refine W_region (by kernel_rfl) ?_
  refine vl_n ?_
  refine H_of_R (R_move (v := a0) rfl ?_)
  refine vl_n ?_
  refine H_of_R (R_nil H fun t12 H => ?_)
  refine vl_n ?_
  refine H_of_R (R_fld TF_182_2 H fun t13 H => ?_)
  refine vl_n ?_
  refine H_of_R (R_load1 T1_173 H fun _ t14 _ _ H => ?_)
  refine vl_n ?_
  refine H_of_R (R_eqNilP Try.underlying173 rfl H fun t15 H => ?_)
  refine vl_e ?_
  obtain ⟨b, hc, H1, H2⟩ := H
  refine WPc_cond hc (fun hh => ?_) (fun hh => ?_)
  · have H := H1 hh; clear H1 H2
    refine WPc_seq' ?_
    refine W_region (by kernel_rfl) ?_
    refine vl_n ?_
    refine H_of_R (R_move (v := a0) rfl ?_)
    refine vl_n ?_
    refine H_of_R (R_nil H fun t17 H => ?_)
    refine vl_n ?_
    refine H_of_R (R_fld TF_182_4 H fun t18 H => ?_)
    refine vl_n ?_
    refine H_of_R (R_fld TF_178_0 H fun t19 H => ?_)
    refine vl_n ?_
    refine H_of_R (R_load1 T1_3 H fun _ t20 _ _ H => ?_)
    refine vl_n ?_
    refine H_of_R (R_assign (v := t20) rfl ?_)
    refine vl_n ?_
    refine H_of_R (R_assign (v := (.bool false)) rfl ?_)
    refine vl_e ?_
    refine WPc_ret ?_
    refine resH_of rfl ?_
    exact H
  · have H := H2 hh; clear H1 H2
    refine WPc_skip ?_
    exact H
/-! ### (*pub/tidwallbtree.Map[int, int]).Get -/
def Map_ii_Get.sh (a0 : Value) (a1 : Value) (h : Heap) (Q : Value → Heap → Prop) : Prop :=
    Map_ii_get.call #[a0, a1, (.bool false)] h fun t8 h =>
    extr 0 t8 fun t9 =>
    extr 1 t8 fun t10 =>
    Q (.tuple #[t9, t10]) h
theorem Map_ii_Get.body (a0 : Value) (a1 : Value) (h : Heap) (Q : Value → Heap → Prop) (H : Map_ii_Get.sh a0 a1 h Q) : Map_ii_Get.call #[a0, a1] h Q := by
  refine callsH_of (args := [a0, a1]) Try.func94 rfl rfl ?_
  unfold Map_ii_Get.sh at H
  refine WPc_seq' ?_
  refine W_region (by kernel_rfl) ?_
  refine vl_n ?_
  refine H_of_R (R_assign (v := (.int .i64 0)) rfl ?_)
  refine vl_n ?_
  refine H_of_R (R_assign (v := (.bool false)) rfl ?_)
  refine vl_e ?_
  refine WPc_seq' ?_
  refine W_region (by kernel_rfl) ?_
  refine vl_n ?_
  refine H_of_R (R_move (v := a0) rfl ?_)
  refine vl_n ?_
  refine H_of_R (R_move (v := a1) rfl ?_)
  refine vl_n ?_
  refine H_call HB_143 H fun t8 h H => ?_
  refine vl_n ?_
  refine H_of_R (R_ext H fun t9 H => ?_)
  refine vl_n ?_
  refine H_of_R (R_ext H fun t10 H => ?_)
  refine vl_n ?_
  refine H_of_R (R_assign (v := t9) rfl ?_)
  refine vl_n ?_
  refine H_of_R (R_assign (v := t10) rfl ?_)
  refine vl_e ?_
  refine WPc_ret ?_
  refine resH_of rfl ?_
  exact H
/-! ### impl.MGet -/
def i_MGet.j1 (s8 : Value) (h : Heap) (Q : Value → Heap → Prop) : Prop :=
    Q s8 h
def i_MGet.j4 (s7 : Value) (s8 : Value) (s16 : Value) (s17 : Value) (s18 : Value) (h : Heap) (K1 : List Value → Heap → Prop) (Q : Value → Heap → Prop) : Prop :=
    arith (· + ·) s18 (.int .i64 1) fun t35 =>
    K1 [s8, t35] h
def i_MGet.j3 (s7 : Value) (s8 : Value) (s16 : Value) (s17 : Value) (s18 : Value) (h : Heap) (K1 : List Value → Heap → Prop) (Q : Value → Heap → Prop) : Prop :=
    idx 1 s16 s18 fun t20 =>
    load1 t20 h fun t21 =>
    Map_ii_Get.call #[s7, t21] h fun t25 h =>
    extr 0 t25 fun t26 =>
    extr 1 t25 fun t27 =>
    i_pair.call #[t21, t26, t27] h fun t32 h =>
    mkSl (if 1 * 3 = 0 then [] else zeros [(.int .i64 0), (.int .i64 0), (.bool false)] 1) 1 [(0 * 3, 3, t32)] 32 h fun t33 h =>
    app 32 3 24 [(.int .i64 0), (.int .i64 0), (.bool false)] s8 t33 h fun t34 h =>
    i_MGet.j4 s7 t34 s16 s17 s18 h K1 Q
def i_MGet.l2.b (c7 : Value) (c16 : Value) (c17 : Value) (s8 : Value) (s18 : Value) (h : Heap) (K1 : List Value → Heap → Prop) (Q : Value → Heap → Prop) : Prop :=
    cmpI (fun a b => decide (a < b)) s18 c17 fun t19 =>
    ifV t19
    (i_MGet.j3 c7 s8 c16 c17 s18 h K1 Q)
    (i_MGet.j1 s8 h Q)
def i_MGet.sh (a0 : Value) (a1 : Value) (a2 : Value) (h : Heap) (Q : Value → Heap → Prop) : Prop :=
    i_growMap.call #[a0, a1] h fun t15 h =>
    lenV a2 fun t17 =>
    loopC (fun c s h K1 => i_MGet.l2.b (c.getD 0 undef) (c.getD 1 undef) (c.getD 2 undef) (s.getD 0 undef) (s.getD 1 undef) h K1 Q) [t15, a2, t17] [(.slice none 0 0), (.int .i64 0)] h
theorem i_MGet.body (a0 : Value) (a1 : Value) (a2 : Value) (h : Heap) (Q : Value → Heap → Prop) (H : i_MGet.sh a0 a1 a2 h Q) : i_MGet.call #[a0, a1, a2] h Q := by
  refine callsH_of (args := [a0, a1, a2]) Try.func43 rfl rfl ?_
  unfold i_MGet.sh at H
  refine WPc_seq' ?_
  refine W_region (by kernel_rfl) ?_
  refine vl_n ?_
  refine H_of_R (R_assign (v := (.slice none 0 0)) rfl ?_)
  refine vl_e ?_
  refine WPc_seq' ?_
  refine W_region (by kernel_rfl) ?_
  refine vl_n ?_
  refine H_of_R (R_move (v := a0) rfl ?_)
  refine vl_n ?_
  refine H_of_R (R_move (v := a1) rfl ?_)
  refine vl_n ?_
  refine H_call HB_76 H fun t15 h H => ?_
  refine vl_n ?_
  refine H_of_R (R_assign (v := t15) rfl ?_)
  refine vl_e ?_
  refine WPc_seq' ?_
  refine W_region (by kernel_rfl) ?_
  refine vl_n ?_
  refine H_of_R (R_assign (v := (.slice none 0 0)) rfl ?_)
  refine vl_e ?_
  refine WPc_seq (fun e h => i_MGet.j1 (e 8) h Q) ?_ (fun e h H => ?_)
  rotate_left
  · unfold i_MGet.j1 at H
    refine WPc_seq' ?_
    refine W_region (by kernel_rfl) ?_
    refine vl_n ?_
    refine H_of_R (R_move (v := (e 8)) rfl ?_)
    refine vl_n ?_
    refine H_of_R (R_assign (v := (e 8)) rfl ?_)
    refine vl_e ?_
    refine WPc_ret ?_
    refine resH_of rfl ?_
    exact H
  refine WPc_seq' ?_
  refine W_region (by kernel_rfl) ?_
  refine vl_n ?_
  refine H_of_R (R_move (v := a2) rfl ?_)
  refine vl_n ?_
  refine H_of_R (R_len Try.underlying37 H fun t17 H => ?_)
  refine vl_n ?_
  refine H_of_R (R_move (v := (.int .i64 0)) rfl ?_)
  refine vl_e ?_
  refine WPc_block ?_
  refine loop_at (fun e => [e 8, e 18]) (fun e => [e 7, e 16, e 17]) H rfl rfl ?_
  intro K1 e1 h H hin1
  replace H : i_MGet.l2.b (e1 7) (e1 16) (e1 17) (e1 8) (e1 18) h K1 Q := H
  unfold i_MGet.l2.b at H
  clear hin1
  refine WPc_seq' ?_
  refine W_region (by kernel_rfl) ?_
  refine vl_n ?_
  refine H_of_R (R_lss H fun t19 H => ?_)
  refine vl_e ?_
  refine WPc_seq (fun e h => i_MGet.j3 (e 7) (e 8) (e 16) (e 17) (e 18) h K1 Q ∧ [e1 7, e1 16, e1 17] = [e 7, e 16, e 17]) ?_ (fun e h ⟨H, hq1⟩ => ?_)
  rotate_left
  · unfold i_MGet.j3 at H
    refine WPc_seq (fun e h => i_MGet.j4 (e 7) (e 8) (e 16) (e 17) (e 18) h K1 Q ∧ [e1 7, e1 16, e1 17] = [e 7, e 16, e 17]) ?_ (fun e h ⟨H, hq1⟩ => ?_)
    rotate_left
    · unfold i_MGet.j4 at H
      refine W_region (by kernel_rfl) ?_
      refine vl_n ?_
      refine H_of_R (R_add H fun t35 H => ?_)
      refine vl_n ?_
      refine H_of_R (R_move (v := t35) rfl ?_)
      refine vl_e ?_
      exact ⟨H, hq1⟩
    refine WPc_block ?_
    refine WPc_seq' ?_
    refine W_region (by kernel_rfl) ?_
    refine vl_n ?_
    refine H_of_R (R_idx TE_37 H fun t20 H => ?_)
    refine vl_n ?_
    refine H_of_R (R_load1 T1_3 H fun _ t21 _ _ H => ?_)
    refine vl_n ?_
    refine H_of_R (R_assign (v := t21) rfl ?_)
    refine vl_e ?_
    refine WPc_seq' ?_
    refine W_region (by kernel_rfl) ?_
    refine vl_n ?_
    refine H_of_R (R_move (v := (e 7)) rfl ?_)
    refine vl_n ?_
    refine H_of_R (R_move (v := t21) rfl ?_)
    refine vl_n ?_
    refine H_call HB_94 H fun t25 h H => ?_
    refine vl_n ?_
    refine H_of_R (R_move (v := t25) rfl ?_)
    refine vl_n ?_
    refine H_of_R (R_ext H fun t26 H => ?_)
    refine vl_n ?_
    refine H_of_R (R_ext H fun t27 H => ?_)
    refine vl_n ?_
    refine H_of_R (R_assign (v := t26) rfl ?_)
    refine vl_n ?_
    refine H_of_R (R_assign (v := t27) rfl ?_)
    refine vl_e ?_
    refine W_region (by kernel_rfl) ?_
    refine vl_n ?_
    refine H_of_R (R_move (v := (e 8)) rfl ?_)
    refine vl_n ?_
    refine H_of_R (R_move (v := t21) rfl ?_)
    refine vl_n ?_
    refine H_of_R (R_move (v := t26) rfl ?_)
    refine vl_n ?_
    refine H_of_R (R_move (v := t27) rfl ?_)
    refine vl_n ?_
    refine H_call HB_60 H fun t32 h H => ?_
    refine vl_n ?_
    refine H_mkSl TZ_66 (by decide) rfl H rfl fun t33 h H => ?_
    refine vl_n ?_
    refine H_app TZ_66 TU_66 H fun t34 h H => ?_
    refine vl_n ?_
    refine H_of_R (R_assign (v := t34) rfl ?_)
    refine vl_e ?_
    exact ⟨H, hq1⟩
  obtain ⟨b, hc, H1, H2⟩ := H
  refine WPc_cond hc (fun hh => ?_) (fun hh => ?_)
  · have H := H1 hh; clear H1 H2
    refine WPc_skip ?_
    exact ⟨H, rfl⟩
  · have H := H2 hh; clear H1 H2
    refine WPc_exit ?_
    exact H

end Go.Proofs.Ytlihjljdndbpdaa
