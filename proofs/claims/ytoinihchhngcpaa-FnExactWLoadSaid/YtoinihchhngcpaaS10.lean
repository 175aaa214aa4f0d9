/-
  Shallow forms of the walked functions, and that each call comes to its form. Written by a program of this repo (gen.py). Conditions: none.
-/
import Derived.Test.YtoinihchhngcpaaST
namespace Go.Proofs.Ytoinihchhngcpaa
open Go.Hp
set_option maxRecDepth 100000
set_option maxHeartbeats 8000000
set_option linter.unusedVariables false
set_option linter.unusedSimpArgs false

/-! ### spec.WSet -/
def s_WSet.j1 (s5 : Value) (s6 : Value) (s7 : Value) (h : Heap) (Q : Value → Heap → Prop) : Prop :=
    Q (.tuple #[s5, s7, s6]) h
def s_WSet.j4 (s5 : Value) (s6 : Value) (s7 : Value) (s14 : Value) (s15 : Value) (s16 : Value) (h : Heap) (K1 : List Value → Heap → Prop) (Q : Value → Heap → Prop) : Prop :=
    arith (· + ·) s16 (.int .i64 1) fun t61 =>
    K1 [s5, s6, s7, t61] h
def s_WSet.j5 (s5 : Value) (s6 : Value) (s7 : Value) (s10 : Value) (s11 : Value) (s12 : Value) (s13 : Value) (s14 : Value) (s15 : Value) (s16 : Value) (h : Heap) (K1 : List Value → Heap → Prop) (Q : Value → Heap → Prop) : Prop :=
    slc 2 s6 (some s10) none none fun t51 =>
    app 26 2 24 [(.string ⟨#[]⟩), (.int .i64 0)] s13 t51 h fun t52 h =>
    loadN 2 s12 h fun t54 =>
    mkSl (if 1 * 2 = 0 then [] else zeros [(.string ⟨#[]⟩), (.int .i64 0)] 1) 1 [(0 * 2, 2, t54)] 26 h fun t55 h =>
    app 26 2 24 [(.string ⟨#[]⟩), (.int .i64 0)] s5 t55 h fun t56 h =>
    mkSl (if 1 * 1 = 0 then [] else zeros [(.bool false)] 1) 1 [(0 * 1, 1, s11)] 4 h fun t59 h =>
    app 4 1 1 [(.bool false)] s7 t59 h fun t60 h =>
    s_WSet.j4 t56 t52 t60 s14 s15 s16 h K1 Q
def s_WSet.j3 (s5 : Value) (s6 : Value) (s7 : Value) (s14 : Value) (s15 : Value) (s16 : Value) (h : Heap) (K1 : List Value → Heap → Prop) (Q : Value → Heap → Prop) : Prop :=
    idx 2 s14 s16 fun t18 =>
    loadN 2 t18 h fun t19 =>
    alloc [(.string ⟨#[]⟩), (.int .i64 0)] 26 h fun t9 h =>
    storeN 2 t9 t19 h fun h =>
    fld 0 t9 fun t22 =>
    load1 t22 h fun t23 =>
    s_spot.call #[s6, t23] h fun t24 h =>
    extr 0 t24 fun t25 =>
    extr 1 t24 fun t26 =>
    fld 0 t9 fun t27 =>
    load1 t27 h fun t28 =>
    buildV [(.string ⟨#[]⟩), (.int .i64 0)] [(0, 1, t28)] fun t29 =>
    alloc [(.string ⟨#[]⟩), (.int .i64 0)] 26 h fun t12 h =>
    storeN 2 t12 t29 h fun h =>
    mkSl (if 0 * 2 = 0 then [] else zeros [(.string ⟨#[]⟩), (.int .i64 0)] 0) 0 [] 26 h fun t30 h =>
    slc 2 s6 none (some t25) none fun t33 =>
    app 26 2 24 [(.string ⟨#[]⟩), (.int .i64 0)] t30 t33 h fun t34 h =>
    loadN 2 t9 h fun t36 =>
    mkSl (if 1 * 2 = 0 then [] else zeros [(.string ⟨#[]⟩), (.int .i64 0)] 1) 1 [(0 * 2, 2, t36)] 26 h fun t37 h =>
    app 26 2 24 [(.string ⟨#[]⟩), (.int .i64 0)] t34 t37 h fun t38 h =>
    ifV t26
    (idx 2 s6 t25 fun t42 =>
    fld 1 t42 fun t43 =>
    load1 t43 h fun t44 =>
    fld 1 t12 fun t45 =>
    store1 t45 t44 h fun h =>
    arith (· + ·) t25 (.int .i64 1) fun t47 =>
    s_WSet.j5 s5 s6 s7 t47 t26 t12 t38 s14 s15 s16 h K1 Q)
    (s_WSet.j5 s5 s6 s7 t25 t26 t12 t38 s14 s15 s16 h K1 Q)
def s_WSet.l2.b (c14 : Value) (c15 : Value) (s5 : Value) (s6 : Value) (s7 : Value) (s16 : Value) (h : Heap) (K1 : List Value → Heap → Prop) (Q : Value → Heap → Prop) : Prop :=
    cmpI (fun a b => decide (a < b)) s16 c15 fun t17 =>
    ifV t17
    (s_WSet.j3 s5 s6 s7 c14 c15 s16 h K1 Q)
    (s_WSet.j1 s5 s6 s7 h Q)
def s_WSet.sh (a0 : Value) (h : Heap) (Q : Value → Heap → Prop) : Prop :=
    lenV a0 fun t15 =>
    loopC (fun c s h K1 => s_WSet.l2.b (c.getD 0 undef) (c.getD 1 undef) (s.getD 0 undef) (s.getD 1 undef) (s.getD 2 undef) (s.getD 3 undef) h K1 Q) [a0, t15] [(.slice none 0 0), (.slice none 0 0), (.slice none 0 0), (.int .i64 0)] h
theorem s_WSet.body (a0 : Value) (h : Heap) (Q : Value → Heap → Prop) (H : s_WSet.sh a0 h Q) : s_WSet.call #[a0] h Q := by
  refine callsH_of (args := [a0]) Try.func33 rfl rfl ?_
  unfold s_WSet.sh at H
  refine WPc_seq' ?_
  refine W_region (by kernel_rfl) ?_
  refine vl_n ?_
  refine H_of_R (R_assign (v := (.slice none 0 0)) rfl ?_)
  refine vl_n ?_
  refine H_of_R (R_assign (v := (.slice none 0 0)) rfl ?_)
  refine vl_n ?_
  refine H_of_R (R_assign (v := (.slice none 0 0)) rfl ?_)
  refine vl_e ?_
  refine WPc_seq' ?_
  refine W_region (by kernel_rfl) ?_
  refine vl_n ?_
  refine H_of_R (R_assign (v := (.slice none 0 0)) rfl ?_)
  refine vl_n ?_
  refine H_of_R (R_assign (v := (.slice none 0 0)) rfl ?_)
  refine vl_e ?_
  refine WPc_seq' ?_
  refine W_region (by kernel_rfl) ?_
  refine vl_n ?_
  refine H_of_R (R_assign (v := (.slice none 0 0)) rfl ?_)
  refine vl_e ?_
  refine WPc_seq (fun e h => s_WSet.j1 (e 5) (e 6) (e 7) h Q) ?_ (fun e h H => ?_)
  rotate_left
  · unfold s_WSet.j1 at H
    refine WPc_seq' ?_
    refine W_region (by kernel_rfl) ?_
    refine vl_n ?_
    refine H_of_R (R_move (v := (e 5)) rfl ?_)
    refine vl_n ?_
    refine H_of_R (R_move (v := (e 7)) rfl ?_)
    refine vl_n ?_
    refine H_of_R (R_move (v := (e 6)) rfl ?_)
    refine vl_n ?_
    refine H_of_R (R_assign (v := (e 5)) rfl ?_)
    refine vl_n ?_
    refine H_of_R (R_assign (v := (e 7)) rfl ?_)
    refine vl_n ?_
    refine H_of_R (R_assign (v := (e 6)) rfl ?_)
    refine vl_e ?_
    refine WPc_ret ?_
    refine resH_of rfl ?_
    exact H
  refine WPc_seq' ?_
  refine W_region (by kernel_rfl) ?_
  refine vl_n ?_
  refine H_of_R (R_move (v := a0) rfl ?_)
  refine vl_n ?_
  refine H_of_R (R_len Try.underlying27 H fun t15 H => ?_)
  refine vl_n ?_
  refine H_of_R (R_move (v := (.int .i64 0)) rfl ?_)
  refine vl_e ?_
  refine WPc_block ?_
  refine loop_at (fun e => [e 5, e 6, e 7, e 16]) (fun e => [e 14, e 15]) H rfl rfl ?_
  intro K1 e1 h H hin1
  replace H : s_WSet.l2.b (e1 14) (e1 15) (e1 5) (e1 6) (e1 7) (e1 16) h K1 Q := H
  unfold s_WSet.l2.b at H
  clear hin1
  refine WPc_seq' ?_
  refine W_region (by kernel_rfl) ?_
  refine vl_n ?_
  refine H_of_R (R_lss H fun t17 H => ?_)
  refine vl_e ?_
  refine WPc_seq (fun e h => s_WSet.j3 (e 5) (e 6) (e 7) (e 14) (e 15) (e 16) h K1 Q ∧ [e1 14, e1 15] = [e 14, e 15]) ?_ (fun e h ⟨H, hq1⟩ => ?_)
  rotate_left
  · unfold s_WSet.j3 at H
    refine WPc_seq (fun e h => s_WSet.j4 (e 5) (e 6) (e 7) (e 14) (e 15) (e 16) h K1 Q ∧ [e1 14, e1 15] = [e 14, e 15]) ?_ (fun e h ⟨H, hq1⟩ => ?_)
    rotate_left
    · unfold s_WSet.j4 at H
      refine W_region (by kernel_rfl) ?_
      refine vl_n ?_
      refine H_of_R (R_add H fun t61 H => ?_)
      refine vl_n ?_
      refine H_of_R (R_move (v := t61) rfl ?_)
      refine vl_e ?_
      exact ⟨H, hq1⟩
    refine WPc_block ?_
    refine WPc_seq' ?_
    refine W_region (by kernel_rfl) ?_
    refine vl_n ?_
    refine H_of_R (R_idx TE_27 H fun t18 H => ?_)
    refine vl_n ?_
    refine H_of_R (R_loadN TN_26 H fun _ t19 _ _ H _ _ => ?_)
    refine vl_n ?_
    refine H_alloc TV_26 H fun t9 h H => ?_
    refine vl_n ?_
    refine H_storeN TS_26 H fun h H => ?_
    refine vl_e ?_
    refine WPc_seq' ?_
    refine W_region (by kernel_rfl) ?_
    refine vl_n ?_
    refine H_of_R (R_move (v := (e 6)) rfl ?_)
    refine vl_n ?_
    refine H_of_R (R_fld TF_26_0 H fun t22 H => ?_)
    refine vl_n ?_
    refine H_of_R (R_load1 T1_9 H fun _ t23 _ _ H => ?_)
    refine vl_n ?_
    refine H_call HB_72 H fun t24 h H => ?_
    refine vl_n ?_
    refine H_of_R (R_move (v := t24) rfl ?_)
    refine vl_n ?_
    refine H_of_R (R_ext H fun t25 H => ?_)
    refine vl_n ?_
    refine H_of_R (R_ext H fun t26 H => ?_)
    refine vl_n ?_
    refine H_of_R (R_assign (v := t25) rfl ?_)
    refine vl_n ?_
    refine H_of_R (R_assign (v := t26) rfl ?_)
    refine vl_e ?_
    refine WPc_seq' ?_
    refine W_region (by kernel_rfl) ?_
    refine vl_n ?_
    refine H_of_R (R_fld TF_26_0 H fun t27 H => ?_)
    refine vl_n ?_
    refine H_of_R (R_load1 T1_9 H fun _ t28 _ _ H => ?_)
    refine vl_n ?_
    refine H_of_R (R_build TB_26 rfl (by decide) H fun t29 H => ?_)
    refine vl_n ?_
    refine H_alloc TV_26 H fun t12 h H => ?_
    refine vl_n ?_
    refine H_storeN TS_26 H fun h H => ?_
    refine vl_e ?_
    refine WPc_seq' ?_
    refine W_region (by kernel_rfl) ?_
    refine vl_n ?_
    refine H_mkSl TZ_27 (by decide) rfl H rfl fun t30 h H => ?_
    refine vl_n ?_
    refine H_of_R (R_move (v := (e 6)) rfl ?_)
    refine vl_n ?_
    refine H_of_R (R_move (v := t25) rfl ?_)
    refine vl_n ?_
    refine H_of_R (R_slice TE_27 (by decide) H fun t33 H => ?_)
    refine vl_n ?_
    refine H_app TZ_27 TU_27 H fun t34 h H => ?_
    refine vl_n ?_
    refine H_of_R (R_assign (v := t34) rfl ?_)
    refine vl_e ?_
    refine WPc_seq' ?_
    refine W_region (by kernel_rfl) ?_
    refine vl_n ?_
    refine H_of_R (R_move (v := t34) rfl ?_)
    refine vl_n ?_
    refine H_of_R (R_loadN TN_26 H fun _ t36 _ _ H _ _ => ?_)
    refine vl_n ?_
    refine H_mkSl TZ_27 (by decide) rfl H rfl fun t37 h H => ?_
    refine vl_n ?_
    refine H_app TZ_27 TU_27 H fun t38 h H => ?_
    refine vl_n ?_
    refine H_of_R (R_assign (v := t38) rfl ?_)
    refine vl_e ?_
    refine WPc_seq (fun e h => s_WSet.j5 (e 5) (e 6) (e 7) (e 10) (e 11) (e 12) (e 13) (e 14) (e 15) (e 16) h K1 Q ∧ [e1 14, e1 15] = [e 14, e 15]) ?_ (fun e h ⟨H, hq1⟩ => ?_)
    rotate_left
    · unfold s_WSet.j5 at H
      refine WPc_seq' ?_
      refine W_region (by kernel_rfl) ?_
      refine vl_n ?_
      refine H_of_R (R_move (v := (e 13)) rfl ?_)
      refine vl_n ?_
      refine H_of_R (R_move (v := (e 6)) rfl ?_)
      refine vl_n ?_
      refine H_of_R (R_move (v := (e 10)) rfl ?_)
      refine vl_n ?_
      refine H_of_R (R_slice TE_27 (by decide) H fun t51 H => ?_)
      refine vl_n ?_
      refine H_app TZ_27 TU_27 H fun t52 h H => ?_
      refine vl_n ?_
      refine H_of_R (R_assign (v := t52) rfl ?_)
      refine vl_e ?_
      refine W_region (by kernel_rfl) ?_
      refine vl_n ?_
      refine H_of_R (R_move (v := (e 5)) rfl ?_)
      refine vl_n ?_
      refine H_of_R (R_loadN TN_26 H fun _ t54 _ _ H _ _ => ?_)
      refine vl_n ?_
      refine H_mkSl TZ_27 (by decide) rfl H rfl fun t55 h H => ?_
      refine vl_n ?_
      refine H_app TZ_27 TU_27 H fun t56 h H => ?_
      refine vl_n ?_
      refine H_of_R (R_move (v := (e 7)) rfl ?_)
      refine vl_n ?_
      refine H_of_R (R_move (v := (e 11)) rfl ?_)
      refine vl_n ?_
      refine H_mkSl TZ_30 (by decide) rfl H rfl fun t59 h H => ?_
      refine vl_n ?_
      refine H_app TZ_30 TU_30 H fun t60 h H => ?_
      refine vl_n ?_
      refine H_of_R (R_assign (v := t56) rfl ?_)
      refine vl_n ?_
      refine H_of_R (R_assign (v := t60) rfl ?_)
      refine vl_e ?_
      exact ⟨H, hq1⟩
    refine WPc_seq' ?_
    refine W_region (by kernel_rfl) ?_
    refine vl_n ?_
    refine H_of_R (R_move (v := t26) rfl ?_)
    refine vl_e ?_
    obtain ⟨b, hc, H1, H2⟩ := H
    refine WPc_cond hc (fun hh => ?_) (fun hh => ?_)
    · have H := H1 hh; clear H1 H2
      refine WPc_seq' ?_
      refine W_region (by kernel_rfl) ?_
      refine vl_n ?_
      refine H_of_R (R_move (v := (e 6)) rfl ?_)
      refine vl_n ?_
      refine H_of_R (R_move (v := t25) rfl ?_)
      refine vl_n ?_
      refine H_of_R (R_idx TE_27 H fun t42 H => ?_)
      refine vl_n ?_
      refine H_of_R (R_fld TF_26_1 H fun t43 H => ?_)
      refine vl_n ?_
      refine H_of_R (R_load1 T1_3 H fun _ t44 _ _ H => ?_)
      refine vl_n ?_
      refine H_of_R (R_fld TF_26_1 H fun t45 H => ?_)
      refine vl_n ?_
      refine H_store1 TS_3 H fun h H => ?_
      refine vl_e ?_
      refine W_region (by kernel_rfl) ?_
      refine vl_n ?_
      refine H_of_R (R_move (v := t25) rfl ?_)
      refine vl_n ?_
      refine H_of_R (R_add H fun t47 H => ?_)
      refine vl_n ?_
      refine H_of_R (R_assign (v := t47) rfl ?_)
      refine vl_e ?_
      exact ⟨H, hq1⟩
    · have H := H2 hh; clear H1 H2
      refine WPc_skip ?_
      exact ⟨H, hq1⟩
  obtain ⟨b, hc, H1, H2⟩ := H
  refine WPc_cond hc (fun hh => ?_) (fun hh => ?_)
  · have H := H1 hh; clear H1 H2
    refine WPc_skip ?_
    exact ⟨H, rfl⟩
  · have H := H2 hh; clear H1 H2
    refine WPc_exit ?_
    exact H
/-! ### spec.Words -/
def s_Words.sh (a0 : Value) (h : Heap) (Q : Value → Heap → Prop) : Prop :=
    s_WSet.call #[a0] h fun t8 h =>
    extr 0 t8 fun t9 =>
    extr 1 t8 fun t10 =>
    extr 2 t8 fun t11 =>
    Q t11 h
theorem s_Words.body (a0 : Value) (h : Heap) (Q : Value → Heap → Prop) (H : s_Words.sh a0 h Q) : s_Words.call #[a0] h Q := by
  refine callsH_of (args := [a0]) Try.func65 rfl rfl ?_
  unfold s_Words.sh at H
  refine WPc_seq' ?_
  refine W_region (by kernel_rfl) ?_
  refine vl_n ?_
  refine H_of_R (R_assign (v := (.slice none 0 0)) rfl ?_)
  refine vl_e ?_
  refine WPc_seq' ?_
  refine W_region (by kernel_rfl) ?_
  refine vl_n ?_
  refine H_of_R (R_move (v := a0) rfl ?_)
  refine vl_n ?_
  refine H_call HB_33 H fun t8 h H => ?_
  refine vl_n ?_
  refine H_of_R (R_move (v := t8) rfl ?_)
  refine vl_n ?_
  refine H_of_R (R_ext H fun t9 H => ?_)
  refine vl_n ?_
  refine H_of_R (R_ext H fun t10 H => ?_)
  refine vl_n ?_
  refine H_of_R (R_ext H fun t11 H => ?_)
  refine vl_n ?_
  refine H_of_R (R_assign (v := t9) rfl ?_)
  refine vl_n ?_
  refine H_of_R (R_assign (v := t10) rfl ?_)
  refine vl_n ?_
  refine H_of_R (R_assign (v := t11) rfl ?_)
  refine vl_e ?_
  refine WPc_seq' ?_
  refine W_region (by kernel_rfl) ?_
  refine vl_n ?_
  refine H_of_R (R_move (v := t11) rfl ?_)
  refine vl_n ?_
  refine H_of_R (R_assign (v := t11) rfl ?_)
  refine vl_e ?_
  refine WPc_ret ?_
  refine resH_of rfl ?_
  exact H
/-! ### spec.WScan -/
def s_WScan.sh (a0 : Value) (a1 : Value) (h : Heap) (Q : Value → Heap → Prop) : Prop :=
    s_Words.call #[a0] h fun t6 h =>
    s_First_implWord.call #[t6, a1] h fun t8 h =>
    Q t8 h
theorem s_WScan.body (a0 : Value) (a1 : Value) (h : Heap) (Q : Value → Heap → Prop) (H : s_WScan.sh a0 a1 h Q) : s_WScan.call #[a0, a1] h Q := by
  refine callsH_of (args := [a0, a1]) Try.func21 rfl rfl ?_
  unfold s_WScan.sh at H
  refine WPc_seq' ?_
  refine W_region (by kernel_rfl) ?_
  refine vl_n ?_
  refine H_of_R (R_assign (v := (.slice none 0 0)) rfl ?_)
  refine vl_e ?_
  refine WPc_seq' ?_
  refine W_region (by kernel_rfl) ?_
  refine vl_n ?_
  refine H_of_R (R_move (v := a0) rfl ?_)
  refine vl_n ?_
  refine H_call HB_65 H fun t6 h H => ?_
  refine vl_n ?_
  refine H_of_R (R_move (v := a1) rfl ?_)
  refine vl_n ?_
  refine H_call HB_64 H fun t8 h H => ?_
  refine vl_n ?_
  refine H_of_R (R_assign (v := t8) rfl ?_)
  refine vl_e ?_
  refine WPc_ret ?_
  refine resH_of rfl ?_
  exact H
/-! ### laws.FnExactWScan -/
def l_FnExactWScan.j1 (s0 : Value) (s1 : Value) (s2 : Value) (h : Heap) (Q : Value → Heap → Prop) : Prop :=
    l_fit.call #[s0] h fun t11 h =>
    notV t11 fun t12 =>
    br t12 false (i_WScan.call #[s0, s1, s2] h fun t17 h =>
    s_WScan.call #[s1, s2] h fun t20 h =>
    sl_Equal_implWordimplWord.call #[t17, t20] h fun t21 h =>
    br t21 true (l_aliveW.call #[] h fun t24 h =>
    Q t24 h) (Q (.bool false) h)) (l_aliveW.call #[] h fun t24_2 h =>
    Q t24_2 h)
def l_FnExactWScan.sh (a0 : Value) (a1 : Value) (a2 : Value) (h : Heap) (Q : Value → Heap → Prop) : Prop :=
    l_zzFits8.call #[a1] h fun t8 h =>
    notV t8 fun t9 =>
    ifV t9
    (Q (.bool true) h)
    (l_FnExactWScan.j1 a0 a1 a2 h Q)
theorem l_FnExactWScan.body (a0 : Value) (a1 : Value) (a2 : Value) (h : Heap) (Q : Value → Heap → Prop) (H : l_FnExactWScan.sh a0 a1 a2 h Q) : l_FnExactWScan.call #[a0, a1, a2] h Q := by
  refine callsH_of (args := [a0, a1, a2]) Try.func5 rfl rfl ?_
  unfold l_FnExactWScan.sh at H
  refine WPc_seq' ?_
  refine W_region (by kernel_rfl) ?_
  refine vl_n ?_
  refine H_of_R (R_assign (v := (.bool false)) rfl ?_)
  refine vl_e ?_
  refine WPc_seq (fun e h => l_FnExactWScan.j1 (e 0) (e 1) (e 2) h Q) ?_ (fun e h H => ?_)
  rotate_left
  · unfold l_FnExactWScan.j1 at H
    refine WPc_seq' ?_
    refine W_region (by kernel_rfl) ?_
    refine vl_n ?_
    refine H_of_R (R_move (v := (e 0)) rfl ?_)
    refine vl_n ?_
    refine H_call HB_14 H fun t11 h H => ?_
    refine vl_n ?_
    refine H_of_R (R_not H fun t12 H => ?_)
    refine vl_n ?_
    refine H_of_R (R_move (v := t12) rfl ?_)
    obtain ⟨b, hb, H1, H2⟩ := H
    cases b
    · have H := H1 rfl; clear H1 H2
      refine vl_y rfl hb ?_
      refine H_of_R (R_move (v := (e 0)) rfl ?_)
      refine vl_y rfl hb ?_
      refine H_of_R (R_move (v := (e 1)) rfl ?_)
      refine vl_y rfl hb ?_
      refine H_of_R (R_move (v := (e 2)) rfl ?_)
      refine vl_y rfl hb ?_
      refine H_call HB_19 H fun t17 h H => ?_
      refine vl_y rfl hb ?_
      refine H_of_R (R_move (v := (e 1)) rfl ?_)
      refine vl_y rfl hb ?_
      refine H_of_R (R_move (v := (e 2)) rfl ?_)
      refine vl_y rfl hb ?_
      refine H_call HB_21 H fun t20 h H => ?_
      refine vl_y rfl hb ?_
      refine H_call HB_20 H fun t21 h H => ?_
      refine vl_n ?_
      refine H_of_R (R_pickC (v := t21) false hb rfl ?_)
      refine vl_n ?_
      refine H_of_R (R_move (v := t21) rfl ?_)
      obtain ⟨b_2, hb_2, H1, H2⟩ := H
      cases b_2
      · have H := H2 rfl; clear H1 H2
        refine vl_s rfl (nbT hb_2) ?_
        refine vl_n ?_
        refine H_of_R (R_pickC (v := (.bool false)) false hb_2 rfl ?_)
        refine vl_n ?_
        refine H_of_R (R_assign (v := (.bool false)) rfl ?_)
        refine vl_e ?_
        refine WPc_ret ?_
        refine resH_of rfl ?_
        exact H
      · have H := H1 rfl; clear H1 H2
        refine vl_y rfl hb_2 ?_
        refine H_call HB_15 H fun t24 h H => ?_
        refine vl_n ?_
        refine H_of_R (R_pickC (v := t24) true hb_2 rfl ?_)
        refine vl_n ?_
        refine H_of_R (R_assign (v := t24) rfl ?_)
        refine vl_e ?_
        refine WPc_ret ?_
        refine resH_of rfl ?_
        exact H
    · have H := H2 rfl; clear H1 H2
      refine vl_s rfl (nbF hb) ?_
      refine vl_s rfl (nbF hb) ?_
      refine vl_s rfl (nbF hb) ?_
      refine vl_s rfl (nbF hb) ?_
      refine vl_s rfl (nbF hb) ?_
      refine vl_s rfl (nbF hb) ?_
      refine vl_s rfl (nbF hb) ?_
      refine vl_s rfl (nbF hb) ?_
      refine vl_n ?_
      refine H_of_R (R_pickC (v := (.bool true)) true hb rfl ?_)
      refine vl_n ?_
      refine H_of_R (R_move (v := (.bool true)) rfl ?_)
      refine vl_y rfl rfl ?_
      refine H_call HB_15 H fun t24_2 h H => ?_
      refine vl_n ?_
      refine H_of_R (R_pickC (v := t24_2) true rfl rfl ?_)
      refine vl_n ?_
      refine H_of_R (R_assign (v := t24_2) rfl ?_)
      refine vl_e ?_
      refine WPc_ret ?_
      refine resH_of rfl ?_
      exact H
  refine WPc_seq' ?_
  refine W_region (by kernel_rfl) ?_
  refine vl_n ?_
  refine H_of_R (R_move (v := a1) rfl ?_)
  refine vl_n ?_
  refine H_call HB_18 H fun t8 h H => ?_
  refine vl_n ?_
  refine H_of_R (R_not H fun t9 H => ?_)
  refine vl_e ?_
  obtain ⟨b, hc, H1, H2⟩ := H
  refine WPc_cond hc (fun hh => ?_) (fun hh => ?_)
  · have H := H1 hh; clear H1 H2
    refine WPc_seq' ?_
    refine W_region (by kernel_rfl) ?_
    refine vl_n ?_
    refine H_of_R (R_assign (v := (.bool true)) rfl ?_)
    refine vl_e ?_
    refine WPc_ret ?_
    refine resH_of rfl ?_
    exact H
  · have H := H2 hh; clear H1 H2
    refine WPc_skip ?_
    exact H
/-! ### laws.zzFits13 -/
def l_zzFits13.j2 (h : Heap) (Q : Value → Heap → Prop) : Prop :=
    Q (.bool true) h
def l_zzFits13.j5 (s8 : Value) (s9 : Value) (s10 : Value) (h : Heap) (K1 : List Value → Heap → Prop) (Q : Value → Heap → Prop) : Prop :=
    arith (· + ·) s10 (.int .i64 1) fun t17 =>
    K1 [t17] h
def l_zzFits13.j4 (s8 : Value) (s9 : Value) (s10 : Value) (h : Heap) (K1 : List Value → Heap → Prop) (Q : Value → Heap → Prop) : Prop :=
    idx 1 s8 s10 fun t12 =>
    load1 t12 h fun t13 =>
    lenStr t13 fun t15 =>
    cmpI (fun a b => decide (a > b)) t15 (.int .i64 2147483647) fun t16 =>
    ifV t16
    (Q (.bool false) h)
    (l_zzFits13.j5 s8 s9 s10 h K1 Q)
def l_zzFits13.l3.b (c8 : Value) (c9 : Value) (s10 : Value) (h : Heap) (K1 : List Value → Heap → Prop) (Q : Value → Heap → Prop) : Prop :=
    cmpI (fun a b => decide (a < b)) s10 c9 fun t11 =>
    ifV t11
    (l_zzFits13.j4 c8 c9 s10 h K1 Q)
    (l_zzFits13.j2 h Q)
def l_zzFits13.j1 (s0 : Value) (h : Heap) (Q : Value → Heap → Prop) : Prop :=
    lenV s0 fun t9 =>
    loopC (fun c s h K1 => l_zzFits13.l3.b (c.getD 0 undef) (c.getD 1 undef) (s.getD 0 undef) h K1 Q) [s0, t9] [(.int .i64 0)] h
def l_zzFits13.sh (a0 : Value) (h : Heap) (Q : Value → Heap → Prop) : Prop :=
    lenV a0 fun t6 =>
    cmpI (fun a b => decide (a > b)) t6 (.int .i64 2147483647) fun t7 =>
    ifV t7
    (Q (.bool false) h)
    (l_zzFits13.j1 a0 h Q)
theorem l_zzFits13.body (a0 : Value) (h : Heap) (Q : Value → Heap → Prop) (H : l_zzFits13.sh a0 h Q) : l_zzFits13.call #[a0] h Q := by
  refine callsH_of (args := [a0]) Try.func22 rfl rfl ?_
  unfold l_zzFits13.sh at H
  refine WPc_seq' ?_
  refine W_region (by kernel_rfl) ?_
  refine vl_n ?_
  refine H_of_R (R_assign (v := (.bool false)) rfl ?_)
  refine vl_e ?_
  refine WPc_seq (fun e h => l_zzFits13.j1 (e 0) h Q) ?_ (fun e h H => ?_)
  rotate_left
  · unfold l_zzFits13.j1 at H
    refine WPc_seq (fun e h => l_zzFits13.j2 h Q) ?_ (fun e h H => ?_)
    rotate_left
    · unfold l_zzFits13.j2 at H
      refine WPc_seq' ?_
      refine W_region (by kernel_rfl) ?_
      refine vl_n ?_
      refine H_of_R (R_assign (v := (.bool true)) rfl ?_)
      refine vl_e ?_
      refine WPc_ret ?_
      refine resH_of rfl ?_
      exact H
    refine WPc_seq' ?_
    refine W_region (by kernel_rfl) ?_
    refine vl_n ?_
    refine H_of_R (R_move (v := (e 0)) rfl ?_)
    refine vl_n ?_
    refine H_of_R (R_len Try.underlying28 H fun t9 H => ?_)
    refine vl_n ?_
    refine H_of_R (R_move (v := (.int .i64 0)) rfl ?_)
    refine vl_e ?_
    refine WPc_block ?_
    refine loop_at (fun e => [e 10]) (fun e => [e 8, e 9]) H rfl rfl ?_
    intro K1 e1 h H hin1
    replace H : l_zzFits13.l3.b (e1 8) (e1 9) (e1 10) h K1 Q := H
    unfold l_zzFits13.l3.b at H
    clear hin1
    refine WPc_seq' ?_
    refine W_region (by kernel_rfl) ?_
    refine vl_n ?_
    refine H_of_R (R_lss H fun t11 H => ?_)
    refine vl_e ?_
    refine WPc_seq (fun e h => l_zzFits13.j4 (e 8) (e 9) (e 10) h K1 Q ∧ [e1 8, e1 9] = [e 8, e 9]) ?_ (fun e h ⟨H, hq1⟩ => ?_)
    rotate_left
    · unfold l_zzFits13.j4 at H
      refine WPc_seq (fun e h => l_zzFits13.j5 (e 8) (e 9) (e 10) h K1 Q ∧ [e1 8, e1 9] = [e 8, e 9]) ?_ (fun e h ⟨H, hq1⟩ => ?_)
      rotate_left
      · unfold l_zzFits13.j5 at H
        refine W_region (by kernel_rfl) ?_
        refine vl_n ?_
        refine H_of_R (R_add H fun t17 H => ?_)
        refine vl_n ?_
        refine H_of_R (R_move (v := t17) rfl ?_)
        refine vl_e ?_
        exact ⟨H, hq1⟩
      refine WPc_block ?_
      refine WPc_seq' ?_
      refine W_region (by kernel_rfl) ?_
      refine vl_n ?_
      refine H_of_R (R_idx TE_28 H fun t12 H => ?_)
      refine vl_n ?_
      refine H_of_R (R_load1 T1_9 H fun _ t13 _ _ H => ?_)
      refine vl_n ?_
      refine H_of_R (R_assign (v := t13) rfl ?_)
      refine vl_e ?_
      refine WPc_seq' ?_
      refine W_region (by kernel_rfl) ?_
      refine vl_n ?_
      refine H_of_R (R_move (v := t13) rfl ?_)
      refine vl_n ?_
      refine H_of_R (R_lenS Try.underlying9 H fun t15 H => ?_)
      refine vl_n ?_
      refine H_of_R (R_gtr H fun t16 H => ?_)
      refine vl_e ?_
      obtain ⟨b, hc, H1, H2⟩ := H
      refine WPc_cond hc (fun hh => ?_) (fun hh => ?_)
      · have H := H1 hh; clear H1 H2
        refine WPc_seq' ?_
        refine W_region (by kernel_rfl) ?_
        refine vl_n ?_
        refine H_of_R (R_assign (v := (.bool false)) rfl ?_)
        refine vl_e ?_
        refine WPc_ret ?_
        refine resH_of rfl ?_
        exact H
      · have H := H2 hh; clear H1 H2
        refine WPc_skip ?_
        exact ⟨H, hq1⟩
    obtain ⟨b, hc, H1, H2⟩ := H
    refine WPc_cond hc (fun hh => ?_) (fun hh => ?_)
    · have H := H1 hh; clear H1 H2
      refine WPc_skip ?_
      exact ⟨H, rfl⟩
    · have H := H2 hh; clear H1 H2
      refine WPc_exit ?_
      exact H
  refine WPc_seq' ?_
  refine W_region (by kernel_rfl) ?_
  refine vl_n ?_
  refine H_of_R (R_move (v := a0) rfl ?_)
  refine vl_n ?_
  refine H_of_R (R_len Try.underlying28 H fun t6 H => ?_)
  refine vl_n ?_
  refine H_of_R (R_gtr H fun t7 H => ?_)
  refine vl_e ?_
  obtain ⟨b, hc, H1, H2⟩ := H
  refine WPc_cond hc (fun hh => ?_) (fun hh => ?_)
  · have H := H1 hh; clear H1 H2
    refine WPc_seq' ?_
    refine W_region (by kernel_rfl) ?_
    refine vl_n ?_
    refine H_of_R (R_assign (v := (.bool false)) rfl ?_)
    refine vl_e ?_
    refine WPc_ret ?_
    refine resH_of rfl ?_
    exact H
  · have H := H2 hh; clear H1 H2
    refine WPc_skip ?_
    exact H
/-! ### cmp.isNaN[string] -/
def cmp_isNaN_s.sh (a0 : Value) (h : Heap) (Q : Value → Heap → Prop) : Prop :=
    cmpS (fun _ eq => !eq) a0 a0 fun t5 =>
    Q t5 h
theorem cmp_isNaN_s.body (a0 : Value) (h : Heap) (Q : Value → Heap → Prop) (H : cmp_isNaN_s.sh a0 h Q) : cmp_isNaN_s.call #[a0] h Q := by
  refine callsH_of (args := [a0]) Try.func126 rfl rfl ?_
  unfold cmp_isNaN_s.sh at H
  refine WPc_seq' ?_
  refine W_region (by kernel_rfl) ?_
  refine vl_n ?_
  refine H_of_R (R_assign (v := (.bool false)) rfl ?_)
  refine vl_e ?_
  refine WPc_seq' ?_
  refine W_region (by kernel_rfl) ?_
  refine vl_n ?_
  refine H_of_R (R_move (v := a0) rfl ?_)
  refine vl_n ?_
  refine H_of_R (R_move (v := a0) rfl ?_)
  refine vl_n ?_
  refine H_of_R (R_neS H fun t5 H => ?_)
  refine vl_n ?_
  refine H_of_R (R_assign (v := t5) rfl ?_)
  refine vl_e ?_
  refine WPc_ret ?_
  refine resH_of rfl ?_
  exact H
/-! ### cmp.Less[string] -/
def cmp_Less_s.sh (a0 : Value) (a1 : Value) (h : Heap) (Q : Value → Heap → Prop) : Prop :=
    cmp_isNaN_s.call #[a0] h fun t6 h =>
    br t6 true (cmp_isNaN_s.call #[a1] h fun t9 h =>
    notV t9 fun t10 =>
    br t10 false (cmpS (fun lt _ => lt) a0 a1 fun t15_2 =>
    Q t15_2 h) (Q (.bool true) h)) (cmpS (fun lt _ => lt) a0 a1 fun t15 =>
    Q t15 h)
theorem cmp_Less_s.body (a0 : Value) (a1 : Value) (h : Heap) (Q : Value → Heap → Prop) (H : cmp_Less_s.sh a0 a1 h Q) : cmp_Less_s.call #[a0, a1] h Q := by
  refine callsH_of (args := [a0, a1]) Try.func97 rfl rfl ?_
  unfold cmp_Less_s.sh at H
  refine WPc_seq' ?_
  refine W_region (by kernel_rfl) ?_
  refine vl_n ?_
  refine H_of_R (R_assign (v := (.bool false)) rfl ?_)
  refine vl_e ?_
  refine WPc_seq' ?_
  refine W_region (by kernel_rfl) ?_
  refine vl_n ?_
  refine H_of_R (R_move (v := a0) rfl ?_)
  refine vl_n ?_
  refine H_call HB_126 H fun t6 h H => ?_
  refine vl_n ?_
  refine H_of_R (R_move (v := t6) rfl ?_)
  obtain ⟨b, hb, H1, H2⟩ := H
  cases b
  · have H := H2 rfl; clear H1 H2
    refine vl_s rfl (nbT hb) ?_
    refine vl_s rfl (nbT hb) ?_
    refine vl_s rfl (nbT hb) ?_
    refine vl_n ?_
    refine H_of_R (R_pickC (v := (.bool false)) false hb rfl ?_)
    refine vl_n ?_
    refine H_of_R (R_move (v := (.bool false)) rfl ?_)
    refine vl_y rfl rfl ?_
    refine H_of_R (R_move (v := a0) rfl ?_)
    refine vl_y rfl rfl ?_
    refine H_of_R (R_move (v := a1) rfl ?_)
    refine vl_y rfl rfl ?_
    refine H_of_R (R_lssS H fun t15 H => ?_)
    refine vl_n ?_
    refine H_of_R (R_pickC (v := t15) false rfl rfl ?_)
    refine vl_n ?_
    refine H_of_R (R_assign (v := t15) rfl ?_)
    refine vl_e ?_
    refine WPc_ret ?_
    refine resH_of rfl ?_
    exact H
  · have H := H1 rfl; clear H1 H2
    refine vl_y rfl hb ?_
    refine H_of_R (R_move (v := a1) rfl ?_)
    refine vl_y rfl hb ?_
    refine H_call HB_126 H fun t9 h H => ?_
    refine vl_y rfl hb ?_
    refine H_of_R (R_not H fun t10 H => ?_)
    refine vl_n ?_
    refine H_of_R (R_pickC (v := t10) true hb rfl ?_)
    refine vl_n ?_
    refine H_of_R (R_move (v := t10) rfl ?_)
    obtain ⟨b_2, hb_2, H1, H2⟩ := H
    cases b_2
    · have H := H1 rfl; clear H1 H2
      refine vl_y rfl hb_2 ?_
      refine H_of_R (R_move (v := a0) rfl ?_)
      refine vl_y rfl hb_2 ?_
      refine H_of_R (R_move (v := a1) rfl ?_)
      refine vl_y rfl hb_2 ?_
      refine H_of_R (R_lssS H fun t15_2 H => ?_)
      refine vl_n ?_
      refine H_of_R (R_pickC (v := t15_2) false hb_2 rfl ?_)
      refine vl_n ?_
      refine H_of_R (R_assign (v := t15_2) rfl ?_)
      refine vl_e ?_
      refine WPc_ret ?_
      refine resH_of rfl ?_
      exact H
    · have H := H2 rfl; clear H1 H2
      refine vl_s rfl (nbF hb_2) ?_
      refine vl_s rfl (nbF hb_2) ?_
      refine vl_s rfl (nbF hb_2) ?_
      refine vl_n ?_
      refine H_of_R (R_pickC (v := (.bool true)) true hb_2 rfl ?_)
      refine vl_n ?_
      refine H_of_R (R_assign (v := (.bool true)) rfl ?_)
      refine vl_e ?_
      refine WPc_ret ?_
      refine resH_of rfl ?_
      exact H

end Go.Proofs.Ytoinihchhngcpaa
