/-
  Shallow forms of the walked functions, and that each call comes to its form. Written by a program of this repo (gen.py). Conditions: none.
-/
import Derived.Test.YtfojeibloilneaaST
namespace Go.Proofs.Ytfojeibloilneaa
open Go.Hp
set_option maxRecDepth 100000
set_option maxHeartbeats 8000000
set_option linter.unusedVariables false
set_option linter.unusedSimpArgs false

/-! ### spec.WSet -/
def s_WSet.j1 (s5 : Value) (s6 : Value) (s7 : Value) (h : Heap) (Q : Value → Heap → Prop) : Prop :=
    Q (.tuple #[s5, s7, s6]) h
def s_WSet.j4 (s5 : Value) (s6 : Value) (s7 : Value) (s14 : Value) (s15 : Value) (s16 : Value) (h : Heap) (K1 : List Value → Heap → Prop) (Q : Value → Heap → Prop) : Prop :=
    arith (· + ·) s16 (.int .i64 1) fun t61 =>
    K1 [s5, s6, s7, t61] h
def s_WSet.j5 (s5 : Value) (s6 : Value) (s7 : Value) (s10 : Value) (s11 : Value) (s12 : Value) (s13 : Value) (s14 : Value) (s15 : Value) (s16 : Value) (h : Heap) (K1 : List Value → Heap → Prop) (Q : Value → Heap → Prop) : Prop :=
    slc 2 s6 (some s10) none none fun t51 =>
    app 50 2 24 [(.string ⟨#[]⟩), (.int .i64 0)] s13 t51 h fun t52 h =>
    loadN 2 s12 h fun t54 =>
    mkSl (if 1 * 2 = 0 then [] else zeros [(.string ⟨#[]⟩), (.int .i64 0)] 1) 1 [(0 * 2, 2, t54)] 50 h fun t55 h =>
    app 50 2 24 [(.string ⟨#[]⟩), (.int .i64 0)] s5 t55 h fun t56 h =>
    mkSl (if 1 * 1 = 0 then [] else zeros [(.bool false)] 1) 1 [(0 * 1, 1, s11)] 4 h fun t59 h =>
    app 4 1 1 [(.bool false)] s7 t59 h fun t60 h =>
    s_WSet.j4 t56 t52 t60 s14 s15 s16 h K1 Q
def s_WSet.j3 (s5 : Value) (s6 : Value) (s7 : Value) (s14 : Value) (s15 : Value) (s16 : Value) (h : Heap) (K1 : List Value → Heap → Prop) (Q : Value → Heap → Prop) : Prop :=
    idx 2 s14 s16 fun t18 =>
    loadN 2 t18 h fun t19 =>
    alloc [(.string ⟨#[]⟩), (.int .i64 0)] 50 h fun t9 h =>
    storeN 2 t9 t19 h fun h =>
    fld 0 t9 fun t22 =>
    load1 t22 h fun t23 =>
    s_spot.call #[s6, t23] h fun t24 h =>
    extr 0 t24 fun t25 =>
    extr 1 t24 fun t26 =>
    fld 0 t9 fun t27 =>
    load1 t27 h fun t28 =>
    buildV [(.string ⟨#[]⟩), (.int .i64 0)] [(0, 1, t28)] fun t29 =>
    alloc [(.string ⟨#[]⟩), (.int .i64 0)] 50 h fun t12 h =>
    storeN 2 t12 t29 h fun h =>
    mkSl (if 0 * 2 = 0 then [] else zeros [(.string ⟨#[]⟩), (.int .i64 0)] 0) 0 [] 50 h fun t30 h =>
    slc 2 s6 none (some t25) none fun t33 =>
    app 50 2 24 [(.string ⟨#[]⟩), (.int .i64 0)] t30 t33 h fun t34 h =>
    loadN 2 t9 h fun t36 =>
    mkSl (if 1 * 2 = 0 then [] else zeros [(.string ⟨#[]⟩), (.int .i64 0)] 1) 1 [(0 * 2, 2, t36)] 50 h fun t37 h =>
    app 50 2 24 [(.string ⟨#[]⟩), (.int .i64 0)] t34 t37 h fun t38 h =>
    ifV t26
    (idx 2 s6 t25 fun t42 =>
    fld 1 t42 fun t43 =>
    load1 t43 h fun t44 =>
    fld 1 t12 fun t45 =>
    store1 t45 t44 h fun h =>
    arith (· + ·) t25 (.int .i64 1) fun t47 =>
    s_WSet.j5 s5 s6 s7 t47 t26 t12 t38 s14 s15 s16 h K1 Q)
    (s_WSet.j5 s5 s6 s7 t25 t26 t12 t38 s14 s15 s16 h K1 Q)
def s_WSet.l2.b (c14 : Value) (c15 : Value) (s5 : Value) (s6 : Value) (s7 : Value) (s16 : Value) (h : Heap) (K1 : List Value → Heap → Prop) (Q : Value → Heap → Prop) : Prop :=
    cmpI (fun a b => decide (a < b)) s16 c15 fun t17 =>
    ifV t17
    (s_WSet.j3 s5 s6 s7 c14 c15 s16 h K1 Q)
    (s_WSet.j1 s5 s6 s7 h Q)
def s_WSet.sh (a0 : Value) (h : Heap) (Q : Value → Heap → Prop) : Prop :=
    lenV a0 fun t15 =>
    loopC (fun c s h K1 => s_WSet.l2.b (c.getD 0 undef) (c.getD 1 undef) (s.getD 0 undef) (s.getD 1 undef) (s.getD 2 undef) (s.getD 3 undef) h K1 Q) [a0, t15] [(.slice none 0 0), (.slice none 0 0), (.slice none 0 0), (.int .i64 0)] h
theorem s_WSet.body (a0 : Value) (h : Heap) (Q : Value → Heap → Prop) (H : s_WSet.sh a0 h Q) : s_WSet.call #[a0] h Q := by
  refine callsH_of (args := [a0]) Try.func50 rfl rfl ?_
  unfold s_WSet.sh at H
  refine WPc_seq' ?_
  refine W_region (by kernel_rfl) ?_
  refine vl_n ?_
  refine H_of_R (R_assign (v := (.slice none 0 0)) rfl ?_)
  refine vl_n ?_
  refine H_of_R (R_assign (v := (.slice none 0 0)) rfl ?_)
  refine vl_n ?_
  refine H_of_R (R_assign (v := (.slice none 0 0)) rfl ?_)
  refine vl_e ?_
  refine WPc_seq' ?_
  refine W_region (by kernel_rfl) ?_
  refine vl_n ?_
  refine H_of_R (R_assign (v := (.slice none 0 0)) rfl ?_)
  refine vl_n ?_
  refine H_of_R (R_assign (v := (.slice none 0 0)) rfl ?_)
  refine vl_e ?_
  refine WPc_seq' ?_
  refine W_region (by kernel_rfl) ?_
  refine vl_n ?_
  refine H_of_R (R_assign (v := (.slice none 0 0)) rfl ?_)
  refine vl_e ?_
  refine WPc_seq (fun e h => s_WSet.j1 (e 5) (e 6) (e 7) h Q) ?_ (fun e h H => ?_)
  rotate_left
  · unfold s_WSet.j1 at H
    refine WPc_seq' ?_
    refine W_region (by kernel_rfl) ?_
    refine vl_n ?_
    refine H_of_R (R_move (v := (e 5)) rfl ?_)
    refine vl_n ?_
    refine H_of_R (R_move (v := (e 7)) rfl ?_)
    refine vl_n ?_
    refine H_of_R (R_move (v := (e 6)) rfl ?_)
    refine vl_n ?_
    refine H_of_R (R_assign (v := (e 5)) rfl ?_)
    refine vl_n ?_
    refine H_of_R (R_assign (v := (e 7)) rfl ?_)
    refine vl_n ?_
    refine H_of_R (R_assign (v := (e 6)) rfl ?_)
    refine vl_e ?_
    refine WPc_ret ?_
    refine resH_of rfl ?_
    exact H
  refine WPc_seq' ?_
  refine W_region (by kernel_rfl) ?_
  refine vl_n ?_
  refine H_of_R (R_move (v := a0) rfl ?_)
  refine vl_n ?_
  refine H_of_R (R_len Try.underlying33 H fun t15 H => ?_)
  refine vl_n ?_
  refine H_of_R (R_move (v := (.int .i64 0)) rfl ?_)
  refine vl_e ?_
  refine WPc_block ?_
  refine loop_at (fun e => [e 5, e 6, e 7, e 16]) (fun e => [e 14, e 15]) H rfl rfl ?_
  intro K1 e1 h H hin1
  replace H : s_WSet.l2.b (e1 14) (e1 15) (e1 5) (e1 6) (e1 7) (e1 16) h K1 Q := H
  unfold s_WSet.l2.b at H
  clear hin1
  refine WPc_seq' ?_
  refine W_region (by kernel_rfl) ?_
  refine vl_n ?_
  refine H_of_R (R_lss H fun t17 H => ?_)
  refine vl_e ?_
  refine WPc_seq (fun e h => s_WSet.j3 (e 5) (e 6) (e 7) (e 14) (e 15) (e 16) h K1 Q ∧ [e1 14, e1 15] = [e 14, e 15]) ?_ (fun e h ⟨H, hq1⟩ => ?_)
  rotate_left
  · unfold s_WSet.j3 at H
    refine WPc_seq (fun e h => s_WSet.j4 (e 5) (e 6) (e 7) (e 14) (e 15) (e 16) h K1 Q ∧ [e1 14, e1 15] = [e 14, e 15]) ?_ (fun e h ⟨H, hq1⟩ => ?_)
    rotate_left
    · unfold s_WSet.j4 at H
      refine W_region (by kernel_rfl) ?_
      refine vl_n ?_
      refine H_of_R (R_add H fun t61 H => ?_)
      refine vl_n ?_
      refine H_of_R (R_move (v := t61) rfl ?_)
      refine vl_e ?_
      exact ⟨H, hq1⟩
    refine WPc_block ?_
    refine WPc_seq' ?_
    refine W_region (by kernel_rfl) ?_
    refine vl_n ?_
    refine H_of_R (R_idx TE_33 H fun t18 H => ?_)
    refine vl_n ?_
    refine H_of_R (R_loadN TN_50 H fun _ t19 _ _ H _ _ => ?_)
    refine vl_n ?_
    refine H_alloc TV_50 H fun t9 h H => ?_
    refine vl_n ?_
    refine H_storeN TS_50 H fun h H => ?_
    refine vl_e ?_
    refine WPc_seq' ?_
    refine W_region (by kernel_rfl) ?_
    refine vl_n ?_
    refine H_of_R (R_move (v := (e 6)) rfl ?_)
    refine vl_n ?_
    refine H_of_R (R_fld TF_50_0 H fun t22 H => ?_)
    refine vl_n ?_
    refine H_of_R (R_load1 T1_9 H fun _ t23 _ _ H => ?_)
    refine vl_n ?_
    refine H_call HB_36 H fun t24 h H => ?_
    refine vl_n ?_
    refine H_of_R (R_move (v := t24) rfl ?_)
    refine vl_n ?_
    refine H_of_R (R_ext H fun t25 H => ?_)
    refine vl_n ?_
    refine H_of_R (R_ext H fun t26 H => ?_)
    refine vl_n ?_
    refine H_of_R (R_assign (v := t25) rfl ?_)
    refine vl_n ?_
    refine H_of_R (R_assign (v := t26) rfl ?_)
    refine vl_e ?_
    refine WPc_seq' ?_
    refine W_region (by kernel_rfl) ?_
    refine vl_n ?_
    refine H_of_R (R_fld TF_50_0 H fun t27 H => ?_)
    refine vl_n ?_
    refine H_of_R (R_load1 T1_9 H fun _ t28 _ _ H => ?_)
    refine vl_n ?_
    refine H_of_R (R_build TB_50 rfl (by decide) H fun t29 H => ?_)
    refine vl_n ?_
    refine H_alloc TV_50 H fun t12 h H => ?_
    refine vl_n ?_
    refine H_storeN TS_50 H fun h H => ?_
    refine vl_e ?_
    refine WPc_seq' ?_
    refine W_region (by kernel_rfl) ?_
    refine vl_n ?_
    refine H_mkSl TZ_33 (by decide) rfl H rfl fun t30 h H => ?_
    refine vl_n ?_
    refine H_of_R (R_move (v := (e 6)) rfl ?_)
    refine vl_n ?_
    refine H_of_R (R_move (v := t25) rfl ?_)
    refine vl_n ?_
    refine H_of_R (R_slice TE_33 (by decide) H fun t33 H => ?_)
    refine vl_n ?_
    refine H_app TZ_33 TU_33 H fun t34 h H => ?_
    refine vl_n ?_
    refine H_of_R (R_assign (v := t34) rfl ?_)
    refine vl_e ?_
    refine WPc_seq' ?_
    refine W_region (by kernel_rfl) ?_
    refine vl_n ?_
    refine H_of_R (R_move (v := t34) rfl ?_)
    refine vl_n ?_
    refine H_of_R (R_loadN TN_50 H fun _ t36 _ _ H _ _ => ?_)
    refine vl_n ?_
    refine H_mkSl TZ_33 (by decide) rfl H rfl fun t37 h H => ?_
    refine vl_n ?_
    refine H_app TZ_33 TU_33 H fun t38 h H => ?_
    refine vl_n ?_
    refine H_of_R (R_assign (v := t38) rfl ?_)
    refine vl_e ?_
    refine WPc_seq (fun e h => s_WSet.j5 (e 5) (e 6) (e 7) (e 10) (e 11) (e 12) (e 13) (e 14) (e 15) (e 16) h K1 Q ∧ [e1 14, e1 15] = [e 14, e 15]) ?_ (fun e h ⟨H, hq1⟩ => ?_)
    rotate_left
    · unfold s_WSet.j5 at H
      refine WPc_seq' ?_
      refine W_region (by kernel_rfl) ?_
      refine vl_n ?_
      refine H_of_R (R_move (v := (e 13)) rfl ?_)
      refine vl_n ?_
      refine H_of_R (R_move (v := (e 6)) rfl ?_)
      refine vl_n ?_
      refine H_of_R (R_move (v := (e 10)) rfl ?_)
      refine vl_n ?_
      refine H_of_R (R_slice TE_33 (by decide) H fun t51 H => ?_)
      refine vl_n ?_
      refine H_app TZ_33 TU_33 H fun t52 h H => ?_
      refine vl_n ?_
      refine H_of_R (R_assign (v := t52) rfl ?_)
      refine vl_e ?_
      refine W_region (by kernel_rfl) ?_
      refine vl_n ?_
      refine H_of_R (R_move (v := (e 5)) rfl ?_)
      refine vl_n ?_
      refine H_of_R (R_loadN TN_50 H fun _ t54 _ _ H _ _ => ?_)
      refine vl_n ?_
      refine H_mkSl TZ_33 (by decide) rfl H rfl fun t55 h H => ?_
      refine vl_n ?_
      refine H_app TZ_33 TU_33 H fun t56 h H => ?_
      refine vl_n ?_
      refine H_of_R (R_move (v := (e 7)) rfl ?_)
      refine vl_n ?_
      refine H_of_R (R_move (v := (e 11)) rfl ?_)
      refine vl_n ?_
      refine H_mkSl TZ_73 (by decide) rfl H rfl fun t59 h H => ?_
      refine vl_n ?_
      refine H_app TZ_73 TU_73 H fun t60 h H => ?_
      refine vl_n ?_
      refine H_of_R (R_assign (v := t56) rfl ?_)
      refine vl_n ?_
      refine H_of_R (R_assign (v := t60) rfl ?_)
      refine vl_e ?_
      exact ⟨H, hq1⟩
    refine WPc_seq' ?_
    refine W_region (by kernel_rfl) ?_
    refine vl_n ?_
    refine H_of_R (R_move (v := t26) rfl ?_)
    refine vl_e ?_
    obtain ⟨b, hc, H1, H2⟩ := H
    refine WPc_cond hc (fun hh => ?_) (fun hh => ?_)
    · have H := H1 hh; clear H1 H2
      refine WPc_seq' ?_
      refine W_region (by kernel_rfl) ?_
      refine vl_n ?_
      refine H_of_R (R_move (v := (e 6)) rfl ?_)
      refine vl_n ?_
      refine H_of_R (R_move (v := t25) rfl ?_)
      refine vl_n ?_
      refine H_of_R (R_idx TE_33 H fun t42 H => ?_)
      refine vl_n ?_
      refine H_of_R (R_fld TF_50_1 H fun t43 H => ?_)
      refine vl_n ?_
      refine H_of_R (R_load1 T1_3 H fun _ t44 _ _ H => ?_)
      refine vl_n ?_
      refine H_of_R (R_fld TF_50_1 H fun t45 H => ?_)
      refine vl_n ?_
      refine H_store1 TS_3 H fun h H => ?_
      refine vl_e ?_
      refine W_region (by kernel_rfl) ?_
      refine vl_n ?_
      refine H_of_R (R_move (v := t25) rfl ?_)
      refine vl_n ?_
      refine H_of_R (R_add H fun t47 H => ?_)
      refine vl_n ?_
      refine H_of_R (R_assign (v := t47) rfl ?_)
      refine vl_e ?_
      exact ⟨H, hq1⟩
    · have H := H2 hh; clear H1 H2
      refine WPc_skip ?_
      exact ⟨H, hq1⟩
  obtain ⟨b, hc, H1, H2⟩ := H
  refine WPc_cond hc (fun hh => ?_) (fun hh => ?_)
  · have H := H1 hh; clear H1 H2
    refine WPc_skip ?_
    exact ⟨H, rfl⟩
  · have H := H2 hh; clear H1 H2
    refine WPc_exit ?_
    exact H
/-! ### spec.Words -/
def s_Words.sh (a0 : Value) (h : Heap) (Q : Value → Heap → Prop) : Prop :=
    s_WSet.call #[a0] h fun t8 h =>
    extr 0 t8 fun t9 =>
    extr 1 t8 fun t10 =>
    extr 2 t8 fun t11 =>
    Q t11 h
theorem s_Words.body (a0 : Value) (h : Heap) (Q : Value → Heap → Prop) (H : s_Words.sh a0 h Q) : s_Words.call #[a0] h Q := by
  refine callsH_of (args := [a0]) Try.func35 rfl rfl ?_
  unfold s_Words.sh at H
  refine WPc_seq' ?_
  refine W_region (by kernel_rfl) ?_
  refine vl_n ?_
  refine H_of_R (R_assign (v := (.slice none 0 0)) rfl ?_)
  refine vl_e ?_
  refine WPc_seq' ?_
  refine W_region (by kernel_rfl) ?_
  refine vl_n ?_
  refine H_of_R (R_move (v := a0) rfl ?_)
  refine vl_n ?_
  refine H_call HB_50 H fun t8 h H => ?_
  refine vl_n ?_
  refine H_of_R (R_move (v := t8) rfl ?_)
  refine vl_n ?_
  refine H_of_R (R_ext H fun t9 H => ?_)
  refine vl_n ?_
  refine H_of_R (R_ext H fun t10 H => ?_)
  refine vl_n ?_
  refine H_of_R (R_ext H fun t11 H => ?_)
  refine vl_n ?_
  refine H_of_R (R_assign (v := t9) rfl ?_)
  refine vl_n ?_
  refine H_of_R (R_assign (v := t10) rfl ?_)
  refine vl_n ?_
  refine H_of_R (R_assign (v := t11) rfl ?_)
  refine vl_e ?_
  refine WPc_seq' ?_
  refine W_region (by kernel_rfl) ?_
  refine vl_n ?_
  refine H_of_R (R_move (v := t11) rfl ?_)
  refine vl_n ?_
  refine H_of_R (R_assign (v := t11) rfl ?_)
  refine vl_e ?_
  refine WPc_ret ?_
  refine resH_of rfl ?_
  exact H
/-! ### spec.WKeys -/
def s_WKeys.j1 (s3 : Value) (h : Heap) (Q : Value → Heap → Prop) : Prop :=
    Q s3 h
def s_WKeys.j4 (s3 : Value) (s7 : Value) (s8 : Value) (s9 : Value) (h : Heap) (K1 : List Value → Heap → Prop) (Q : Value → Heap → Prop) : Prop :=
    arith (· + ·) s9 (.int .i64 1) fun t18 =>
    K1 [s3, t18] h
def s_WKeys.j3 (s3 : Value) (s7 : Value) (s8 : Value) (s9 : Value) (h : Heap) (K1 : List Value → Heap → Prop) (Q : Value → Heap → Prop) : Prop :=
    idx 2 s7 s9 fun t11 =>
    loadN 2 t11 h fun t12 =>
    alloc [(.string ⟨#[]⟩), (.int .i64 0)] 50 h fun t5 h =>
    storeN 2 t5 t12 h fun h =>
    fld 0 t5 fun t14 =>
    load1 t14 h fun t15 =>
    mkSl (if 1 * 1 = 0 then [] else zeros [(.string ⟨#[]⟩)] 1) 1 [(0 * 1, 1, t15)] 9 h fun t16 h =>
    app 9 1 16 [(.string ⟨#[]⟩)] s3 t16 h fun t17 h =>
    s_WKeys.j4 t17 s7 s8 s9 h K1 Q
def s_WKeys.l2.b (c7 : Value) (c8 : Value) (s3 : Value) (s9 : Value) (h : Heap) (K1 : List Value → Heap → Prop) (Q : Value → Heap → Prop) : Prop :=
    cmpI (fun a b => decide (a < b)) s9 c8 fun t10 =>
    ifV t10
    (s_WKeys.j3 s3 c7 c8 s9 h K1 Q)
    (s_WKeys.j1 s3 h Q)
def s_WKeys.sh (a0 : Value) (h : Heap) (Q : Value → Heap → Prop) : Prop :=
    s_Words.call #[a0] h fun t7 h =>
    lenV t7 fun t8 =>
    loopC (fun c s h K1 => s_WKeys.l2.b (c.getD 0 undef) (c.getD 1 undef) (s.getD 0 undef) (s.getD 1 undef) h K1 Q) [t7, t8] [(.slice none 0 0), (.int .i64 0)] h
theorem s_WKeys.body (a0 : Value) (h : Heap) (Q : Value → Heap → Prop) (H : s_WKeys.sh a0 h Q) : s_WKeys.call #[a0] h Q := by
  refine callsH_of (args := [a0]) Try.func29 rfl rfl ?_
  unfold s_WKeys.sh at H
  refine WPc_seq' ?_
  refine W_region (by kernel_rfl) ?_
  refine vl_n ?_
  refine H_of_R (R_assign (v := (.slice none 0 0)) rfl ?_)
  refine vl_e ?_
  refine WPc_seq' ?_
  refine W_region (by kernel_rfl) ?_
  refine vl_n ?_
  refine H_of_R (R_assign (v := (.slice none 0 0)) rfl ?_)
  refine vl_e ?_
  refine WPc_seq (fun e h => s_WKeys.j1 (e 3) h Q) ?_ (fun e h H => ?_)
  rotate_left
  · unfold s_WKeys.j1 at H
    refine WPc_seq' ?_
    refine W_region (by kernel_rfl) ?_
    refine vl_n ?_
    refine H_of_R (R_move (v := (e 3)) rfl ?_)
    refine vl_n ?_
    refine H_of_R (R_assign (v := (e 3)) rfl ?_)
    refine vl_e ?_
    refine WPc_ret ?_
    refine resH_of rfl ?_
    exact H
  refine WPc_seq' ?_
  refine W_region (by kernel_rfl) ?_
  refine vl_n ?_
  refine H_of_R (R_move (v := a0) rfl ?_)
  refine vl_n ?_
  refine H_call HB_35 H fun t7 h H => ?_
  refine vl_n ?_
  refine H_of_R (R_len Try.underlying33 H fun t8 H => ?_)
  refine vl_n ?_
  refine H_of_R (R_move (v := (.int .i64 0)) rfl ?_)
  refine vl_e ?_
  refine WPc_block ?_
  refine loop_at (fun e => [e 3, e 9]) (fun e => [e 7, e 8]) H rfl rfl ?_
  intro K1 e1 h H hin1
  replace H : s_WKeys.l2.b (e1 7) (e1 8) (e1 3) (e1 9) h K1 Q := H
  unfold s_WKeys.l2.b at H
  clear hin1
  refine WPc_seq' ?_
  refine W_region (by kernel_rfl) ?_
  refine vl_n ?_
  refine H_of_R (R_lss H fun t10 H => ?_)
  refine vl_e ?_
  refine WPc_seq (fun e h => s_WKeys.j3 (e 3) (e 7) (e 8) (e 9) h K1 Q ∧ [e1 7, e1 8] = [e 7, e 8]) ?_ (fun e h ⟨H, hq1⟩ => ?_)
  rotate_left
  · unfold s_WKeys.j3 at H
    refine WPc_seq (fun e h => s_WKeys.j4 (e 3) (e 7) (e 8) (e 9) h K1 Q ∧ [e1 7, e1 8] = [e 7, e 8]) ?_ (fun e h ⟨H, hq1⟩ => ?_)
    rotate_left
    · unfold s_WKeys.j4 at H
      refine W_region (by kernel_rfl) ?_
      refine vl_n ?_
      refine H_of_R (R_add H fun t18 H => ?_)
      refine vl_n ?_
      refine H_of_R (R_move (v := t18) rfl ?_)
      refine vl_e ?_
      exact ⟨H, hq1⟩
    refine WPc_block ?_
    refine WPc_seq' ?_
    refine W_region (by kernel_rfl) ?_
    refine vl_n ?_
    refine H_of_R (R_idx TE_33 H fun t11 H => ?_)
    refine vl_n ?_
    refine H_of_R (R_loadN TN_50 H fun _ t12 _ _ H _ _ => ?_)
    refine vl_n ?_
    refine H_alloc TV_50 H fun t5 h H => ?_
    refine vl_n ?_
    refine H_storeN TS_50 H fun h H => ?_
    refine vl_e ?_
    refine W_region (by kernel_rfl) ?_
    refine vl_n ?_
    refine H_of_R (R_move (v := (e 3)) rfl ?_)
    refine vl_n ?_
    refine H_of_R (R_fld TF_50_0 H fun t14 H => ?_)
    refine vl_n ?_
    refine H_of_R (R_load1 T1_9 H fun _ t15 _ _ H => ?_)
    refine vl_n ?_
    refine H_mkSl TZ_22 (by decide) rfl H rfl fun t16 h H => ?_
    refine vl_n ?_
    refine H_app TZ_22 TU_22 H fun t17 h H => ?_
    refine vl_n ?_
    refine H_of_R (R_assign (v := t17) rfl ?_)
    refine vl_e ?_
    exact ⟨H, hq1⟩
  obtain ⟨b, hc, H1, H2⟩ := H
  refine WPc_cond hc (fun hh => ?_) (fun hh => ?_)
  · have H := H1 hh; clear H1 H2
    refine WPc_skip ?_
    exact ⟨H, rfl⟩
  · have H := H2 hh; clear H1 H2
    refine WPc_exit ?_
    exact H
/-! ### spec.TKeys -/
def s_TKeys.sh (a0 : Value) (h : Heap) (Q : Value → Heap → Prop) : Prop :=
    s_Named.call #[a0] h fun t4 h =>
    s_WKeys.call #[t4] h fun t5 h =>
    Q t5 h
theorem s_TKeys.body (a0 : Value) (h : Heap) (Q : Value → Heap → Prop) (H : s_TKeys.sh a0 h Q) : s_TKeys.call #[a0] h Q := by
  refine callsH_of (args := [a0]) Try.func14 rfl rfl ?_
  unfold s_TKeys.sh at H
  refine WPc_seq' ?_
  refine W_region (by kernel_rfl) ?_
  refine vl_n ?_
  refine H_of_R (R_assign (v := (.slice none 0 0)) rfl ?_)
  refine vl_e ?_
  refine WPc_seq' ?_
  refine W_region (by kernel_rfl) ?_
  refine vl_n ?_
  refine H_of_R (R_move (v := a0) rfl ?_)
  refine vl_n ?_
  refine H_call HB_21 H fun t4 h H => ?_
  refine vl_n ?_
  refine H_call HB_29 H fun t5 h H => ?_
  refine vl_n ?_
  refine H_of_R (R_assign (v := t5) rfl ?_)
  refine vl_e ?_
  refine WPc_ret ?_
  refine resH_of rfl ?_
  exact H
/-! ### cmp.isNaN[string] -/
def cmp_isNaN_s.sh (a0 : Value) (h : Heap) (Q : Value → Heap → Prop) : Prop :=
    cmpS (fun _ eq => !eq) a0 a0 fun t5 =>
    Q t5 h
theorem cmp_isNaN_s.body (a0 : Value) (h : Heap) (Q : Value → Heap → Prop) (H : cmp_isNaN_s.sh a0 h Q) : cmp_isNaN_s.call #[a0] h Q := by
  refine callsH_of (args := [a0]) Try.func61 rfl rfl ?_
  unfold cmp_isNaN_s.sh at H
  refine WPc_seq' ?_
  refine W_region (by kernel_rfl) ?_
  refine vl_n ?_
  refine H_of_R (R_assign (v := (.bool false)) rfl ?_)
  refine vl_e ?_
  refine WPc_seq' ?_
  refine W_region (by kernel_rfl) ?_
  refine vl_n ?_
  refine H_of_R (R_move (v := a0) rfl ?_)
  refine vl_n ?_
  refine H_of_R (R_move (v := a0) rfl ?_)
  refine vl_n ?_
  refine H_of_R (R_neS H fun t5 H => ?_)
  refine vl_n ?_
  refine H_of_R (R_assign (v := t5) rfl ?_)
  refine vl_e ?_
  refine WPc_ret ?_
  refine resH_of rfl ?_
  exact H
/-! ### cmp.Less[string] -/
def cmp_Less_s.sh (a0 : Value) (a1 : Value) (h : Heap) (Q : Value → Heap → Prop) : Prop :=
    cmp_isNaN_s.call #[a0] h fun t6 h =>
    br t6 true (cmp_isNaN_s.call #[a1] h fun t9 h =>
    notV t9 fun t10 =>
    br t10 false (cmpS (fun lt _ => lt) a0 a1 fun t15_2 =>
    Q t15_2 h) (Q (.bool true) h)) (cmpS (fun lt _ => lt) a0 a1 fun t15 =>
    Q t15 h)
theorem cmp_Less_s.body (a0 : Value) (a1 : Value) (h : Heap) (Q : Value → Heap → Prop) (H : cmp_Less_s.sh a0 a1 h Q) : cmp_Less_s.call #[a0, a1] h Q := by
  refine callsH_of (args := [a0, a1]) Try.func45 rfl rfl ?_
  unfold cmp_Less_s.sh at H
  refine WPc_seq' ?_
  refine W_region (by kernel_rfl) ?_
  refine vl_n ?_
  refine H_of_R (R_assign (v := (.bool false)) rfl ?_)
  refine vl_e ?_
  refine WPc_seq' ?_
  refine W_region (by kernel_rfl) ?_
  refine vl_n ?_
  refine H_of_R (R_move (v := a0) rfl ?_)
  refine vl_n ?_
  refine H_call HB_61 H fun t6 h H => ?_
  refine vl_n ?_
  refine H_of_R (R_move (v := t6) rfl ?_)
  obtain ⟨b, hb, H1, H2⟩ := H
  cases b
  · have H := H2 rfl; clear H1 H2
    refine vl_s rfl (nbT hb) ?_
    refine vl_s rfl (nbT hb) ?_
    refine vl_s rfl (nbT hb) ?_
    refine vl_n ?_
    refine H_of_R (R_pickC (v := (.bool false)) false hb rfl ?_)
    refine vl_n ?_
    refine H_of_R (R_move (v := (.bool false)) rfl ?_)
    refine vl_y rfl rfl ?_
    refine H_of_R (R_move (v := a0) rfl ?_)
    refine vl_y rfl rfl ?_
    refine H_of_R (R_move (v := a1) rfl ?_)
    refine vl_y rfl rfl ?_
    refine H_of_R (R_lssS H fun t15 H => ?_)
    refine vl_n ?_
    refine H_of_R (R_pickC (v := t15) false rfl rfl ?_)
    refine vl_n ?_
    refine H_of_R (R_assign (v := t15) rfl ?_)
    refine vl_e ?_
    refine WPc_ret ?_
    refine resH_of rfl ?_
    exact H
  · have H := H1 rfl; clear H1 H2
    refine vl_y rfl hb ?_
    refine H_of_R (R_move (v := a1) rfl ?_)
    refine vl_y rfl hb ?_
    refine H_call HB_61 H fun t9 h H => ?_
    refine vl_y rfl hb ?_
    refine H_of_R (R_not H fun t10 H => ?_)
    refine vl_n ?_
    refine H_of_R (R_pickC (v := t10) true hb rfl ?_)
    refine vl_n ?_
    refine H_of_R (R_move (v := t10) rfl ?_)
    obtain ⟨b_2, hb_2, H1, H2⟩ := H
    cases b_2
    · have H := H1 rfl; clear H1 H2
      refine vl_y rfl hb_2 ?_
      refine H_of_R (R_move (v := a0) rfl ?_)
      refine vl_y rfl hb_2 ?_
      refine H_of_R (R_move (v := a1) rfl ?_)
      refine vl_y rfl hb_2 ?_
      refine H_of_R (R_lssS H fun t15_2 H => ?_)
      refine vl_n ?_
      refine H_of_R (R_pickC (v := t15_2) false hb_2 rfl ?_)
      refine vl_n ?_
      refine H_of_R (R_assign (v := t15_2) rfl ?_)
      refine vl_e ?_
      refine WPc_ret ?_
      refine resH_of rfl ?_
      exact H
    · have H := H2 rfl; clear H1 H2
      refine vl_s rfl (nbF hb_2) ?_
      refine vl_s rfl (nbF hb_2) ?_
      refine vl_s rfl (nbF hb_2) ?_
      refine vl_n ?_
      refine H_of_R (R_pickC (v := (.bool true)) true hb_2 rfl ?_)
      refine vl_n ?_
      refine H_of_R (R_assign (v := (.bool true)) rfl ?_)
      refine vl_e ?_
      refine WPc_ret ?_
      refine resH_of rfl ?_
      exact H
/-! ### slices.IsSorted[[]string,string] -/
def sl_IsSorted_ss.j1 (h : Heap) (Q : Value → Heap → Prop) : Prop :=
    Q (.bool true) h
def sl_IsSorted_ss.j4 (s0 : Value) (s3 : Value) (h : Heap) (K1 : List Value → Heap → Prop) (Q : Value → Heap → Prop) : Prop :=
    arith (· - ·) s3 (.int .i64 1) fun t10 =>
    K1 [t10] h
def sl_IsSorted_ss.j3 (s0 : Value) (s3 : Value) (h : Heap) (K1 : List Value → Heap → Prop) (Q : Value → Heap → Prop) : Prop :=
    idx 1 s0 s3 fun t13 =>
    load1 t13 h fun t14 =>
    arith (· - ·) s3 (.int .i64 1) fun t17 =>
    idx 1 s0 t17 fun t18 =>
    load1 t18 h fun t19 =>
    cmp_Less_s.call #[t14, t19] h fun t20 h =>
    ifV t20
    (Q (.bool false) h)
    (sl_IsSorted_ss.j4 s0 s3 h K1 Q)
def sl_IsSorted_ss.l2.b (c0 : Value) (s3 : Value) (h : Heap) (K1 : List Value → Heap → Prop) (Q : Value → Heap → Prop) : Prop :=
    cmpI (fun a b => decide (a > b)) s3 (.int .i64 0) fun t8 =>
    ifV t8
    (sl_IsSorted_ss.j3 c0 s3 h K1 Q)
    (sl_IsSorted_ss.j1 h Q)
def sl_IsSorted_ss.sh (a0 : Value) (h : Heap) (Q : Value → Heap → Prop) : Prop :=
    lenV a0 fun t5 =>
    arith (· - ·) t5 (.int .i64 1) fun t6 =>
    loopC (fun c s h K1 => sl_IsSorted_ss.l2.b (c.getD 0 undef) (s.getD 0 undef) h K1 Q) [a0] [t6] h
theorem sl_IsSorted_ss.body (a0 : Value) (h : Heap) (Q : Value → Heap → Prop) (H : sl_IsSorted_ss.sh a0 h Q) : sl_IsSorted_ss.call #[a0] h Q := by
  refine callsH_of (args := [a0]) Try.func31 rfl rfl ?_
  unfold sl_IsSorted_ss.sh at H
  refine WPc_seq' ?_
  refine W_region (by kernel_rfl) ?_
  refine vl_n ?_
  refine H_of_R (R_assign (v := (.bool false)) rfl ?_)
  refine vl_e ?_
  refine WPc_seq (fun e h => sl_IsSorted_ss.j1 h Q) ?_ (fun e h H => ?_)
  rotate_left
  · unfold sl_IsSorted_ss.j1 at H
    refine WPc_seq' ?_
    refine W_region (by kernel_rfl) ?_
    refine vl_n ?_
    refine H_of_R (R_assign (v := (.bool true)) rfl ?_)
    refine vl_e ?_
    refine WPc_ret ?_
    refine resH_of rfl ?_
    exact H
  refine WPc_seq' ?_
  refine W_region (by kernel_rfl) ?_
  refine vl_n ?_
  refine H_of_R (R_move (v := a0) rfl ?_)
  refine vl_n ?_
  refine H_of_R (R_len Try.underlying22 H fun t5 H => ?_)
  refine vl_n ?_
  refine H_of_R (R_sub H fun t6 H => ?_)
  refine vl_n ?_
  refine H_of_R (R_assign (v := t6) rfl ?_)
  refine vl_e ?_
  refine WPc_block ?_
  refine loop_at (fun e => [e 3]) (fun e => [e 0]) H rfl rfl ?_
  intro K1 e1 h H hin1
  replace H : sl_IsSorted_ss.l2.b (e1 0) (e1 3) h K1 Q := H
  unfold sl_IsSorted_ss.l2.b at H
  clear hin1
  refine WPc_seq (fun e h => sl_IsSorted_ss.j3 (e 0) (e 3) h K1 Q ∧ [e1 0] = [e 0]) ?_ (fun e h ⟨H, hq1⟩ => ?_)
  rotate_left
  · unfold sl_IsSorted_ss.j3 at H
    refine WPc_seq (fun e h => sl_IsSorted_ss.j4 (e 0) (e 3) h K1 Q ∧ [e1 0] = [e 0]) ?_ (fun e h ⟨H, hq1⟩ => ?_)
    rotate_left
    · unfold sl_IsSorted_ss.j4 at H
      refine W_region (by kernel_rfl) ?_
      refine vl_n ?_
      refine H_of_R (R_move (v := (e 3)) rfl ?_)
      refine vl_n ?_
      refine H_of_R (R_sub H fun t10 H => ?_)
      refine vl_n ?_
      refine H_of_R (R_assign (v := t10) rfl ?_)
      refine vl_e ?_
      exact ⟨H, hq1⟩
    refine WPc_block ?_
    refine WPc_seq' ?_
    refine W_drawn [0, 0, 3, 7, 0, 0, 32, 112, 240, 511] (.take 0 (.take 1 (.take 2 (.take 3 (.take 4 (.take 5 (.take 6 (.take 7 (.take 8 (.alt 9 .done .none)))))))))) mixed (by kernel_rfl) ?_
    refine tkP rfl ?_
    refine R_move (v := (e 0)) rfl ⟨fun _ => trivial, ?_⟩
    refine tkP rfl ?_
    refine R_move (v := (e 3)) rfl ⟨fun _ => trivial, ?_⟩
    refine tkP rfl ?_
    refine R_idx TE_22 H fun t13 H => ⟨fun _ => trivial, ?_⟩
    refine tkL rfl ?_
    refine R_load1 T1_9 H fun at14 t14 hat14 _ H => ?_
    refine tkP rfl ?_
    refine R_move (v := (e 0)) rfl ⟨fun _ => trivial, ?_⟩
    refine tkP rfl ?_
    refine R_move (v := (e 3)) rfl ⟨fun _ => trivial, ?_⟩
    refine tkP rfl ?_
    refine R_sub H fun t17 H => ⟨fun _ => trivial, ?_⟩
    refine tkP rfl ?_
    refine R_idx TE_22 H fun t18 H => ⟨fun _ => trivial, ?_⟩
    refine tkL rfl ?_
    refine R_load1 T1_9 H fun at19 t19 hat19 _ H => ?_
    refine alt_n rfl ?_ vp_none
    refine H_call HB_45 H fun t20 h H => ⟨(hskip rfl (hskip rfl hnil)), ?_⟩
    refine vp_done ?_
    obtain ⟨b, hc, H1, H2⟩ := H
    refine WPc_cond hc (fun hh => ?_) (fun hh => ?_)
    · have H := H1 hh; clear H1 H2
      refine WPc_seq' ?_
      refine W_region (by kernel_rfl) ?_
      refine vl_n ?_
      refine H_of_R (R_assign (v := (.bool false)) rfl ?_)
      refine vl_e ?_
      refine WPc_ret ?_
      refine resH_of rfl ?_
      exact H
    · have H := H2 hh; clear H1 H2
      refine WPc_skip ?_
      exact ⟨H, hq1⟩
  refine WPc_seq' ?_
  refine W_region (by kernel_rfl) ?_
  refine vl_n ?_
  refine H_of_R (R_move (v := (e1 3)) rfl ?_)
  refine vl_n ?_
  refine H_of_R (R_gtr H fun t8 H => ?_)
  refine vl_e ?_
  obtain ⟨b, hc, H1, H2⟩ := H
  refine WPc_cond hc (fun hh => ?_) (fun hh => ?_)
  · have H := H1 hh; clear H1 H2
    refine WPc_skip ?_
    exact ⟨H, rfl⟩
  · have H := H2 hh; clear H1 H2
    refine WPc_exit ?_
    exact H
/-! ### laws.rises -/
def l_rises.sh (a0 : Value) (h : Heap) (Q : Value → Heap → Prop) : Prop :=
    sl_IsSorted_ss.call #[a0] h fun t4 h =>
    Q t4 h
theorem l_rises.body (a0 : Value) (h : Heap) (Q : Value → Heap → Prop) (H : l_rises.sh a0 h Q) : l_rises.call #[a0] h Q := by
  refine callsH_of (args := [a0]) Try.func16 rfl rfl ?_
  unfold l_rises.sh at H
  refine WPc_seq' ?_
  refine W_region (by kernel_rfl) ?_
  refine vl_n ?_
  refine H_of_R (R_assign (v := (.bool false)) rfl ?_)
  refine vl_e ?_
  refine WPc_seq' ?_
  refine W_region (by kernel_rfl) ?_
  refine vl_n ?_
  refine H_of_R (R_move (v := a0) rfl ?_)
  refine vl_n ?_
  refine H_call HB_31 H fun t4 h H => ?_
  refine vl_n ?_
  refine H_of_R (R_assign (v := t4) rfl ?_)
  refine vl_e ?_
  refine WPc_ret ?_
  refine resH_of rfl ?_
  exact H

end Go.Proofs.Ytfojeibloilneaa
