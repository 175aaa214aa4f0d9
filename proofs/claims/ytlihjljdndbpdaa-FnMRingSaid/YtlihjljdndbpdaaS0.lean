/-
  Shallow forms of the walked functions, and that each call comes to its form. Written by a program of this repo (gen.py). Conditions: none.
-/
import Derived.Test.YtlihjljdndbpdaaST
namespace Go.Proofs.Ytlihjljdndbpdaa
open Go.Hp
set_option maxRecDepth 100000
set_option maxHeartbeats 8000000
set_option linter.unusedVariables false
set_option linter.unusedSimpArgs false

/-! ### laws.zzFits3 -/
def l_zzFits3.j2 (h : Heap) (Q : Value → Heap → Prop) : Prop :=
    Q (.bool true) h
def l_zzFits3.j1 (s1 : Value) (h : Heap) (Q : Value → Heap → Prop) : Prop :=
    fld 1 s1 fun t7 =>
    load1 t7 h fun t8 =>
    lenV t8 fun t9 =>
    cmpI (fun a b => decide (a > b)) t9 (.int .i64 2147483647) fun t10 =>
    ifV t10
    (Q (.bool false) h)
    (l_zzFits3.j2 h Q)
def l_zzFits3.sh (a0 : Value) (h : Heap) (Q : Value → Heap → Prop) : Prop :=
    box 25 a0 h fun t1 h =>
    fld 0 t1 fun t3 =>
    load1 t3 h fun t4 =>
    lenV t4 fun t5 =>
    cmpI (fun a b => decide (a > b)) t5 (.int .i64 2147483647) fun t6 =>
    ifV t6
    (Q (.bool false) h)
    (l_zzFits3.j1 t1 h Q)
theorem l_zzFits3.body (a0 : Value) (h : Heap) (Q : Value → Heap → Prop) (H : l_zzFits3.sh a0 h Q) : l_zzFits3.call #[a0] h Q := by
  refine callsH_of (args := [a0]) Try.func12 rfl rfl ?_
  unfold l_zzFits3.sh at H
  refine WPc_seq' ?_
  refine W_region (by kernel_rfl) ?_
  refine vl_n ?_
  refine H_box H fun t1 h H => ?_
  refine vl_n ?_
  refine H_of_R (R_assign (v := (.bool false)) rfl ?_)
  refine vl_e ?_
  refine WPc_seq (fun e h => l_zzFits3.j1 (e 1) h Q) ?_ (fun e h H => ?_)
  rotate_left
  · unfold l_zzFits3.j1 at H
    refine WPc_seq (fun e h => l_zzFits3.j2 h Q) ?_ (fun e h H => ?_)
    rotate_left
    · unfold l_zzFits3.j2 at H
      refine WPc_seq' ?_
      refine W_region (by kernel_rfl) ?_
      refine vl_n ?_
      refine H_of_R (R_assign (v := (.bool true)) rfl ?_)
      refine vl_e ?_
      refine WPc_ret ?_
      refine resH_of rfl ?_
      exact H
    refine WPc_seq' ?_
    refine W_region (by kernel_rfl) ?_
    refine vl_n ?_
    refine H_of_R (R_fld TF_25_1 H fun t7 H => ?_)
    refine vl_n ?_
    refine H_of_R (R_load1 T1_23 H fun _ t8 _ _ H => ?_)
    refine vl_n ?_
    refine H_of_R (R_len Try.underlying23 H fun t9 H => ?_)
    refine vl_n ?_
    refine H_of_R (R_gtr H fun t10 H => ?_)
    refine vl_e ?_
    obtain ⟨b, hc, H1, H2⟩ := H
    refine WPc_cond hc (fun hh => ?_) (fun hh => ?_)
    · have H := H1 hh; clear H1 H2
      refine WPc_seq' ?_
      refine W_region (by kernel_rfl) ?_
      refine vl_n ?_
      refine H_of_R (R_assign (v := (.bool false)) rfl ?_)
      refine vl_e ?_
      refine WPc_ret ?_
      refine resH_of rfl ?_
      exact H
    · have H := H2 hh; clear H1 H2
      refine WPc_skip ?_
      exact H
  refine WPc_seq' ?_
  refine W_region (by kernel_rfl) ?_
  refine vl_n ?_
  refine H_of_R (R_fld TF_25_0 H fun t3 H => ?_)
  refine vl_n ?_
  refine H_of_R (R_load1 T1_22 H fun _ t4 _ _ H => ?_)
  refine vl_n ?_
  refine H_of_R (R_len Try.underlying22 H fun t5 H => ?_)
  refine vl_n ?_
  refine H_of_R (R_gtr H fun t6 H => ?_)
  refine vl_e ?_
  obtain ⟨b, hc, H1, H2⟩ := H
  refine WPc_cond hc (fun hh => ?_) (fun hh => ?_)
  · have H := H1 hh; clear H1 H2
    refine WPc_seq' ?_
    refine W_region (by kernel_rfl) ?_
    refine vl_n ?_
    refine H_of_R (R_assign (v := (.bool false)) rfl ?_)
    refine vl_e ?_
    refine WPc_ret ?_
    refine resH_of rfl ?_
    exact H
  · have H := H2 hh; clear H1 H2
    refine WPc_skip ?_
    exact H
/-! ### spec.Fits -/
def s_Fits.sh (a0 : Value) (h : Heap) (Q : Value → Heap → Prop) : Prop :=
    cmpI (fun a b => a == b) a0 (.int .i64 0) fun t4 =>
    br t4 false (cmpI (fun a b => decide (a ≥ b)) a0 (.int .i64 2) fun t7 =>
    br t7 true (cmpI (fun a b => decide (a ≤ b)) a0 (.int .i64 128) fun t10 =>
    Q t10 h) (Q (.bool false) h)) (Q (.bool true) h)
theorem s_Fits.body (a0 : Value) (h : Heap) (Q : Value → Heap → Prop) (H : s_Fits.sh a0 h Q) : s_Fits.call #[a0] h Q := by
  refine callsH_of (args := [a0]) Try.func73 rfl rfl ?_
  unfold s_Fits.sh at H
  refine WPc_seq' ?_
  refine W_region (by kernel_rfl) ?_
  refine vl_n ?_
  refine H_of_R (R_assign (v := (.bool false)) rfl ?_)
  refine vl_e ?_
  refine WPc_seq' ?_
  refine W_region (by kernel_rfl) ?_
  refine vl_n ?_
  refine H_of_R (R_move (v := a0) rfl ?_)
  refine vl_n ?_
  refine H_of_R (R_eqI H fun t4 H => ?_)
  refine vl_n ?_
  refine H_of_R (R_move (v := t4) rfl ?_)
  obtain ⟨b, hb, H1, H2⟩ := H
  cases b
  · have H := H1 rfl; clear H1 H2
    refine vl_y rfl hb ?_
    refine H_of_R (R_move (v := a0) rfl ?_)
    refine vl_y rfl hb ?_
    refine H_of_R (R_geq H fun t7 H => ?_)
    refine vl_y rfl hb ?_
    refine H_of_R (R_move (v := t7) rfl ?_)
    obtain ⟨b_2, hb_2, H1, H2⟩ := H
    cases b_2
    · have H := H2 rfl; clear H1 H2
      refine vl_s rfl (nbT hb_2) ?_
      refine vl_s rfl (nbT hb_2) ?_
      refine vl_y rfl hb ?_
      refine H_of_R (R_pickC (v := (.bool false)) false hb_2 rfl ?_)
      refine vl_n ?_
      refine H_of_R (R_pickC (v := (.bool false)) false hb rfl ?_)
      refine vl_n ?_
      refine H_of_R (R_assign (v := (.bool false)) rfl ?_)
      refine vl_e ?_
      refine WPc_ret ?_
      refine resH_of rfl ?_
      exact H
    · have H := H1 rfl; clear H1 H2
      refine vl_y rfl hb_2 ?_
      refine H_of_R (R_move (v := a0) rfl ?_)
      refine vl_y rfl hb_2 ?_
      refine H_of_R (R_leq H fun t10 H => ?_)
      refine vl_y rfl hb ?_
      refine H_of_R (R_pickC (v := t10) true hb_2 rfl ?_)
      refine vl_n ?_
      refine H_of_R (R_pickC (v := t10) false hb rfl ?_)
      refine vl_n ?_
      refine H_of_R (R_assign (v := t10) rfl ?_)
      refine vl_e ?_
      refine WPc_ret ?_
      refine resH_of rfl ?_
      exact H
  · have H := H2 rfl; clear H1 H2
    refine vl_s rfl (nbF hb) ?_
    refine vl_s rfl (nbF hb) ?_
    refine vl_s rfl (nbF hb) ?_
    refine vl_s rfl nbU ?_
    refine vl_s rfl nbU ?_
    refine vl_s rfl (nbF hb) ?_
    refine vl_n ?_
    refine H_of_R (R_pickC (v := (.bool true)) true hb rfl ?_)
    refine vl_n ?_
    refine H_of_R (R_assign (v := (.bool true)) rfl ?_)
    refine vl_e ?_
    refine WPc_ret ?_
    refine resH_of rfl ?_
    exact H
/-! ### laws.fit -/
def l_fit.sh (a0 : Value) (h : Heap) (Q : Value → Heap → Prop) : Prop :=
    cmpI (fun a b => decide (a > b)) a0 (.int .i64 0) fun t4 =>
    br t4 true (s_Fits.call #[a0] h fun t7 h =>
    Q t7 h) (Q (.bool false) h)
theorem l_fit.body (a0 : Value) (h : Heap) (Q : Value → Heap → Prop) (H : l_fit.sh a0 h Q) : l_fit.call #[a0] h Q := by
  refine callsH_of (args := [a0]) Try.func25 rfl rfl ?_
  unfold l_fit.sh at H
  refine WPc_seq' ?_
  refine W_region (by kernel_rfl) ?_
  refine vl_n ?_
  refine H_of_R (R_assign (v := (.bool false)) rfl ?_)
  refine vl_e ?_
  refine WPc_seq' ?_
  refine W_region (by kernel_rfl) ?_
  refine vl_n ?_
  refine H_of_R (R_move (v := a0) rfl ?_)
  refine vl_n ?_
  refine H_of_R (R_gtr H fun t4 H => ?_)
  refine vl_n ?_
  refine H_of_R (R_move (v := t4) rfl ?_)
  obtain ⟨b, hb, H1, H2⟩ := H
  cases b
  · have H := H2 rfl; clear H1 H2
    refine vl_s rfl (nbT hb) ?_
    refine vl_s rfl (nbT hb) ?_
    refine vl_n ?_
    refine H_of_R (R_pickC (v := (.bool false)) false hb rfl ?_)
    refine vl_n ?_
    refine H_of_R (R_assign (v := (.bool false)) rfl ?_)
    refine vl_e ?_
    refine WPc_ret ?_
    refine resH_of rfl ?_
    exact H
  · have H := H1 rfl; clear H1 H2
    refine vl_y rfl hb ?_
    refine H_of_R (R_move (v := a0) rfl ?_)
    refine vl_y rfl hb ?_
    refine H_call HB_73 H fun t7 h H => ?_
    refine vl_n ?_
    refine H_of_R (R_pickC (v := t7) true hb rfl ?_)
    refine vl_n ?_
    refine H_of_R (R_assign (v := t7) rfl ?_)
    refine vl_e ?_
    refine WPc_ret ?_
    refine resH_of rfl ?_
    exact H
/-! ### spec.NodeItems -/
def s_NodeItems.j1 (s3 : Value) (h : Heap) (Q : Value → Heap → Prop) : Prop :=
    Q s3 h
def s_NodeItems.j4 (s1 : Value) (s3 : Value) (s11 : Value) (s12 : Value) (h : Heap) (K1 : List Value → Heap → Prop) (Q : Value → Heap → Prop) : Prop :=
    arith (· + ·) s12 (.int .i64 1) fun t41 =>
    K1 [s3, t41] h
def s_NodeItems.j5 (s1 : Value) (s3 : Value) (s4 : Value) (s11 : Value) (s12 : Value) (h : Heap) (K1 : List Value → Heap → Prop) (Q : Value → Heap → Prop) : Prop :=
    fld 0 s1 fun t29 =>
    load1 t29 h fun t30 =>
    lenV t30 fun t31 =>
    cmpI (fun a b => decide (a < b)) s4 t31 fun t32 =>
    ifV t32
    (fld 0 s1 fun t34 =>
    load1 t34 h fun t35 =>
    idx 2 t35 s4 fun t37 =>
    loadN 2 t37 h fun t38 =>
    mkSl (if 1 * 2 = 0 then [] else zeros [(.int .i64 0), (.int .i64 0)] 1) 1 [(0 * 2, 2, t38)] 27 h fun t39 h =>
    app 27 2 16 [(.int .i64 0), (.int .i64 0)] s3 t39 h fun t40 h =>
    s_NodeItems.j4 s1 t40 s11 s12 h K1 Q)
    (s_NodeItems.j4 s1 s3 s11 s12 h K1 Q)
def s_NodeItems.j3 (s1 : Value) (s3 : Value) (s11 : Value) (s12 : Value) (h : Heap) (K1 : List Value → Heap → Prop) (Q : Value → Heap → Prop) : Prop :=
    fld 1 s1 fun t16 =>
    load1 t16 h fun t17 =>
    lenV t17 fun t18 =>
    cmpI (fun a b => decide (a < b)) s12 t18 fun t19 =>
    ifV t19
    (fld 1 s1 fun t21 =>
    load1 t21 h fun t22 =>
    idx 3 t22 s12 fun t24 =>
    loadN 3 t24 h fun t25 =>
    s_NodeItems.call #[t25] h fun t26 h =>
    app 27 2 16 [(.int .i64 0), (.int .i64 0)] s3 t26 h fun t27 h =>
    s_NodeItems.j5 s1 t27 s12 s11 s12 h K1 Q)
    (s_NodeItems.j5 s1 s3 s12 s11 s12 h K1 Q)
def s_NodeItems.l2.b (c1 : Value) (c11 : Value) (s3 : Value) (s12 : Value) (h : Heap) (K1 : List Value → Heap → Prop) (Q : Value → Heap → Prop) : Prop :=
    cmpI (fun a b => decide (a < b)) s12 c11 fun t13 =>
    ifV t13
    (s_NodeItems.j3 c1 s3 c11 s12 h K1 Q)
    (s_NodeItems.j1 s3 h Q)
def s_NodeItems.sh (a0 : Value) (h : Heap) (Q : Value → Heap → Prop) : Prop :=
    box 25 a0 h fun t1 h =>
    fld 1 t1 fun t5 =>
    load1 t5 h fun t6 =>
    lenV t6 fun t7 =>
    fld 0 t1 fun t8 =>
    load1 t8 h fun t9 =>
    lenV t9 fun t10 =>
    max2V t7 t10 fun t11 =>
    loopC (fun c s h K1 => s_NodeItems.l2.b (c.getD 0 undef) (c.getD 1 undef) (s.getD 0 undef) (s.getD 1 undef) h K1 Q) [t1, t11] [(.slice none 0 0), (.int .i64 0)] h
theorem s_NodeItems.body (a0 : Value) (h : Heap) (Q : Value → Heap → Prop) (H : s_NodeItems.sh a0 h Q) : s_NodeItems.call #[a0] h Q := by
  refine callsH_of (args := [a0]) Try.func19 rfl rfl ?_
  unfold s_NodeItems.sh at H
  refine WPc_seq' ?_
  refine W_region (by kernel_rfl) ?_
  refine vl_n ?_
  refine H_box H fun t1 h H => ?_
  refine vl_n ?_
  refine H_of_R (R_assign (v := (.slice none 0 0)) rfl ?_)
  refine vl_e ?_
  refine WPc_seq' ?_
  refine W_region (by kernel_rfl) ?_
  refine vl_n ?_
  refine H_of_R (R_assign (v := (.slice none 0 0)) rfl ?_)
  refine vl_e ?_
  refine WPc_seq (fun e h => s_NodeItems.j1 (e 3) h Q) ?_ (fun e h H => ?_)
  rotate_left
  · unfold s_NodeItems.j1 at H
    refine WPc_seq' ?_
    refine W_region (by kernel_rfl) ?_
    refine vl_n ?_
    refine H_of_R (R_move (v := (e 3)) rfl ?_)
    refine vl_n ?_
    refine H_of_R (R_assign (v := (e 3)) rfl ?_)
    refine vl_e ?_
    refine WPc_ret ?_
    refine resH_of rfl ?_
    exact H
  refine WPc_seq' ?_
  refine W_region (by kernel_rfl) ?_
  refine vl_n ?_
  refine H_of_R (R_fld TF_25_1 H fun t5 H => ?_)
  refine vl_n ?_
  refine H_of_R (R_load1 T1_23 H fun _ t6 _ _ H => ?_)
  refine vl_n ?_
  refine H_of_R (R_len Try.underlying23 H fun t7 H => ?_)
  refine vl_n ?_
  refine H_of_R (R_fld TF_25_0 H fun t8 H => ?_)
  refine vl_n ?_
  refine H_of_R (R_load1 T1_22 H fun _ t9 _ _ H => ?_)
  refine vl_n ?_
  refine H_of_R (R_len Try.underlying22 H fun t10 H => ?_)
  refine vl_n ?_
  refine H_of_R (R_max H fun t11 H => ?_)
  refine vl_n ?_
  refine H_of_R (R_move (v := (.int .i64 0)) rfl ?_)
  refine vl_e ?_
  refine WPc_block ?_
  refine loop_at (fun e => [e 3, e 12]) (fun e => [e 1, e 11]) H rfl rfl ?_
  intro K1 e1 h H hin1
  replace H : s_NodeItems.l2.b (e1 1) (e1 11) (e1 3) (e1 12) h K1 Q := H
  unfold s_NodeItems.l2.b at H
  clear hin1
  refine WPc_seq' ?_
  refine W_region (by kernel_rfl) ?_
  refine vl_n ?_
  refine H_of_R (R_lss H fun t13 H => ?_)
  refine vl_e ?_
  refine WPc_seq (fun e h => s_NodeItems.j3 (e 1) (e 3) (e 11) (e 12) h K1 Q ∧ [e1 1, e1 11] = [e 1, e 11]) ?_ (fun e h ⟨H, hq1⟩ => ?_)
  rotate_left
  · unfold s_NodeItems.j3 at H
    refine WPc_seq (fun e h => s_NodeItems.j4 (e 1) (e 3) (e 11) (e 12) h K1 Q ∧ [e1 1, e1 11] = [e 1, e 11]) ?_ (fun e h ⟨H, hq1⟩ => ?_)
    rotate_left
    · unfold s_NodeItems.j4 at H
      refine W_region (by kernel_rfl) ?_
      refine vl_n ?_
      refine H_of_R (R_add H fun t41 H => ?_)
      refine vl_n ?_
      refine H_of_R (R_move (v := t41) rfl ?_)
      refine vl_e ?_
      exact ⟨H, hq1⟩
    refine WPc_block ?_
    refine WPc_seq' ?_
    refine W_region (by kernel_rfl) ?_
    refine vl_n ?_
    refine H_of_R (R_move (v := (e 12)) rfl ?_)
    refine vl_n ?_
    refine H_of_R (R_assign (v := (e 12)) rfl ?_)
    refine vl_e ?_
    refine WPc_seq (fun e h => s_NodeItems.j5 (e 1) (e 3) (e 4) (e 11) (e 12) h K1 Q ∧ [e1 1, e1 11] = [e 1, e 11]) ?_ (fun e h ⟨H, hq1⟩ => ?_)
    rotate_left
    · unfold s_NodeItems.j5 at H
      refine WPc_seq' ?_
      refine W_region (by kernel_rfl) ?_
      refine vl_n ?_
      refine H_of_R (R_move (v := (e 4)) rfl ?_)
      refine vl_n ?_
      refine H_of_R (R_fld TF_25_0 H fun t29 H => ?_)
      refine vl_n ?_
      refine H_of_R (R_load1 T1_22 H fun _ t30 _ _ H => ?_)
      refine vl_n ?_
      refine H_of_R (R_len Try.underlying22 H fun t31 H => ?_)
      refine vl_n ?_
      refine H_of_R (R_lss H fun t32 H => ?_)
      refine vl_e ?_
      obtain ⟨b, hc, H1, H2⟩ := H
      refine WPc_cond hc (fun hh => ?_) (fun hh => ?_)
      · have H := H1 hh; clear H1 H2
        refine W_region (by kernel_rfl) ?_
        refine vl_n ?_
        refine H_of_R (R_move (v := (e 3)) rfl ?_)
        refine vl_n ?_
        refine H_of_R (R_fld TF_25_0 H fun t34 H => ?_)
        refine vl_n ?_
        refine H_of_R (R_load1 T1_22 H fun _ t35 _ _ H => ?_)
        refine vl_n ?_
        refine H_of_R (R_move (v := (e 4)) rfl ?_)
        refine vl_n ?_
        refine H_of_R (R_idx TE_22 H fun t37 H => ?_)
        refine vl_n ?_
        refine H_of_R (R_loadN TN_27 H fun _ t38 _ _ H _ _ => ?_)
        refine vl_n ?_
        refine H_mkSl TZ_22 (by decide) rfl H rfl fun t39 h H => ?_
        refine vl_n ?_
        refine H_app TZ_22 TU_22 H fun t40 h H => ?_
        refine vl_n ?_
        refine H_of_R (R_assign (v := t40) rfl ?_)
        refine vl_e ?_
        exact ⟨H, hq1⟩
      · have H := H2 hh; clear H1 H2
        refine WPc_skip ?_
        exact ⟨H, hq1⟩
    refine WPc_seq' ?_
    refine W_region (by kernel_rfl) ?_
    refine vl_n ?_
    refine H_of_R (R_move (v := (e 12)) rfl ?_)
    refine vl_n ?_
    refine H_of_R (R_fld TF_25_1 H fun t16 H => ?_)
    refine vl_n ?_
    refine H_of_R (R_load1 T1_23 H fun _ t17 _ _ H => ?_)
    refine vl_n ?_
    refine H_of_R (R_len Try.underlying23 H fun t18 H => ?_)
    refine vl_n ?_
    refine H_of_R (R_lss H fun t19 H => ?_)
    refine vl_e ?_
    obtain ⟨b, hc, H1, H2⟩ := H
    refine WPc_cond hc (fun hh => ?_) (fun hh => ?_)
    · have H := H1 hh; clear H1 H2
      refine W_region (by kernel_rfl) ?_
      refine vl_n ?_
      refine H_of_R (R_move (v := (e 3)) rfl ?_)
      refine vl_n ?_
      refine H_of_R (R_fld TF_25_1 H fun t21 H => ?_)
      refine vl_n ?_
      refine H_of_R (R_load1 T1_23 H fun _ t22 _ _ H => ?_)
      refine vl_n ?_
      refine H_of_R (R_move (v := (e 12)) rfl ?_)
      refine vl_n ?_
      refine H_of_R (R_idx TE_23 H fun t24 H => ?_)
      refine vl_n ?_
      refine H_of_R (R_loadN TN_25 H fun _ t25 _ _ H _ _ => ?_)
      refine vl_n ?_
      refine H_call HB_19 H fun t26 h H => ?_
      refine vl_n ?_
      refine H_app TZ_22 TU_22 H fun t27 h H => ?_
      refine vl_n ?_
      refine H_of_R (R_assign (v := t27) rfl ?_)
      refine vl_e ?_
      exact ⟨H, hq1⟩
    · have H := H2 hh; clear H1 H2
      refine WPc_skip ?_
      exact ⟨H, hq1⟩
  obtain ⟨b, hc, H1, H2⟩ := H
  refine WPc_cond hc (fun hh => ?_) (fun hh => ?_)
  · have H := H1 hh; clear H1 H2
    refine WPc_skip ?_
    exact ⟨H, rfl⟩
  · have H := H2 hh; clear H1 H2
    refine WPc_exit ?_
    exact H
/-! ### spec.Width -/
def s_Width.j1 (s0 : Value) (h : Heap) (Q : Value → Heap → Prop) : Prop :=
    Q s0 h
def s_Width.sh (a0 : Value) (h : Heap) (Q : Value → Heap → Prop) : Prop :=
    cmpI (fun a b => a == b) a0 (.int .i64 0) fun t4 =>
    ifV t4
    (Q (.int .i64 32) h)
    (s_Width.j1 a0 h Q)
theorem s_Width.body (a0 : Value) (h : Heap) (Q : Value → Heap → Prop) (H : s_Width.sh a0 h Q) : s_Width.call #[a0] h Q := by
  refine callsH_of (args := [a0]) Try.func64 rfl rfl ?_
  unfold s_Width.sh at H
  refine WPc_seq' ?_
  refine W_region (by kernel_rfl) ?_
  refine vl_n ?_
  refine H_of_R (R_assign (v := (.int .i64 0)) rfl ?_)
  refine vl_e ?_
  refine WPc_seq (fun e h => s_Width.j1 (e 0) h Q) ?_ (fun e h H => ?_)
  rotate_left
  · unfold s_Width.j1 at H
    refine WPc_seq' ?_
    refine W_region (by kernel_rfl) ?_
    refine vl_n ?_
    refine H_of_R (R_move (v := (e 0)) rfl ?_)
    refine vl_n ?_
    refine H_of_R (R_assign (v := (e 0)) rfl ?_)
    refine vl_e ?_
    refine WPc_ret ?_
    refine resH_of rfl ?_
    exact H
  refine WPc_seq' ?_
  refine W_region (by kernel_rfl) ?_
  refine vl_n ?_
  refine H_of_R (R_move (v := a0) rfl ?_)
  refine vl_n ?_
  refine H_of_R (R_eqI H fun t4 H => ?_)
  refine vl_e ?_
  obtain ⟨b, hc, H1, H2⟩ := H
  refine WPc_cond hc (fun hh => ?_) (fun hh => ?_)
  · have H := H1 hh; clear H1 H2
    refine WPc_seq' ?_
    refine W_region (by kernel_rfl) ?_
    refine vl_n ?_
    refine H_of_R (R_assign (v := (.int .i64 32)) rfl ?_)
    refine vl_e ?_
    refine WPc_ret ?_
    refine resH_of rfl ?_
    exact H
  · have H := H2 hh; clear H1 H2
    refine WPc_skip ?_
    exact H
/-! ### spec.Levels -/
def s_Levels.j3 (s4 : Value) (s5 : Value) (h : Heap) (Q : Value → Heap → Prop) : Prop :=
    arith (· + ·) s4 (.int .i64 1) fun t54 =>
    Q (.tuple #[t54, s5]) h
def s_Levels.j6 (s4 : Value) (s5 : Value) (s32 : Value) (s33 : Value) (s34 : Value) (h : Heap) (K1 : List Value → Heap → Prop) (Q : Value → Heap → Prop) : Prop :=
    arith (· + ·) s34 (.int .i64 1) fun t52 =>
    K1 [s5, t52] h
def s_Levels.j5 (s4 : Value) (s5 : Value) (s32 : Value) (s33 : Value) (s34 : Value) (h : Heap) (K1 : List Value → Heap → Prop) (Q : Value → Heap → Prop) : Prop :=
    idx 3 s32 s34 fun t36 =>
    loadN 3 t36 h fun t37 =>
    alloc [(.slice none 0 0), (.slice none 0 0), (.int .i64 0)] 25 h fun t7 h =>
    storeN 3 t7 t37 h fun h =>
    loadN 3 t7 h fun t39 =>
    s_Levels.call #[t39] h fun t40 h =>
    extr 0 t40 fun t41 =>
    extr 1 t40 fun t42 =>
    br s5 true (br t42 true (cmpI (fun a b => a == b) t41 s4 fun t50 =>
    s_Levels.j6 s4 t50 s32 s33 s34 h K1 Q) (s_Levels.j6 s4 (.bool false) s32 s33 s34 h K1 Q)) (s_Levels.j6 s4 (.bool false) s32 s33 s34 h K1 Q)
def s_Levels.l4.b (c4 : Value) (c32 : Value) (c33 : Value) (s5 : Value) (s34 : Value) (h : Heap) (K1 : List Value → Heap → Prop) (Q : Value → Heap → Prop) : Prop :=
    cmpI (fun a b => decide (a < b)) s34 c33 fun t35 =>
    ifV t35
    (s_Levels.j5 c4 s5 c32 c33 s34 h K1 Q)
    (s_Levels.j3 c4 s5 h Q)
def s_Levels.j2 (s1 : Value) (h : Heap) (Q : Value → Heap → Prop) : Prop :=
    fld 1 s1 fun t23 =>
    load1 t23 h fun t24 =>
    idx 3 t24 (.int .i64 0) fun t25 =>
    loadN 3 t25 h fun t26 =>
    s_Levels.call #[t26] h fun t27 h =>
    extr 0 t27 fun t28 =>
    extr 1 t27 fun t29 =>
    fld 1 s1 fun t30 =>
    load1 t30 h fun t31 =>
    slc 3 t31 (some (.int .i64 1)) none none fun t32 =>
    lenV t32 fun t33 =>
    loopC (fun c s h K1 => s_Levels.l4.b (c.getD 0 undef) (c.getD 1 undef) (c.getD 2 undef) (s.getD 0 undef) (s.getD 1 undef) h K1 Q) [t28, t32, t33] [t29, (.int .i64 0)] h
def s_Levels.j1 (s1 : Value) (h : Heap) (Q : Value → Heap → Prop) : Prop :=
    fld 1 s1 fun t14 =>
    load1 t14 h fun t15 =>
    lenV t15 fun t16 =>
    fld 0 s1 fun t17 =>
    load1 t17 h fun t18 =>
    lenV t18 fun t19 =>
    arith (· + ·) t19 (.int .i64 1) fun t20 =>
    cmpI (fun a b => a != b) t16 t20 fun t21 =>
    ifV t21
    (Q (.tuple #[(.int .i64 0), (.bool false)]) h)
    (s_Levels.j2 s1 h Q)
def s_Levels.sh (a0 : Value) (h : Heap) (Q : Value → Heap → Prop) : Prop :=
    box 25 a0 h fun t1 h =>
    fld 1 t1 fun t10 =>
    load1 t10 h fun t11 =>
    lenV t11 fun t12 =>
    cmpI (fun a b => a == b) t12 (.int .i64 0) fun t13 =>
    ifV t13
    (Q (.tuple #[(.int .i64 1), (.bool true)]) h)
    (s_Levels.j1 t1 h Q)
theorem s_Levels.body (a0 : Value) (h : Heap) (Q : Value → Heap → Prop) (H : s_Levels.sh a0 h Q) : s_Levels.call #[a0] h Q := by
  refine callsH_of (args := [a0]) Try.func69 rfl rfl ?_
  unfold s_Levels.sh at H
  refine WPc_seq' ?_
  refine W_region (by kernel_rfl) ?_
  refine vl_n ?_
  refine H_box H fun t1 h H => ?_
  refine vl_n ?_
  refine H_of_R (R_assign (v := (.int .i64 0)) rfl ?_)
  refine vl_n ?_
  refine H_of_R (R_assign (v := (.bool false)) rfl ?_)
  refine vl_e ?_
  refine WPc_seq (fun e h => s_Levels.j1 (e 1) h Q) ?_ (fun e h H => ?_)
  rotate_left
  · unfold s_Levels.j1 at H
    refine WPc_seq (fun e h => s_Levels.j2 (e 1) h Q) ?_ (fun e h H => ?_)
    rotate_left
    · unfold s_Levels.j2 at H
      refine WPc_seq' ?_
      refine W_region (by kernel_rfl) ?_
      refine vl_n ?_
      refine H_of_R (R_fld TF_25_1 H fun t23 H => ?_)
      refine vl_n ?_
      refine H_of_R (R_load1 T1_23 H fun _ t24 _ _ H => ?_)
      refine vl_n ?_
      refine H_of_R (R_idx TE_23 H fun t25 H => ?_)
      refine vl_n ?_
      refine H_of_R (R_loadN TN_25 H fun _ t26 _ _ H _ _ => ?_)
      refine vl_n ?_
      refine H_call HB_69 H fun t27 h H => ?_
      refine vl_n ?_
      refine H_of_R (R_move (v := t27) rfl ?_)
      refine vl_n ?_
      refine H_of_R (R_ext H fun t28 H => ?_)
      refine vl_n ?_
      refine H_of_R (R_ext H fun t29 H => ?_)
      refine vl_n ?_
      refine H_of_R (R_assign (v := t28) rfl ?_)
      refine vl_n ?_
      refine H_of_R (R_assign (v := t29) rfl ?_)
      refine vl_e ?_
      refine WPc_seq (fun e h => s_Levels.j3 (e 4) (e 5) h Q) ?_ (fun e h H => ?_)
      rotate_left
      · unfold s_Levels.j3 at H
        refine WPc_seq' ?_
        refine W_region (by kernel_rfl) ?_
        refine vl_n ?_
        refine H_of_R (R_move (v := (e 4)) rfl ?_)
        refine vl_n ?_
        refine H_of_R (R_add H fun t54 H => ?_)
        refine vl_n ?_
        refine H_of_R (R_move (v := (e 5)) rfl ?_)
        refine vl_n ?_
        refine H_of_R (R_assign (v := t54) rfl ?_)
        refine vl_n ?_
        refine H_of_R (R_assign (v := (e 5)) rfl ?_)
        refine vl_e ?_
        refine WPc_ret ?_
        refine resH_of rfl ?_
        exact H
      refine WPc_seq' ?_
      refine W_region (by kernel_rfl) ?_
      refine vl_n ?_
      refine H_of_R (R_fld TF_25_1 H fun t30 H => ?_)
      refine vl_n ?_
      refine H_of_R (R_load1 T1_23 H fun _ t31 _ _ H => ?_)
      refine vl_n ?_
      refine H_of_R (R_slice TE_23 (by decide) H fun t32 H => ?_)
      refine vl_n ?_
      refine H_of_R (R_len Try.underlying23 H fun t33 H => ?_)
      refine vl_n ?_
      refine H_of_R (R_move (v := (.int .i64 0)) rfl ?_)
      refine vl_e ?_
      refine WPc_block ?_
      refine loop_at (fun e => [e 5, e 34]) (fun e => [e 4, e 32, e 33]) H rfl rfl ?_
      intro K1 e1 h H hin1
      replace H : s_Levels.l4.b (e1 4) (e1 32) (e1 33) (e1 5) (e1 34) h K1 Q := H
      unfold s_Levels.l4.b at H
      clear hin1
      refine WPc_seq' ?_
      refine W_region (by kernel_rfl) ?_
      refine vl_n ?_
      refine H_of_R (R_lss H fun t35 H => ?_)
      refine vl_e ?_
      refine WPc_seq (fun e h => s_Levels.j5 (e 4) (e 5) (e 32) (e 33) (e 34) h K1 Q ∧ [e1 4, e1 32, e1 33] = [e 4, e 32, e 33]) ?_ (fun e h ⟨H, hq1⟩ => ?_)
      rotate_left
      · unfold s_Levels.j5 at H
        refine WPc_seq (fun e h => s_Levels.j6 (e 4) (e 5) (e 32) (e 33) (e 34) h K1 Q ∧ [e1 4, e1 32, e1 33] = [e 4, e 32, e 33]) ?_ (fun e h ⟨H, hq1⟩ => ?_)
        rotate_left
        · unfold s_Levels.j6 at H
          refine W_region (by kernel_rfl) ?_
          refine vl_n ?_
          refine H_of_R (R_add H fun t52 H => ?_)
          refine vl_n ?_
          refine H_of_R (R_move (v := t52) rfl ?_)
          refine vl_e ?_
          exact ⟨H, hq1⟩
        refine WPc_block ?_
        refine WPc_seq' ?_
        refine W_region (by kernel_rfl) ?_
        refine vl_n ?_
        refine H_of_R (R_idx TE_23 H fun t36 H => ?_)
        refine vl_n ?_
        refine H_of_R (R_loadN TN_25 H fun _ t37 _ _ H _ _ => ?_)
        refine vl_n ?_
        refine H_alloc TV_25 H fun t7 h H => ?_
        refine vl_n ?_
        refine H_storeN TS_25 H fun h H => ?_
        refine vl_e ?_
        refine WPc_seq' ?_
        refine W_region (by kernel_rfl) ?_
        refine vl_n ?_
        refine H_of_R (R_loadN TN_25 H fun _ t39 _ _ H _ _ => ?_)
        refine vl_n ?_
        refine H_call HB_69 H fun t40 h H => ?_
        refine vl_n ?_
        refine H_of_R (R_move (v := t40) rfl ?_)
        refine vl_n ?_
        refine H_of_R (R_ext H fun t41 H => ?_)
        refine vl_n ?_
        refine H_of_R (R_ext H fun t42 H => ?_)
        refine vl_n ?_
        refine H_of_R (R_assign (v := t41) rfl ?_)
        refine vl_n ?_
        refine H_of_R (R_assign (v := t42) rfl ?_)
        refine vl_e ?_
        refine W_region (by kernel_rfl) ?_
        refine vl_n ?_
        refine H_of_R (R_move (v := (e 5)) rfl ?_)
        refine vl_n ?_
        refine H_of_R (R_move (v := (e 5)) rfl ?_)
        obtain ⟨b, hb, H1, H2⟩ := H
        cases b
        · have H := H2 rfl; clear H1 H2
          refine vl_s rfl (nbT hb) ?_
          refine vl_n ?_
          refine H_of_R (R_pickC (v := (.bool false)) false hb rfl ?_)
          refine vl_n ?_
          refine H_of_R (R_move (v := (.bool false)) rfl ?_)
          refine vl_s rfl (nbT rfl) ?_
          refine vl_s rfl (nbT rfl) ?_
          refine vl_s rfl (nbT rfl) ?_
          refine vl_n ?_
          refine H_of_R (R_pickC (v := (.bool false)) false rfl rfl ?_)
          refine vl_n ?_
          refine H_of_R (R_assign (v := (.bool false)) rfl ?_)
          refine vl_e ?_
          exact ⟨H, hq1⟩
        · have H := H1 rfl; clear H1 H2
          refine vl_y rfl hb ?_
          refine H_of_R (R_move (v := t42) rfl ?_)
          refine vl_n ?_
          refine H_of_R (R_pickC (v := t42) true hb rfl ?_)
          refine vl_n ?_
          refine H_of_R (R_move (v := t42) rfl ?_)
          obtain ⟨b_2, hb_2, H1, H2⟩ := H
          cases b_2
          · have H := H2 rfl; clear H1 H2
            refine vl_s rfl (nbT hb_2) ?_
            refine vl_s rfl (nbT hb_2) ?_
            refine vl_s rfl (nbT hb_2) ?_
            refine vl_n ?_
            refine H_of_R (R_pickC (v := (.bool false)) false hb_2 rfl ?_)
            refine vl_n ?_
            refine H_of_R (R_assign (v := (.bool false)) rfl ?_)
            refine vl_e ?_
            exact ⟨H, hq1⟩
          · have H := H1 rfl; clear H1 H2
            refine vl_y rfl hb_2 ?_
            refine H_of_R (R_move (v := t41) rfl ?_)
            refine vl_y rfl hb_2 ?_
            refine H_of_R (R_move (v := (e 4)) rfl ?_)
            refine vl_y rfl hb_2 ?_
            refine H_of_R (R_eqI H fun t50 H => ?_)
            refine vl_n ?_
            refine H_of_R (R_pickC (v := t50) true hb_2 rfl ?_)
            refine vl_n ?_
            refine H_of_R (R_assign (v := t50) rfl ?_)
            refine vl_e ?_
            exact ⟨H, hq1⟩
      obtain ⟨b, hc, H1, H2⟩ := H
      refine WPc_cond hc (fun hh => ?_) (fun hh => ?_)
      · have H := H1 hh; clear H1 H2
        refine WPc_skip ?_
        exact ⟨H, rfl⟩
      · have H := H2 hh; clear H1 H2
        refine WPc_exit ?_
        exact H
    refine WPc_seq' ?_
    refine W_region (by kernel_rfl) ?_
    refine vl_n ?_
    refine H_of_R (R_fld TF_25_1 H fun t14 H => ?_)
    refine vl_n ?_
    refine H_of_R (R_load1 T1_23 H fun _ t15 _ _ H => ?_)
    refine vl_n ?_
    refine H_of_R (R_len Try.underlying23 H fun t16 H => ?_)
    refine vl_n ?_
    refine H_of_R (R_fld TF_25_0 H fun t17 H => ?_)
    refine vl_n ?_
    refine H_of_R (R_load1 T1_22 H fun _ t18 _ _ H => ?_)
    refine vl_n ?_
    refine H_of_R (R_len Try.underlying22 H fun t19 H => ?_)
    refine vl_n ?_
    refine H_of_R (R_add H fun t20 H => ?_)
    refine vl_n ?_
    refine H_of_R (R_neI H fun t21 H => ?_)
    refine vl_e ?_
    obtain ⟨b, hc, H1, H2⟩ := H
    refine WPc_cond hc (fun hh => ?_) (fun hh => ?_)
    · have H := H1 hh; clear H1 H2
      refine WPc_seq' ?_
      refine W_region (by kernel_rfl) ?_
      refine vl_n ?_
      refine H_of_R (R_assign (v := (.int .i64 0)) rfl ?_)
      refine vl_n ?_
      refine H_of_R (R_assign (v := (.bool false)) rfl ?_)
      refine vl_e ?_
      refine WPc_ret ?_
      refine resH_of rfl ?_
      exact H
    · have H := H2 hh; clear H1 H2
      refine WPc_skip ?_
      exact H
  refine WPc_seq' ?_
  refine W_region (by kernel_rfl) ?_
  refine vl_n ?_
  refine H_of_R (R_fld TF_25_1 H fun t10 H => ?_)
  refine vl_n ?_
  refine H_of_R (R_load1 T1_23 H fun _ t11 _ _ H => ?_)
  refine vl_n ?_
  refine H_of_R (R_len Try.underlying23 H fun t12 H => ?_)
  refine vl_n ?_
  refine H_of_R (R_eqI H fun t13 H => ?_)
  refine vl_e ?_
  obtain ⟨b, hc, H1, H2⟩ := H
  refine WPc_cond hc (fun hh => ?_) (fun hh => ?_)
  · have H := H1 hh; clear H1 H2
    refine WPc_seq' ?_
    refine W_region (by kernel_rfl) ?_
    refine vl_n ?_
    refine H_of_R (R_assign (v := (.int .i64 1)) rfl ?_)
    refine vl_n ?_
    refine H_of_R (R_assign (v := (.bool true)) rfl ?_)
    refine vl_e ?_
    refine WPc_ret ?_
    refine resH_of rfl ?_
    exact H
  · have H := H2 hh; clear H1 H2
    refine WPc_skip ?_
    exact H
/-! ### spec.Filled -/
def s_Filled.j2 (h : Heap) (Q : Value → Heap → Prop) : Prop :=
    Q (.bool true) h
def s_Filled.j5 (s0 : Value) (s24 : Value) (s25 : Value) (s26 : Value) (h : Heap) (K1 : List Value → Heap → Prop) (Q : Value → Heap → Prop) : Prop :=
    arith (· + ·) s26 (.int .i64 1) fun t36 =>
    K1 [t36] h
def s_Filled.j4 (s0 : Value) (s24 : Value) (s25 : Value) (s26 : Value) (h : Heap) (K1 : List Value → Heap → Prop) (Q : Value → Heap → Prop) : Prop :=
    idx 3 s24 s26 fun t28 =>
    loadN 3 t28 h fun t29 =>
    alloc [(.slice none 0 0), (.slice none 0 0), (.int .i64 0)] 25 h fun t8 h =>
    storeN 3 t8 t29 h fun h =>
    arith (· - ·) s0 (.int .i64 1) fun t32 =>
    loadN 3 t8 h fun t33 =>
    s_Filled.call #[s0, t32, t33] h fun t34 h =>
    notV t34 fun t35 =>
    ifV t35
    (Q (.bool false) h)
    (s_Filled.j5 s0 s24 s25 s26 h K1 Q)
def s_Filled.l3.b (c0 : Value) (c24 : Value) (c25 : Value) (s26 : Value) (h : Heap) (K1 : List Value → Heap → Prop) (Q : Value → Heap → Prop) : Prop :=
    cmpI (fun a b => decide (a < b)) s26 c25 fun t27 =>
    ifV t27
    (s_Filled.j4 c0 c24 c25 s26 h K1 Q)
    (s_Filled.j2 h Q)
def s_Filled.j1 (s0 : Value) (s5 : Value) (h : Heap) (Q : Value → Heap → Prop) : Prop :=
    fld 1 s5 fun t23 =>
    load1 t23 h fun t24 =>
    lenV t24 fun t25 =>
    loopC (fun c s h K1 => s_Filled.l3.b (c.getD 0 undef) (c.getD 1 undef) (c.getD 2 undef) (s.getD 0 undef) h K1 Q) [s0, t24, t25] [(.int .i64 0)] h
def s_Filled.sh (a0 : Value) (a1 : Value) (a2 : Value) (h : Heap) (Q : Value → Heap → Prop) : Prop :=
    box 25 a2 h fun t5 h =>
    fld 0 t5 fun t9 =>
    load1 t9 h fun t10 =>
    lenV t10 fun t11 =>
    cmpI (fun a b => decide (a < b)) t11 a1 fun t13 =>
    br t13 false (fld 0 t5 fun t15 =>
    load1 t15 h fun t16 =>
    lenV t16 fun t17 =>
    arith (· * ·) (.int .i64 2) a0 fun t19 =>
    arith (· - ·) t19 (.int .i64 1) fun t20 =>
    cmpI (fun a b => decide (a > b)) t17 t20 fun t21 =>
    ifV t21
    (Q (.bool false) h)
    (s_Filled.j1 a0 t5 h Q)) (Q (.bool false) h)
theorem s_Filled.body (a0 : Value) (a1 : Value) (a2 : Value) (h : Heap) (Q : Value → Heap → Prop) (H : s_Filled.sh a0 a1 a2 h Q) : s_Filled.call #[a0, a1, a2] h Q := by
  refine callsH_of (args := [a0, a1, a2]) Try.func105 rfl rfl ?_
  unfold s_Filled.sh at H
  refine WPc_seq' ?_
  refine W_region (by kernel_rfl) ?_
  refine vl_n ?_
  refine H_box H fun t5 h H => ?_
  refine vl_n ?_
  refine H_of_R (R_assign (v := (.bool false)) rfl ?_)
  refine vl_e ?_
  refine WPc_seq (fun e h => s_Filled.j1 (e 0) (e 5) h Q) ?_ (fun e h H => ?_)
  rotate_left
  · unfold s_Filled.j1 at H
    refine WPc_seq (fun e h => s_Filled.j2 h Q) ?_ (fun e h H => ?_)
    rotate_left
    · unfold s_Filled.j2 at H
      refine WPc_seq' ?_
      refine W_region (by kernel_rfl) ?_
      refine vl_n ?_
      refine H_of_R (R_assign (v := (.bool true)) rfl ?_)
      refine vl_e ?_
      refine WPc_ret ?_
      refine resH_of rfl ?_
      exact H
    refine WPc_seq' ?_
    refine W_region (by kernel_rfl) ?_
    refine vl_n ?_
    refine H_of_R (R_fld TF_25_1 H fun t23 H => ?_)
    refine vl_n ?_
    refine H_of_R (R_load1 T1_23 H fun _ t24 _ _ H => ?_)
    refine vl_n ?_
    refine H_of_R (R_len Try.underlying23 H fun t25 H => ?_)
    refine vl_n ?_
    refine H_of_R (R_move (v := (.int .i64 0)) rfl ?_)
    refine vl_e ?_
    refine WPc_block ?_
    refine loop_at (fun e => [e 26]) (fun e => [e 0, e 24, e 25]) H rfl rfl ?_
    intro K1 e1 h H hin1
    replace H : s_Filled.l3.b (e1 0) (e1 24) (e1 25) (e1 26) h K1 Q := H
    unfold s_Filled.l3.b at H
    clear hin1
    refine WPc_seq' ?_
    refine W_region (by kernel_rfl) ?_
    refine vl_n ?_
    refine H_of_R (R_lss H fun t27 H => ?_)
    refine vl_e ?_
    refine WPc_seq (fun e h => s_Filled.j4 (e 0) (e 24) (e 25) (e 26) h K1 Q ∧ [e1 0, e1 24, e1 25] = [e 0, e 24, e 25]) ?_ (fun e h ⟨H, hq1⟩ => ?_)
    rotate_left
    · unfold s_Filled.j4 at H
      refine WPc_seq (fun e h => s_Filled.j5 (e 0) (e 24) (e 25) (e 26) h K1 Q ∧ [e1 0, e1 24, e1 25] = [e 0, e 24, e 25]) ?_ (fun e h ⟨H, hq1⟩ => ?_)
      rotate_left
      · unfold s_Filled.j5 at H
        refine W_region (by kernel_rfl) ?_
        refine vl_n ?_
        refine H_of_R (R_add H fun t36 H => ?_)
        refine vl_n ?_
        refine H_of_R (R_move (v := t36) rfl ?_)
        refine vl_e ?_
        exact ⟨H, hq1⟩
      refine WPc_block ?_
      refine WPc_seq' ?_
      refine W_region (by kernel_rfl) ?_
      refine vl_n ?_
      refine H_of_R (R_idx TE_23 H fun t28 H => ?_)
      refine vl_n ?_
      refine H_of_R (R_loadN TN_25 H fun _ t29 _ _ H _ _ => ?_)
      refine vl_n ?_
      refine H_alloc TV_25 H fun t8 h H => ?_
      refine vl_n ?_
      refine H_storeN TS_25 H fun h H => ?_
      refine vl_e ?_
      refine WPc_seq' ?_
      refine W_region (by kernel_rfl) ?_
      refine vl_n ?_
      refine H_of_R (R_move (v := (e 0)) rfl ?_)
      refine vl_n ?_
      refine H_of_R (R_move (v := (e 0)) rfl ?_)
      refine vl_n ?_
      refine H_of_R (R_sub H fun t32 H => ?_)
      refine vl_n ?_
      refine H_of_R (R_loadN TN_25 H fun _ t33 _ _ H _ _ => ?_)
      refine vl_n ?_
      refine H_call HB_105 H fun t34 h H => ?_
      refine vl_n ?_
      refine H_of_R (R_not H fun t35 H => ?_)
      refine vl_e ?_
      obtain ⟨b, hc, H1, H2⟩ := H
      refine WPc_cond hc (fun hh => ?_) (fun hh => ?_)
      · have H := H1 hh; clear H1 H2
        refine WPc_seq' ?_
        refine W_region (by kernel_rfl) ?_
        refine vl_n ?_
        refine H_of_R (R_assign (v := (.bool false)) rfl ?_)
        refine vl_e ?_
        refine WPc_ret ?_
        refine resH_of rfl ?_
        exact H
      · have H := H2 hh; clear H1 H2
        refine WPc_skip ?_
        exact ⟨H, hq1⟩
    obtain ⟨b, hc, H1, H2⟩ := H
    refine WPc_cond hc (fun hh => ?_) (fun hh => ?_)
    · have H := H1 hh; clear H1 H2
      refine WPc_skip ?_
      exact ⟨H, rfl⟩
    · have H := H2 hh; clear H1 H2
      refine WPc_exit ?_
      exact H
  refine WPc_seq' ?_
  refine W_region (by kernel_rfl) ?_
  refine vl_n ?_
  refine H_of_R (R_fld TF_25_0 H fun t9 H => ?_)
  refine vl_n ?_
  refine H_of_R (R_load1 T1_22 H fun _ t10 _ _ H => ?_)
  refine vl_n ?_
  refine H_of_R (R_len Try.underlying22 H fun t11 H => ?_)
  refine vl_n ?_
  refine H_of_R (R_move (v := a1) rfl ?_)
  refine vl_n ?_
  refine H_of_R (R_lss H fun t13 H => ?_)
  refine vl_n ?_
  refine H_of_R (R_move (v := t13) rfl ?_)
  obtain ⟨b, hb, H1, H2⟩ := H
  cases b
  · have H := H1 rfl; clear H1 H2
    refine vl_y rfl hb ?_
    refine H_of_R (R_fld TF_25_0 H fun t15 H => ?_)
    refine vl_y rfl hb ?_
    refine H_of_R (R_load1 T1_22 H fun _ t16 _ _ H => ?_)
    refine vl_y rfl hb ?_
    refine H_of_R (R_len Try.underlying22 H fun t17 H => ?_)
    refine vl_y rfl hb ?_
    refine H_of_R (R_move (v := a0) rfl ?_)
    refine vl_y rfl hb ?_
    refine H_of_R (R_mul H fun t19 H => ?_)
    refine vl_y rfl hb ?_
    refine H_of_R (R_sub H fun t20 H => ?_)
    refine vl_y rfl hb ?_
    refine H_of_R (R_gtr H fun t21 H => ?_)
    refine vl_n ?_
    refine H_of_R (R_pickC (v := t21) false hb rfl ?_)
    refine vl_e ?_
    obtain ⟨b_2, hc, H1, H2⟩ := H
    refine WPc_cond hc (fun hh => ?_) (fun hh => ?_)
    · have H := H1 hh; clear H1 H2
      refine WPc_seq' ?_
      refine W_region (by kernel_rfl) ?_
      refine vl_n ?_
      refine H_of_R (R_assign (v := (.bool false)) rfl ?_)
      refine vl_e ?_
      refine WPc_ret ?_
      refine resH_of rfl ?_
      exact H
    · have H := H2 hh; clear H1 H2
      refine WPc_skip ?_
      exact H
  · have H := H2 rfl; clear H1 H2
    refine vl_s rfl (nbF hb) ?_
    refine vl_s rfl (nbF hb) ?_
    refine vl_s rfl (nbF hb) ?_
    refine vl_s rfl (nbF hb) ?_
    refine vl_s rfl (nbF hb) ?_
    refine vl_s rfl (nbF hb) ?_
    refine vl_s rfl (nbF hb) ?_
    refine vl_n ?_
    refine H_of_R (R_pickC (v := (.bool true)) true hb rfl ?_)
    refine vl_e ?_
    refine WPc_cond (t := true) rfl (fun _ => ?_) (fun hh => by cases hh)
    refine WPc_seq' ?_
    refine W_region (by kernel_rfl) ?_
    refine vl_n ?_
    refine H_of_R (R_assign (v := (.bool false)) rfl ?_)
    refine vl_e ?_
    refine WPc_ret ?_
    refine resH_of rfl ?_
    exact H

end Go.Proofs.Ytlihjljdndbpdaa
