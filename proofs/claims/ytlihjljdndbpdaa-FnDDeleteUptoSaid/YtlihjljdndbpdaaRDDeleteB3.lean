/-
  Texts of this claim, laid together: S0 S9 S8 S6 S7 S21.
  Conditions: as each of them tells.
-/
import Derived.Test.YtlihjljdndbpdaaRDDeleteB2
section
namespace Go.Proofs.Ytlihjljdndbpdaa
open Go.Hp
set_option maxRecDepth 100000
set_option maxHeartbeats 8000000
set_option linter.unusedVariables false
set_option linter.unusedSimpArgs false

/-! ### laws.zzFits3 -/
def l_zzFits3.j2 (h : Heap) (Q : Value → Heap → Prop) : Prop :=
    Q (.bool true) h
def l_zzFits3.j1 (s1 : Value) (h : Heap) (Q : Value → Heap → Prop) : Prop :=
    fld 1 s1 fun t7 =>
    load1 t7 h fun t8 =>
    lenV t8 fun t9 =>
    cmpI (fun a b => decide (a > b)) t9 (.int .i64 2147483647) fun t10 =>
    ifV t10
    (Q (.bool false) h)
    (l_zzFits3.j2 h Q)
def l_zzFits3.sh (a0 : Value) (h : Heap) (Q : Value → Heap → Prop) : Prop :=
    box 25 a0 h fun t1 h =>
    fld 0 t1 fun t3 =>
    load1 t3 h fun t4 =>
    lenV t4 fun t5 =>
    cmpI (fun a b => decide (a > b)) t5 (.int .i64 2147483647) fun t6 =>
    ifV t6
    (Q (.bool false) h)
    (l_zzFits3.j1 t1 h Q)
theorem l_zzFits3.body (a0 : Value) (h : Heap) (Q : Value → Heap → Prop) (H : l_zzFits3.sh a0 h Q) : l_zzFits3.call #[a0] h Q := by
  refine callsH_of (args := [a0]) Try.func12 rfl rfl ?_
  unfold l_zzFits3.sh at H
  refine WPc_seq' ?_
  refine W_region (by kernel_rfl) ?_
  refine vl_n ?_
  refine H_box H fun t1 h H => ?_
  refine vl_n ?_
  refine H_of_R (R_assign (v := (.bool false)) rfl ?_)
  refine vl_e ?_
  refine WPc_seq (fun e h => l_zzFits3.j1 (e 1) h Q) ?_ (fun e h H => ?_)
  rotate_left
  · unfold l_zzFits3.j1 at H
    refine WPc_seq (fun e h => l_zzFits3.j2 h Q) ?_ (fun e h H => ?_)
    rotate_left
    · unfold l_zzFits3.j2 at H
      refine WPc_seq' ?_
      refine W_region (by kernel_rfl) ?_
      refine vl_n ?_
      refine H_of_R (R_assign (v := (.bool true)) rfl ?_)
      refine vl_e ?_
      refine WPc_ret ?_
      refine resH_of rfl ?_
      exact H
    refine WPc_seq' ?_
    refine W_region (by kernel_rfl) ?_
    refine vl_n ?_
    refine H_of_R (R_fld TF_25_1 H fun t7 H => ?_)
    refine vl_n ?_
    refine H_of_R (R_load1 T1_23 H fun _ t8 _ _ H => ?_)
    refine vl_n ?_
    refine H_of_R (R_len Try.underlying23 H fun t9 H => ?_)
    refine vl_n ?_
    refine H_of_R (R_gtr H fun t10 H => ?_)
    refine vl_e ?_
    obtain ⟨b, hc, H1, H2⟩ := H
    refine WPc_cond hc (fun hh => ?_) (fun hh => ?_)
    · have H := H1 hh; clear H1 H2
      refine WPc_seq' ?_
      refine W_region (by kernel_rfl) ?_
      refine vl_n ?_
      refine H_of_R (R_assign (v := (.bool false)) rfl ?_)
      refine vl_e ?_
      refine WPc_ret ?_
      refine resH_of rfl ?_
      exact H
    · have H := H2 hh; clear H1 H2
      refine WPc_skip ?_
      exact H
  refine WPc_seq' ?_
  refine W_region (by kernel_rfl) ?_
  refine vl_n ?_
  refine H_of_R (R_fld TF_25_0 H fun t3 H => ?_)
  refine vl_n ?_
  refine H_of_R (R_load1 T1_22 H fun _ t4 _ _ H => ?_)
  refine vl_n ?_
  refine H_of_R (R_len Try.underlying22 H fun t5 H => ?_)
  refine vl_n ?_
  refine H_of_R (R_gtr H fun t6 H => ?_)
  refine vl_e ?_
  obtain ⟨b, hc, H1, H2⟩ := H
  refine WPc_cond hc (fun hh => ?_) (fun hh => ?_)
  · have H := H1 hh; clear H1 H2
    refine WPc_seq' ?_
    refine W_region (by kernel_rfl) ?_
    refine vl_n ?_
    refine H_of_R (R_assign (v := (.bool false)) rfl ?_)
    refine vl_e ?_
    refine WPc_ret ?_
    refine resH_of rfl ?_
    exact H
  · have H := H2 hh; clear H1 H2
    refine WPc_skip ?_
    exact H
/-! ### spec.Fits -/
def s_Fits.sh (a0 : Value) (h : Heap) (Q : Value → Heap → Prop) : Prop :=
    cmpI (fun a b => a == b) a0 (.int .i64 0) fun t4 =>
    br t4 false (cmpI (fun a b => decide (a ≥ b)) a0 (.int .i64 2) fun t7 =>
    br t7 true (cmpI (fun a b => decide (a ≤ b)) a0 (.int .i64 128) fun t10 =>
    Q t10 h) (Q (.bool false) h)) (Q (.bool true) h)
theorem s_Fits.body (a0 : Value) (h : Heap) (Q : Value → Heap → Prop) (H : s_Fits.sh a0 h Q) : s_Fits.call #[a0] h Q := by
  refine callsH_of (args := [a0]) Try.func73 rfl rfl ?_
  unfold s_Fits.sh at H
  refine WPc_seq' ?_
  refine W_region (by kernel_rfl) ?_
  refine vl_n ?_
  refine H_of_R (R_assign (v := (.bool false)) rfl ?_)
  refine vl_e ?_
  refine WPc_seq' ?_
  refine W_region (by kernel_rfl) ?_
  refine vl_n ?_
  refine H_of_R (R_move (v := a0) rfl ?_)
  refine vl_n ?_
  refine H_of_R (R_eqI H fun t4 H => ?_)
  refine vl_n ?_
  refine H_of_R (R_move (v := t4) rfl ?_)
  obtain ⟨b, hb, H1, H2⟩ := H
  cases b
  · have H := H1 rfl; clear H1 H2
    refine vl_y rfl hb ?_
    refine H_of_R (R_move (v := a0) rfl ?_)
    refine vl_y rfl hb ?_
    refine H_of_R (R_geq H fun t7 H => ?_)
    refine vl_y rfl hb ?_
    refine H_of_R (R_move (v := t7) rfl ?_)
    obtain ⟨b_2, hb_2, H1, H2⟩ := H
    cases b_2
    · have H := H2 rfl; clear H1 H2
      refine vl_s rfl (nbT hb_2) ?_
      refine vl_s rfl (nbT hb_2) ?_
      refine vl_y rfl hb ?_
      refine H_of_R (R_pickC (v := (.bool false)) false hb_2 rfl ?_)
      refine vl_n ?_
      refine H_of_R (R_pickC (v := (.bool false)) false hb rfl ?_)
      refine vl_n ?_
      refine H_of_R (R_assign (v := (.bool false)) rfl ?_)
      refine vl_e ?_
      refine WPc_ret ?_
      refine resH_of rfl ?_
      exact H
    · have H := H1 rfl; clear H1 H2
      refine vl_y rfl hb_2 ?_
      refine H_of_R (R_move (v := a0) rfl ?_)
      refine vl_y rfl hb_2 ?_
      refine H_of_R (R_leq H fun t10 H => ?_)
      refine vl_y rfl hb ?_
      refine H_of_R (R_pickC (v := t10) true hb_2 rfl ?_)
      refine vl_n ?_
      refine H_of_R (R_pickC (v := t10) false hb rfl ?_)
      refine vl_n ?_
      refine H_of_R (R_assign (v := t10) rfl ?_)
      refine vl_e ?_
      refine WPc_ret ?_
      refine resH_of rfl ?_
      exact H
  · have H := H2 rfl; clear H1 H2
    refine vl_s rfl (nbF hb) ?_
    refine vl_s rfl (nbF hb) ?_
    refine vl_s rfl (nbF hb) ?_
    refine vl_s rfl nbU ?_
    refine vl_s rfl nbU ?_
    refine vl_s rfl (nbF hb) ?_
    refine vl_n ?_
    refine H_of_R (R_pickC (v := (.bool true)) true hb rfl ?_)
    refine vl_n ?_
    refine H_of_R (R_assign (v := (.bool true)) rfl ?_)
    refine vl_e ?_
    refine WPc_ret ?_
    refine resH_of rfl ?_
    exact H
/-! ### laws.fit -/
def l_fit.sh (a0 : Value) (h : Heap) (Q : Value → Heap → Prop) : Prop :=
    cmpI (fun a b => decide (a > b)) a0 (.int .i64 0) fun t4 =>
    br t4 true (s_Fits.call #[a0] h fun t7 h =>
    Q t7 h) (Q (.bool false) h)
theorem l_fit.body (a0 : Value) (h : Heap) (Q : Value → Heap → Prop) (H : l_fit.sh a0 h Q) : l_fit.call #[a0] h Q := by
  refine callsH_of (args := [a0]) Try.func25 rfl rfl ?_
  unfold l_fit.sh at H
  refine WPc_seq' ?_
  refine W_region (by kernel_rfl) ?_
  refine vl_n ?_
  refine H_of_R (R_assign (v := (.bool false)) rfl ?_)
  refine vl_e ?_
  refine WPc_seq' ?_
  refine W_region (by kernel_rfl) ?_
  refine vl_n ?_
  refine H_of_R (R_move (v := a0) rfl ?_)
  refine vl_n ?_
  refine H_of_R (R_gtr H fun t4 H => ?_)
  refine vl_n ?_
  refine H_of_R (R_move (v := t4) rfl ?_)
  obtain ⟨b, hb, H1, H2⟩ := H
  cases b
  · have H := H2 rfl; clear H1 H2
    refine vl_s rfl (nbT hb) ?_
    refine vl_s rfl (nbT hb) ?_
    refine vl_n ?_
    refine H_of_R (R_pickC (v := (.bool false)) false hb rfl ?_)
    refine vl_n ?_
    refine H_of_R (R_assign (v := (.bool false)) rfl ?_)
    refine vl_e ?_
    refine WPc_ret ?_
    refine resH_of rfl ?_
    exact H
  · have H := H1 rfl; clear H1 H2
    refine vl_y rfl hb ?_
    refine H_of_R (R_move (v := a0) rfl ?_)
    refine vl_y rfl hb ?_
    refine H_call HB_73 H fun t7 h H => ?_
    refine vl_n ?_
    refine H_of_R (R_pickC (v := t7) true hb rfl ?_)
    refine vl_n ?_
    refine H_of_R (R_assign (v := t7) rfl ?_)
    refine vl_e ?_
    refine WPc_ret ?_
    refine resH_of rfl ?_
    exact H
/-! ### spec.NodeItems -/
def s_NodeItems.j1 (s3 : Value) (h : Heap) (Q : Value → Heap → Prop) : Prop :=
    Q s3 h
def s_NodeItems.j4 (s1 : Value) (s3 : Value) (s11 : Value) (s12 : Value) (h : Heap) (K1 : List Value → Heap → Prop) (Q : Value → Heap → Prop) : Prop :=
    arith (· + ·) s12 (.int .i64 1) fun t41 =>
    K1 [s3, t41] h
def s_NodeItems.j5 (s1 : Value) (s3 : Value) (s4 : Value) (s11 : Value) (s12 : Value) (h : Heap) (K1 : List Value → Heap → Prop) (Q : Value → Heap → Prop) : Prop :=
    fld 0 s1 fun t29 =>
    load1 t29 h fun t30 =>
    lenV t30 fun t31 =>
    cmpI (fun a b => decide (a < b)) s4 t31 fun t32 =>
    ifV t32
    (fld 0 s1 fun t34 =>
    load1 t34 h fun t35 =>
    idx 2 t35 s4 fun t37 =>
    loadN 2 t37 h fun t38 =>
    mkSl (if 1 * 2 = 0 then [] else zeros [(.int .i64 0), (.int .i64 0)] 1) 1 [(0 * 2, 2, t38)] 27 h fun t39 h =>
    app 27 2 16 [(.int .i64 0), (.int .i64 0)] s3 t39 h fun t40 h =>
    s_NodeItems.j4 s1 t40 s11 s12 h K1 Q)
    (s_NodeItems.j4 s1 s3 s11 s12 h K1 Q)
def s_NodeItems.j3 (s1 : Value) (s3 : Value) (s11 : Value) (s12 : Value) (h : Heap) (K1 : List Value → Heap → Prop) (Q : Value → Heap → Prop) : Prop :=
    fld 1 s1 fun t16 =>
    load1 t16 h fun t17 =>
    lenV t17 fun t18 =>
    cmpI (fun a b => decide (a < b)) s12 t18 fun t19 =>
    ifV t19
    (fld 1 s1 fun t21 =>
    load1 t21 h fun t22 =>
    idx 3 t22 s12 fun t24 =>
    loadN 3 t24 h fun t25 =>
    s_NodeItems.call #[t25] h fun t26 h =>
    app 27 2 16 [(.int .i64 0), (.int .i64 0)] s3 t26 h fun t27 h =>
    s_NodeItems.j5 s1 t27 s12 s11 s12 h K1 Q)
    (s_NodeItems.j5 s1 s3 s12 s11 s12 h K1 Q)
def s_NodeItems.l2.b (c1 : Value) (c11 : Value) (s3 : Value) (s12 : Value) (h : Heap) (K1 : List Value → Heap → Prop) (Q : Value → Heap → Prop) : Prop :=
    cmpI (fun a b => decide (a < b)) s12 c11 fun t13 =>
    ifV t13
    (s_NodeItems.j3 c1 s3 c11 s12 h K1 Q)
    (s_NodeItems.j1 s3 h Q)
def s_NodeItems.sh (a0 : Value) (h : Heap) (Q : Value → Heap → Prop) : Prop :=
    box 25 a0 h fun t1 h =>
    fld 1 t1 fun t5 =>
    load1 t5 h fun t6 =>
    lenV t6 fun t7 =>
    fld 0 t1 fun t8 =>
    load1 t8 h fun t9 =>
    lenV t9 fun t10 =>
    max2V t7 t10 fun t11 =>
    loopC (fun c s h K1 => s_NodeItems.l2.b (c.getD 0 undef) (c.getD 1 undef) (s.getD 0 undef) (s.getD 1 undef) h K1 Q) [t1, t11] [(.slice none 0 0), (.int .i64 0)] h
theorem s_NodeItems.body (a0 : Value) (h : Heap) (Q : Value → Heap → Prop) (H : s_NodeItems.sh a0 h Q) : s_NodeItems.call #[a0] h Q := by
  refine callsH_of (args := [a0]) Try.func19 rfl rfl ?_
  unfold s_NodeItems.sh at H
  refine WPc_seq' ?_
  refine W_region (by kernel_rfl) ?_
  refine vl_n ?_
  refine H_box H fun t1 h H => ?_
  refine vl_n ?_
  refine H_of_R (R_assign (v := (.slice none 0 0)) rfl ?_)
  refine vl_e ?_
  refine WPc_seq' ?_
  refine W_region (by kernel_rfl) ?_
  refine vl_n ?_
  refine H_of_R (R_assign (v := (.slice none 0 0)) rfl ?_)
  refine vl_e ?_
  refine WPc_seq (fun e h => s_NodeItems.j1 (e 3) h Q) ?_ (fun e h H => ?_)
  rotate_left
  · unfold s_NodeItems.j1 at H
    refine WPc_seq' ?_
    refine W_region (by kernel_rfl) ?_
    refine vl_n ?_
    refine H_of_R (R_move (v := (e 3)) rfl ?_)
    refine vl_n ?_
    refine H_of_R (R_assign (v := (e 3)) rfl ?_)
    refine vl_e ?_
    refine WPc_ret ?_
    refine resH_of rfl ?_
    exact H
  refine WPc_seq' ?_
  refine W_region (by kernel_rfl) ?_
  refine vl_n ?_
  refine H_of_R (R_fld TF_25_1 H fun t5 H => ?_)
  refine vl_n ?_
  refine H_of_R (R_load1 T1_23 H fun _ t6 _ _ H => ?_)
  refine vl_n ?_
  refine H_of_R (R_len Try.underlying23 H fun t7 H => ?_)
  refine vl_n ?_
  refine H_of_R (R_fld TF_25_0 H fun t8 H => ?_)
  refine vl_n ?_
  refine H_of_R (R_load1 T1_22 H fun _ t9 _ _ H => ?_)
  refine vl_n ?_
  refine H_of_R (R_len Try.underlying22 H fun t10 H => ?_)
  refine vl_n ?_
  refine H_of_R (R_max H fun t11 H => ?_)
  refine vl_n ?_
  refine H_of_R (R_move (v := (.int .i64 0)) rfl ?_)
  refine vl_e ?_
  refine WPc_block ?_
  refine loop_at (fun e => [e 3, e 12]) (fun e => [e 1, e 11]) H rfl rfl ?_
  intro K1 e1 h H hin1
  replace H : s_NodeItems.l2.b (e1 1) (e1 11) (e1 3) (e1 12) h K1 Q := H
  unfold s_NodeItems.l2.b at H
  clear hin1
  refine WPc_seq' ?_
  refine W_region (by kernel_rfl) ?_
  refine vl_n ?_
  refine H_of_R (R_lss H fun t13 H => ?_)
  refine vl_e ?_
  refine WPc_seq (fun e h => s_NodeItems.j3 (e 1) (e 3) (e 11) (e 12) h K1 Q ∧ [e1 1, e1 11] = [e 1, e 11]) ?_ (fun e h ⟨H, hq1⟩ => ?_)
  rotate_left
  · unfold s_NodeItems.j3 at H
    refine WPc_seq (fun e h => s_NodeItems.j4 (e 1) (e 3) (e 11) (e 12) h K1 Q ∧ [e1 1, e1 11] = [e 1, e 11]) ?_ (fun e h ⟨H, hq1⟩ => ?_)
    rotate_left
    · unfold s_NodeItems.j4 at H
      refine W_region (by kernel_rfl) ?_
      refine vl_n ?_
      refine H_of_R (R_add H fun t41 H => ?_)
      refine vl_n ?_
      refine H_of_R (R_move (v := t41) rfl ?_)
      refine vl_e ?_
      exact ⟨H, hq1⟩
    refine WPc_block ?_
    refine WPc_seq' ?_
    refine W_region (by kernel_rfl) ?_
    refine vl_n ?_
    refine H_of_R (R_move (v := (e 12)) rfl ?_)
    refine vl_n ?_
    refine H_of_R (R_assign (v := (e 12)) rfl ?_)
    refine vl_e ?_
    refine WPc_seq (fun e h => s_NodeItems.j5 (e 1) (e 3) (e 4) (e 11) (e 12) h K1 Q ∧ [e1 1, e1 11] = [e 1, e 11]) ?_ (fun e h ⟨H, hq1⟩ => ?_)
    rotate_left
    · unfold s_NodeItems.j5 at H
      refine WPc_seq' ?_
      refine W_region (by kernel_rfl) ?_
      refine vl_n ?_
      refine H_of_R (R_move (v := (e 4)) rfl ?_)
      refine vl_n ?_
      refine H_of_R (R_fld TF_25_0 H fun t29 H => ?_)
      refine vl_n ?_
      refine H_of_R (R_load1 T1_22 H fun _ t30 _ _ H => ?_)
      refine vl_n ?_
      refine H_of_R (R_len Try.underlying22 H fun t31 H => ?_)
      refine vl_n ?_
      refine H_of_R (R_lss H fun t32 H => ?_)
      refine vl_e ?_
      obtain ⟨b, hc, H1, H2⟩ := H
      refine WPc_cond hc (fun hh => ?_) (fun hh => ?_)
      · have H := H1 hh; clear H1 H2
        refine W_region (by kernel_rfl) ?_
        refine vl_n ?_
        refine H_of_R (R_move (v := (e 3)) rfl ?_)
        refine vl_n ?_
        refine H_of_R (R_fld TF_25_0 H fun t34 H => ?_)
        refine vl_n ?_
        refine H_of_R (R_load1 T1_22 H fun _ t35 _ _ H => ?_)
        refine vl_n ?_
        refine H_of_R (R_move (v := (e 4)) rfl ?_)
        refine vl_n ?_
        refine H_of_R (R_idx TE_22 H fun t37 H => ?_)
        refine vl_n ?_
        refine H_of_R (R_loadN TN_27 H fun _ t38 _ _ H _ _ => ?_)
        refine vl_n ?_
        refine H_mkSl TZ_22 (by decide) rfl H rfl fun t39 h H => ?_
        refine vl_n ?_
        refine H_app TZ_22 TU_22 H fun t40 h H => ?_
        refine vl_n ?_
        refine H_of_R (R_assign (v := t40) rfl ?_)
        refine vl_e ?_
        exact ⟨H, hq1⟩
      · have H := H2 hh; clear H1 H2
        refine WPc_skip ?_
        exact ⟨H, hq1⟩
    refine WPc_seq' ?_
    refine W_region (by kernel_rfl) ?_
    refine vl_n ?_
    refine H_of_R (R_move (v := (e 12)) rfl ?_)
    refine vl_n ?_
    refine H_of_R (R_fld TF_25_1 H fun t16 H => ?_)
    refine vl_n ?_
    refine H_of_R (R_load1 T1_23 H fun _ t17 _ _ H => ?_)
    refine vl_n ?_
    refine H_of_R (R_len Try.underlying23 H fun t18 H => ?_)
    refine vl_n ?_
    refine H_of_R (R_lss H fun t19 H => ?_)
    refine vl_e ?_
    obtain ⟨b, hc, H1, H2⟩ := H
    refine WPc_cond hc (fun hh => ?_) (fun hh => ?_)
    · have H := H1 hh; clear H1 H2
      refine W_region (by kernel_rfl) ?_
      refine vl_n ?_
      refine H_of_R (R_move (v := (e 3)) rfl ?_)
      refine vl_n ?_
      refine H_of_R (R_fld TF_25_1 H fun t21 H => ?_)
      refine vl_n ?_
      refine H_of_R (R_load1 T1_23 H fun _ t22 _ _ H => ?_)
      refine vl_n ?_
      refine H_of_R (R_move (v := (e 12)) rfl ?_)
      refine vl_n ?_
      refine H_of_R (R_idx TE_23 H fun t24 H => ?_)
      refine vl_n ?_
      refine H_of_R (R_loadN TN_25 H fun _ t25 _ _ H _ _ => ?_)
      refine vl_n ?_
      refine H_call HB_19 H fun t26 h H => ?_
      refine vl_n ?_
      refine H_app TZ_22 TU_22 H fun t27 h H => ?_
      refine vl_n ?_
      refine H_of_R (R_assign (v := t27) rfl ?_)
      refine vl_e ?_
      exact ⟨H, hq1⟩
    · have H := H2 hh; clear H1 H2
      refine WPc_skip ?_
      exact ⟨H, hq1⟩
  obtain ⟨b, hc, H1, H2⟩ := H
  refine WPc_cond hc (fun hh => ?_) (fun hh => ?_)
  · have H := H1 hh; clear H1 H2
    refine WPc_skip ?_
    exact ⟨H, rfl⟩
  · have H := H2 hh; clear H1 H2
    refine WPc_exit ?_
    exact H
/-! ### spec.Width -/
def s_Width.j1 (s0 : Value) (h : Heap) (Q : Value → Heap → Prop) : Prop :=
    Q s0 h
def s_Width.sh (a0 : Value) (h : Heap) (Q : Value → Heap → Prop) : Prop :=
    cmpI (fun a b => a == b) a0 (.int .i64 0) fun t4 =>
    ifV t4
    (Q (.int .i64 32) h)
    (s_Width.j1 a0 h Q)
theorem s_Width.body (a0 : Value) (h : Heap) (Q : Value → Heap → Prop) (H : s_Width.sh a0 h Q) : s_Width.call #[a0] h Q := by
  refine callsH_of (args := [a0]) Try.func64 rfl rfl ?_
  unfold s_Width.sh at H
  refine WPc_seq' ?_
  refine W_region (by kernel_rfl) ?_
  refine vl_n ?_
  refine H_of_R (R_assign (v := (.int .i64 0)) rfl ?_)
  refine vl_e ?_
  refine WPc_seq (fun e h => s_Width.j1 (e 0) h Q) ?_ (fun e h H => ?_)
  rotate_left
  · unfold s_Width.j1 at H
    refine WPc_seq' ?_
    refine W_region (by kernel_rfl) ?_
    refine vl_n ?_
    refine H_of_R (R_move (v := (e 0)) rfl ?_)
    refine vl_n ?_
    refine H_of_R (R_assign (v := (e 0)) rfl ?_)
    refine vl_e ?_
    refine WPc_ret ?_
    refine resH_of rfl ?_
    exact H
  refine WPc_seq' ?_
  refine W_region (by kernel_rfl) ?_
  refine vl_n ?_
  refine H_of_R (R_move (v := a0) rfl ?_)
  refine vl_n ?_
  refine H_of_R (R_eqI H fun t4 H => ?_)
  refine vl_e ?_
  obtain ⟨b, hc, H1, H2⟩ := H
  refine WPc_cond hc (fun hh => ?_) (fun hh => ?_)
  · have H := H1 hh; clear H1 H2
    refine WPc_seq' ?_
    refine W_region (by kernel_rfl) ?_
    refine vl_n ?_
    refine H_of_R (R_assign (v := (.int .i64 32)) rfl ?_)
    refine vl_e ?_
    refine WPc_ret ?_
    refine resH_of rfl ?_
    exact H
  · have H := H2 hh; clear H1 H2
    refine WPc_skip ?_
    exact H
/-! ### spec.Levels -/
def s_Levels.j3 (s4 : Value) (s5 : Value) (h : Heap) (Q : Value → Heap → Prop) : Prop :=
    arith (· + ·) s4 (.int .i64 1) fun t54 =>
    Q (.tuple #[t54, s5]) h
def s_Levels.j6 (s4 : Value) (s5 : Value) (s32 : Value) (s33 : Value) (s34 : Value) (h : Heap) (K1 : List Value → Heap → Prop) (Q : Value → Heap → Prop) : Prop :=
    arith (· + ·) s34 (.int .i64 1) fun t52 =>
    K1 [s5, t52] h
def s_Levels.j5 (s4 : Value) (s5 : Value) (s32 : Value) (s33 : Value) (s34 : Value) (h : Heap) (K1 : List Value → Heap → Prop) (Q : Value → Heap → Prop) : Prop :=
    idx 3 s32 s34 fun t36 =>
    loadN 3 t36 h fun t37 =>
    alloc [(.slice none 0 0), (.slice none 0 0), (.int .i64 0)] 25 h fun t7 h =>
    storeN 3 t7 t37 h fun h =>
    loadN 3 t7 h fun t39 =>
    s_Levels.call #[t39] h fun t40 h =>
    extr 0 t40 fun t41 =>
    extr 1 t40 fun t42 =>
    br s5 true (br t42 true (cmpI (fun a b => a == b) t41 s4 fun t50 =>
    s_Levels.j6 s4 t50 s32 s33 s34 h K1 Q) (s_Levels.j6 s4 (.bool false) s32 s33 s34 h K1 Q)) (s_Levels.j6 s4 (.bool false) s32 s33 s34 h K1 Q)
def s_Levels.l4.b (c4 : Value) (c32 : Value) (c33 : Value) (s5 : Value) (s34 : Value) (h : Heap) (K1 : List Value → Heap → Prop) (Q : Value → Heap → Prop) : Prop :=
    cmpI (fun a b => decide (a < b)) s34 c33 fun t35 =>
    ifV t35
    (s_Levels.j5 c4 s5 c32 c33 s34 h K1 Q)
    (s_Levels.j3 c4 s5 h Q)
def s_Levels.j2 (s1 : Value) (h : Heap) (Q : Value → Heap → Prop) : Prop :=
    fld 1 s1 fun t23 =>
    load1 t23 h fun t24 =>
    idx 3 t24 (.int .i64 0) fun t25 =>
    loadN 3 t25 h fun t26 =>
    s_Levels.call #[t26] h fun t27 h =>
    extr 0 t27 fun t28 =>
    extr 1 t27 fun t29 =>
    fld 1 s1 fun t30 =>
    load1 t30 h fun t31 =>
    slc 3 t31 (some (.int .i64 1)) none none fun t32 =>
    lenV t32 fun t33 =>
    loopC (fun c s h K1 => s_Levels.l4.b (c.getD 0 undef) (c.getD 1 undef) (c.getD 2 undef) (s.getD 0 undef) (s.getD 1 undef) h K1 Q) [t28, t32, t33] [t29, (.int .i64 0)] h
def s_Levels.j1 (s1 : Value) (h : Heap) (Q : Value → Heap → Prop) : Prop :=
    fld 1 s1 fun t14 =>
    load1 t14 h fun t15 =>
    lenV t15 fun t16 =>
    fld 0 s1 fun t17 =>
    load1 t17 h fun t18 =>
    lenV t18 fun t19 =>
    arith (· + ·) t19 (.int .i64 1) fun t20 =>
    cmpI (fun a b => a != b) t16 t20 fun t21 =>
    ifV t21
    (Q (.tuple #[(.int .i64 0), (.bool false)]) h)
    (s_Levels.j2 s1 h Q)
def s_Levels.sh (a0 : Value) (h : Heap) (Q : Value → Heap → Prop) : Prop :=
    box 25 a0 h fun t1 h =>
    fld 1 t1 fun t10 =>
    load1 t10 h fun t11 =>
    lenV t11 fun t12 =>
    cmpI (fun a b => a == b) t12 (.int .i64 0) fun t13 =>
    ifV t13
    (Q (.tuple #[(.int .i64 1), (.bool true)]) h)
    (s_Levels.j1 t1 h Q)
theorem s_Levels.body (a0 : Value) (h : Heap) (Q : Value → Heap → Prop) (H : s_Levels.sh a0 h Q) : s_Levels.call #[a0] h Q := by
  refine callsH_of (args := [a0]) Try.func69 rfl rfl ?_
  unfold s_Levels.sh at H
  refine WPc_seq' ?_
  refine W_region (by kernel_rfl) ?_
  refine vl_n ?_
  refine H_box H fun t1 h H => ?_
  refine vl_n ?_
  refine H_of_R (R_assign (v := (.int .i64 0)) rfl ?_)
  refine vl_n ?_
  refine H_of_R (R_assign (v := (.bool false)) rfl ?_)
  refine vl_e ?_
  refine WPc_seq (fun e h => s_Levels.j1 (e 1) h Q) ?_ (fun e h H => ?_)
  rotate_left
  · unfold s_Levels.j1 at H
    refine WPc_seq (fun e h => s_Levels.j2 (e 1) h Q) ?_ (fun e h H => ?_)
    rotate_left
    · unfold s_Levels.j2 at H
      refine WPc_seq' ?_
      refine W_region (by kernel_rfl) ?_
      refine vl_n ?_
      refine H_of_R (R_fld TF_25_1 H fun t23 H => ?_)
      refine vl_n ?_
      refine H_of_R (R_load1 T1_23 H fun _ t24 _ _ H => ?_)
      refine vl_n ?_
      refine H_of_R (R_idx TE_23 H fun t25 H => ?_)
      refine vl_n ?_
      refine H_of_R (R_loadN TN_25 H fun _ t26 _ _ H _ _ => ?_)
      refine vl_n ?_
      refine H_call HB_69 H fun t27 h H => ?_
      refine vl_n ?_
      refine H_of_R (R_move (v := t27) rfl ?_)
      refine vl_n ?_
      refine H_of_R (R_ext H fun t28 H => ?_)
      refine vl_n ?_
      refine H_of_R (R_ext H fun t29 H => ?_)
      refine vl_n ?_
      refine H_of_R (R_assign (v := t28) rfl ?_)
      refine vl_n ?_
      refine H_of_R (R_assign (v := t29) rfl ?_)
      refine vl_e ?_
      refine WPc_seq (fun e h => s_Levels.j3 (e 4) (e 5) h Q) ?_ (fun e h H => ?_)
      rotate_left
      · unfold s_Levels.j3 at H
        refine WPc_seq' ?_
        refine W_region (by kernel_rfl) ?_
        refine vl_n ?_
        refine H_of_R (R_move (v := (e 4)) rfl ?_)
        refine vl_n ?_
        refine H_of_R (R_add H fun t54 H => ?_)
        refine vl_n ?_
        refine H_of_R (R_move (v := (e 5)) rfl ?_)
        refine vl_n ?_
        refine H_of_R (R_assign (v := t54) rfl ?_)
        refine vl_n ?_
        refine H_of_R (R_assign (v := (e 5)) rfl ?_)
        refine vl_e ?_
        refine WPc_ret ?_
        refine resH_of rfl ?_
        exact H
      refine WPc_seq' ?_
      refine W_region (by kernel_rfl) ?_
      refine vl_n ?_
      refine H_of_R (R_fld TF_25_1 H fun t30 H => ?_)
      refine vl_n ?_
      refine H_of_R (R_load1 T1_23 H fun _ t31 _ _ H => ?_)
      refine vl_n ?_
      refine H_of_R (R_slice TE_23 (by decide) H fun t32 H => ?_)
      refine vl_n ?_
      refine H_of_R (R_len Try.underlying23 H fun t33 H => ?_)
      refine vl_n ?_
      refine H_of_R (R_move (v := (.int .i64 0)) rfl ?_)
      refine vl_e ?_
      refine WPc_block ?_
      refine loop_at (fun e => [e 5, e 34]) (fun e => [e 4, e 32, e 33]) H rfl rfl ?_
      intro K1 e1 h H hin1
      replace H : s_Levels.l4.b (e1 4) (e1 32) (e1 33) (e1 5) (e1 34) h K1 Q := H
      unfold s_Levels.l4.b at H
      clear hin1
      refine WPc_seq' ?_
      refine W_region (by kernel_rfl) ?_
      refine vl_n ?_
      refine H_of_R (R_lss H fun t35 H => ?_)
      refine vl_e ?_
      refine WPc_seq (fun e h => s_Levels.j5 (e 4) (e 5) (e 32) (e 33) (e 34) h K1 Q ∧ [e1 4, e1 32, e1 33] = [e 4, e 32, e 33]) ?_ (fun e h ⟨H, hq1⟩ => ?_)
      rotate_left
      · unfold s_Levels.j5 at H
        refine WPc_seq (fun e h => s_Levels.j6 (e 4) (e 5) (e 32) (e 33) (e 34) h K1 Q ∧ [e1 4, e1 32, e1 33] = [e 4, e 32, e 33]) ?_ (fun e h ⟨H, hq1⟩ => ?_)
        rotate_left
        · unfold s_Levels.j6 at H
          refine W_region (by kernel_rfl) ?_
          refine vl_n ?_
          refine H_of_R (R_add H fun t52 H => ?_)
          refine vl_n ?_
          refine H_of_R (R_move (v := t52) rfl ?_)
          refine vl_e ?_
          exact ⟨H, hq1⟩
        refine WPc_block ?_
        refine WPc_seq' ?_
        refine W_region (by kernel_rfl) ?_
        refine vl_n ?_
        refine H_of_R (R_idx TE_23 H fun t36 H => ?_)
        refine vl_n ?_
        refine H_of_R (R_loadN TN_25 H fun _ t37 _ _ H _ _ => ?_)
        refine vl_n ?_
        refine H_alloc TV_25 H fun t7 h H => ?_
        refine vl_n ?_
        refine H_storeN TS_25 H fun h H => ?_
        refine vl_e ?_
        refine WPc_seq' ?_
        refine W_region (by kernel_rfl) ?_
        refine vl_n ?_
        refine H_of_R (R_loadN TN_25 H fun _ t39 _ _ H _ _ => ?_)
        refine vl_n ?_
        refine H_call HB_69 H fun t40 h H => ?_
        refine vl_n ?_
        refine H_of_R (R_move (v := t40) rfl ?_)
        refine vl_n ?_
        refine H_of_R (R_ext H fun t41 H => ?_)
        refine vl_n ?_
        refine H_of_R (R_ext H fun t42 H => ?_)
        refine vl_n ?_
        refine H_of_R (R_assign (v := t41) rfl ?_)
        refine vl_n ?_
        refine H_of_R (R_assign (v := t42) rfl ?_)
        refine vl_e ?_
        refine W_region (by kernel_rfl) ?_
        refine vl_n ?_
        refine H_of_R (R_move (v := (e 5)) rfl ?_)
        refine vl_n ?_
        refine H_of_R (R_move (v := (e 5)) rfl ?_)
        obtain ⟨b, hb, H1, H2⟩ := H
        cases b
        · have H := H2 rfl; clear H1 H2
          refine vl_s rfl (nbT hb) ?_
          refine vl_n ?_
          refine H_of_R (R_pickC (v := (.bool false)) false hb rfl ?_)
          refine vl_n ?_
          refine H_of_R (R_move (v := (.bool false)) rfl ?_)
          refine vl_s rfl (nbT rfl) ?_
          refine vl_s rfl (nbT rfl) ?_
          refine vl_s rfl (nbT rfl) ?_
          refine vl_n ?_
          refine H_of_R (R_pickC (v := (.bool false)) false rfl rfl ?_)
          refine vl_n ?_
          refine H_of_R (R_assign (v := (.bool false)) rfl ?_)
          refine vl_e ?_
          exact ⟨H, hq1⟩
        · have H := H1 rfl; clear H1 H2
          refine vl_y rfl hb ?_
          refine H_of_R (R_move (v := t42) rfl ?_)
          refine vl_n ?_
          refine H_of_R (R_pickC (v := t42) true hb rfl ?_)
          refine vl_n ?_
          refine H_of_R (R_move (v := t42) rfl ?_)
          obtain ⟨b_2, hb_2, H1, H2⟩ := H
          cases b_2
          · have H := H2 rfl; clear H1 H2
            refine vl_s rfl (nbT hb_2) ?_
            refine vl_s rfl (nbT hb_2) ?_
            refine vl_s rfl (nbT hb_2) ?_
            refine vl_n ?_
            refine H_of_R (R_pickC (v := (.bool false)) false hb_2 rfl ?_)
            refine vl_n ?_
            refine H_of_R (R_assign (v := (.bool false)) rfl ?_)
            refine vl_e ?_
            exact ⟨H, hq1⟩
          · have H := H1 rfl; clear H1 H2
            refine vl_y rfl hb_2 ?_
            refine H_of_R (R_move (v := t41) rfl ?_)
            refine vl_y rfl hb_2 ?_
            refine H_of_R (R_move (v := (e 4)) rfl ?_)
            refine vl_y rfl hb_2 ?_
            refine H_of_R (R_eqI H fun t50 H => ?_)
            refine vl_n ?_
            refine H_of_R (R_pickC (v := t50) true hb_2 rfl ?_)
            refine vl_n ?_
            refine H_of_R (R_assign (v := t50) rfl ?_)
            refine vl_e ?_
            exact ⟨H, hq1⟩
      obtain ⟨b, hc, H1, H2⟩ := H
      refine WPc_cond hc (fun hh => ?_) (fun hh => ?_)
      · have H := H1 hh; clear H1 H2
        refine WPc_skip ?_
        exact ⟨H, rfl⟩
      · have H := H2 hh; clear H1 H2
        refine WPc_exit ?_
        exact H
    refine WPc_seq' ?_
    refine W_region (by kernel_rfl) ?_
    refine vl_n ?_
    refine H_of_R (R_fld TF_25_1 H fun t14 H => ?_)
    refine vl_n ?_
    refine H_of_R (R_load1 T1_23 H fun _ t15 _ _ H => ?_)
    refine vl_n ?_
    refine H_of_R (R_len Try.underlying23 H fun t16 H => ?_)
    refine vl_n ?_
    refine H_of_R (R_fld TF_25_0 H fun t17 H => ?_)
    refine vl_n ?_
    refine H_of_R (R_load1 T1_22 H fun _ t18 _ _ H => ?_)
    refine vl_n ?_
    refine H_of_R (R_len Try.underlying22 H fun t19 H => ?_)
    refine vl_n ?_
    refine H_of_R (R_add H fun t20 H => ?_)
    refine vl_n ?_
    refine H_of_R (R_neI H fun t21 H => ?_)
    refine vl_e ?_
    obtain ⟨b, hc, H1, H2⟩ := H
    refine WPc_cond hc (fun hh => ?_) (fun hh => ?_)
    · have H := H1 hh; clear H1 H2
      refine WPc_seq' ?_
      refine W_region (by kernel_rfl) ?_
      refine vl_n ?_
      refine H_of_R (R_assign (v := (.int .i64 0)) rfl ?_)
      refine vl_n ?_
      refine H_of_R (R_assign (v := (.bool false)) rfl ?_)
      refine vl_e ?_
      refine WPc_ret ?_
      refine resH_of rfl ?_
      exact H
    · have H := H2 hh; clear H1 H2
      refine WPc_skip ?_
      exact H
  refine WPc_seq' ?_
  refine W_region (by kernel_rfl) ?_
  refine vl_n ?_
  refine H_of_R (R_fld TF_25_1 H fun t10 H => ?_)
  refine vl_n ?_
  refine H_of_R (R_load1 T1_23 H fun _ t11 _ _ H => ?_)
  refine vl_n ?_
  refine H_of_R (R_len Try.underlying23 H fun t12 H => ?_)
  refine vl_n ?_
  refine H_of_R (R_eqI H fun t13 H => ?_)
  refine vl_e ?_
  obtain ⟨b, hc, H1, H2⟩ := H
  refine WPc_cond hc (fun hh => ?_) (fun hh => ?_)
  · have H := H1 hh; clear H1 H2
    refine WPc_seq' ?_
    refine W_region (by kernel_rfl) ?_
    refine vl_n ?_
    refine H_of_R (R_assign (v := (.int .i64 1)) rfl ?_)
    refine vl_n ?_
    refine H_of_R (R_assign (v := (.bool true)) rfl ?_)
    refine vl_e ?_
    refine WPc_ret ?_
    refine resH_of rfl ?_
    exact H
  · have H := H2 hh; clear H1 H2
    refine WPc_skip ?_
    exact H
/-! ### spec.Filled -/
def s_Filled.j2 (h : Heap) (Q : Value → Heap → Prop) : Prop :=
    Q (.bool true) h
def s_Filled.j5 (s0 : Value) (s24 : Value) (s25 : Value) (s26 : Value) (h : Heap) (K1 : List Value → Heap → Prop) (Q : Value → Heap → Prop) : Prop :=
    arith (· + ·) s26 (.int .i64 1) fun t36 =>
    K1 [t36] h
def s_Filled.j4 (s0 : Value) (s24 : Value) (s25 : Value) (s26 : Value) (h : Heap) (K1 : List Value → Heap → Prop) (Q : Value → Heap → Prop) : Prop :=
    idx 3 s24 s26 fun t28 =>
    loadN 3 t28 h fun t29 =>
    alloc [(.slice none 0 0), (.slice none 0 0), (.int .i64 0)] 25 h fun t8 h =>
    storeN 3 t8 t29 h fun h =>
    arith (· - ·) s0 (.int .i64 1) fun t32 =>
    loadN 3 t8 h fun t33 =>
    s_Filled.call #[s0, t32, t33] h fun t34 h =>
    notV t34 fun t35 =>
    ifV t35
    (Q (.bool false) h)
    (s_Filled.j5 s0 s24 s25 s26 h K1 Q)
def s_Filled.l3.b (c0 : Value) (c24 : Value) (c25 : Value) (s26 : Value) (h : Heap) (K1 : List Value → Heap → Prop) (Q : Value → Heap → Prop) : Prop :=
    cmpI (fun a b => decide (a < b)) s26 c25 fun t27 =>
    ifV t27
    (s_Filled.j4 c0 c24 c25 s26 h K1 Q)
    (s_Filled.j2 h Q)
def s_Filled.j1 (s0 : Value) (s5 : Value) (h : Heap) (Q : Value → Heap → Prop) : Prop :=
    fld 1 s5 fun t23 =>
    load1 t23 h fun t24 =>
    lenV t24 fun t25 =>
    loopC (fun c s h K1 => s_Filled.l3.b (c.getD 0 undef) (c.getD 1 undef) (c.getD 2 undef) (s.getD 0 undef) h K1 Q) [s0, t24, t25] [(.int .i64 0)] h
def s_Filled.sh (a0 : Value) (a1 : Value) (a2 : Value) (h : Heap) (Q : Value → Heap → Prop) : Prop :=
    box 25 a2 h fun t5 h =>
    fld 0 t5 fun t9 =>
    load1 t9 h fun t10 =>
    lenV t10 fun t11 =>
    cmpI (fun a b => decide (a < b)) t11 a1 fun t13 =>
    br t13 false (fld 0 t5 fun t15 =>
    load1 t15 h fun t16 =>
    lenV t16 fun t17 =>
    arith (· * ·) (.int .i64 2) a0 fun t19 =>
    arith (· - ·) t19 (.int .i64 1) fun t20 =>
    cmpI (fun a b => decide (a > b)) t17 t20 fun t21 =>
    ifV t21
    (Q (.bool false) h)
    (s_Filled.j1 a0 t5 h Q)) (Q (.bool false) h)
theorem s_Filled.body (a0 : Value) (a1 : Value) (a2 : Value) (h : Heap) (Q : Value → Heap → Prop) (H : s_Filled.sh a0 a1 a2 h Q) : s_Filled.call #[a0, a1, a2] h Q := by
  refine callsH_of (args := [a0, a1, a2]) Try.func105 rfl rfl ?_
  unfold s_Filled.sh at H
  refine WPc_seq' ?_
  refine W_region (by kernel_rfl) ?_
  refine vl_n ?_
  refine H_box H fun t5 h H => ?_
  refine vl_n ?_
  refine H_of_R (R_assign (v := (.bool false)) rfl ?_)
  refine vl_e ?_
  refine WPc_seq (fun e h => s_Filled.j1 (e 0) (e 5) h Q) ?_ (fun e h H => ?_)
  rotate_left
  · unfold s_Filled.j1 at H
    refine WPc_seq (fun e h => s_Filled.j2 h Q) ?_ (fun e h H => ?_)
    rotate_left
    · unfold s_Filled.j2 at H
      refine WPc_seq' ?_
      refine W_region (by kernel_rfl) ?_
      refine vl_n ?_
      refine H_of_R (R_assign (v := (.bool true)) rfl ?_)
      refine vl_e ?_
      refine WPc_ret ?_
      refine resH_of rfl ?_
      exact H
    refine WPc_seq' ?_
    refine W_region (by kernel_rfl) ?_
    refine vl_n ?_
    refine H_of_R (R_fld TF_25_1 H fun t23 H => ?_)
    refine vl_n ?_
    refine H_of_R (R_load1 T1_23 H fun _ t24 _ _ H => ?_)
    refine vl_n ?_
    refine H_of_R (R_len Try.underlying23 H fun t25 H => ?_)
    refine vl_n ?_
    refine H_of_R (R_move (v := (.int .i64 0)) rfl ?_)
    refine vl_e ?_
    refine WPc_block ?_
    refine loop_at (fun e => [e 26]) (fun e => [e 0, e 24, e 25]) H rfl rfl ?_
    intro K1 e1 h H hin1
    replace H : s_Filled.l3.b (e1 0) (e1 24) (e1 25) (e1 26) h K1 Q := H
    unfold s_Filled.l3.b at H
    clear hin1
    refine WPc_seq' ?_
    refine W_region (by kernel_rfl) ?_
    refine vl_n ?_
    refine H_of_R (R_lss H fun t27 H => ?_)
    refine vl_e ?_
    refine WPc_seq (fun e h => s_Filled.j4 (e 0) (e 24) (e 25) (e 26) h K1 Q ∧ [e1 0, e1 24, e1 25] = [e 0, e 24, e 25]) ?_ (fun e h ⟨H, hq1⟩ => ?_)
    rotate_left
    · unfold s_Filled.j4 at H
      refine WPc_seq (fun e h => s_Filled.j5 (e 0) (e 24) (e 25) (e 26) h K1 Q ∧ [e1 0, e1 24, e1 25] = [e 0, e 24, e 25]) ?_ (fun e h ⟨H, hq1⟩ => ?_)
      rotate_left
      · unfold s_Filled.j5 at H
        refine W_region (by kernel_rfl) ?_
        refine vl_n ?_
        refine H_of_R (R_add H fun t36 H => ?_)
        refine vl_n ?_
        refine H_of_R (R_move (v := t36) rfl ?_)
        refine vl_e ?_
        exact ⟨H, hq1⟩
      refine WPc_block ?_
      refine WPc_seq' ?_
      refine W_region (by kernel_rfl) ?_
      refine vl_n ?_
      refine H_of_R (R_idx TE_23 H fun t28 H => ?_)
      refine vl_n ?_
      refine H_of_R (R_loadN TN_25 H fun _ t29 _ _ H _ _ => ?_)
      refine vl_n ?_
      refine H_alloc TV_25 H fun t8 h H => ?_
      refine vl_n ?_
      refine H_storeN TS_25 H fun h H => ?_
      refine vl_e ?_
      refine WPc_seq' ?_
      refine W_region (by kernel_rfl) ?_
      refine vl_n ?_
      refine H_of_R (R_move (v := (e 0)) rfl ?_)
      refine vl_n ?_
      refine H_of_R (R_move (v := (e 0)) rfl ?_)
      refine vl_n ?_
      refine H_of_R (R_sub H fun t32 H => ?_)
      refine vl_n ?_
      refine H_of_R (R_loadN TN_25 H fun _ t33 _ _ H _ _ => ?_)
      refine vl_n ?_
      refine H_call HB_105 H fun t34 h H => ?_
      refine vl_n ?_
      refine H_of_R (R_not H fun t35 H => ?_)
      refine vl_e ?_
      obtain ⟨b, hc, H1, H2⟩ := H
      refine WPc_cond hc (fun hh => ?_) (fun hh => ?_)
      · have H := H1 hh; clear H1 H2
        refine WPc_seq' ?_
        refine W_region (by kernel_rfl) ?_
        refine vl_n ?_
        refine H_of_R (R_assign (v := (.bool false)) rfl ?_)
        refine vl_e ?_
        refine WPc_ret ?_
        refine resH_of rfl ?_
        exact H
      · have H := H2 hh; clear H1 H2
        refine WPc_skip ?_
        exact ⟨H, hq1⟩
    obtain ⟨b, hc, H1, H2⟩ := H
    refine WPc_cond hc (fun hh => ?_) (fun hh => ?_)
    · have H := H1 hh; clear H1 H2
      refine WPc_skip ?_
      exact ⟨H, rfl⟩
    · have H := H2 hh; clear H1 H2
      refine WPc_exit ?_
      exact H
  refine WPc_seq' ?_
  refine W_region (by kernel_rfl) ?_
  refine vl_n ?_
  refine H_of_R (R_fld TF_25_0 H fun t9 H => ?_)
  refine vl_n ?_
  refine H_of_R (R_load1 T1_22 H fun _ t10 _ _ H => ?_)
  refine vl_n ?_
  refine H_of_R (R_len Try.underlying22 H fun t11 H => ?_)
  refine vl_n ?_
  refine H_of_R (R_move (v := a1) rfl ?_)
  refine vl_n ?_
  refine H_of_R (R_lss H fun t13 H => ?_)
  refine vl_n ?_
  refine H_of_R (R_move (v := t13) rfl ?_)
  obtain ⟨b, hb, H1, H2⟩ := H
  cases b
  · have H := H1 rfl; clear H1 H2
    refine vl_y rfl hb ?_
    refine H_of_R (R_fld TF_25_0 H fun t15 H => ?_)
    refine vl_y rfl hb ?_
    refine H_of_R (R_load1 T1_22 H fun _ t16 _ _ H => ?_)
    refine vl_y rfl hb ?_
    refine H_of_R (R_len Try.underlying22 H fun t17 H => ?_)
    refine vl_y rfl hb ?_
    refine H_of_R (R_move (v := a0) rfl ?_)
    refine vl_y rfl hb ?_
    refine H_of_R (R_mul H fun t19 H => ?_)
    refine vl_y rfl hb ?_
    refine H_of_R (R_sub H fun t20 H => ?_)
    refine vl_y rfl hb ?_
    refine H_of_R (R_gtr H fun t21 H => ?_)
    refine vl_n ?_
    refine H_of_R (R_pickC (v := t21) false hb rfl ?_)
    refine vl_e ?_
    obtain ⟨b_2, hc, H1, H2⟩ := H
    refine WPc_cond hc (fun hh => ?_) (fun hh => ?_)
    · have H := H1 hh; clear H1 H2
      refine WPc_seq' ?_
      refine W_region (by kernel_rfl) ?_
      refine vl_n ?_
      refine H_of_R (R_assign (v := (.bool false)) rfl ?_)
      refine vl_e ?_
      refine WPc_ret ?_
      refine resH_of rfl ?_
      exact H
    · have H := H2 hh; clear H1 H2
      refine WPc_skip ?_
      exact H
  · have H := H2 rfl; clear H1 H2
    refine vl_s rfl (nbF hb) ?_
    refine vl_s rfl (nbF hb) ?_
    refine vl_s rfl (nbF hb) ?_
    refine vl_s rfl (nbF hb) ?_
    refine vl_s rfl (nbF hb) ?_
    refine vl_s rfl (nbF hb) ?_
    refine vl_s rfl (nbF hb) ?_
    refine vl_n ?_
    refine H_of_R (R_pickC (v := (.bool true)) true hb rfl ?_)
    refine vl_e ?_
    refine WPc_cond (t := true) rfl (fun _ => ?_) (fun hh => by cases hh)
    refine WPc_seq' ?_
    refine W_region (by kernel_rfl) ?_
    refine vl_n ?_
    refine H_of_R (R_assign (v := (.bool false)) rfl ?_)
    refine vl_e ?_
    refine WPc_ret ?_
    refine resH_of rfl ?_
    exact H

end Go.Proofs.Ytlihjljdndbpdaa
end
section
namespace Go.Proofs.Ytlihjljdndbpdaa
open Go.Hp
set_option maxRecDepth 100000
set_option maxHeartbeats 8000000
set_option linter.unusedVariables false
set_option linter.unusedSimpArgs false

/-! ### spec.Place -/
def s_Place.j1 (s0 : Value) (s1 : Value) (s5 : Value) (s8 : Value) (h : Heap) (Q : Value → Heap → Prop) : Prop :=
    lenV s1 fun t27 =>
    cmpI (fun a b => decide (a < b)) s8 t27 fun t28 =>
    br t28 true (loadN 2 s5 h fun t31 =>
    idx 2 s1 s8 fun t34 =>
    loadN 2 t34 h fun t35 =>
    s_Before.call #[s0, t31, t35] h fun t36 h =>
    notV t36 fun t37 =>
    Q (.tuple #[s8, t37]) h) (Q (.tuple #[s8, (.bool false)]) h)
def s_Place.j3 (s0 : Value) (s1 : Value) (s5 : Value) (s8 : Value) (h : Heap) (K1 : List Value → Heap → Prop) (Q : Value → Heap → Prop) : Prop :=
    arith (· + ·) s8 (.int .i64 1) fun t23 =>
    K1 [t23] h
def s_Place.l2.b (c0 : Value) (c1 : Value) (c5 : Value) (s8 : Value) (h : Heap) (K1 : List Value → Heap → Prop) (Q : Value → Heap → Prop) : Prop :=
    lenV c1 fun t11 =>
    cmpI (fun a b => decide (a < b)) s8 t11 fun t12 =>
    br t12 true (idx 2 c1 s8 fun t17 =>
    loadN 2 t17 h fun t18 =>
    loadN 2 c5 h fun t19 =>
    s_Before.call #[c0, t18, t19] h fun t20 h =>
    ifV t20
    (s_Place.j3 c0 c1 c5 s8 h K1 Q)
    (s_Place.j1 c0 c1 c5 s8 h Q)) (s_Place.j1 c0 c1 c5 s8 h Q)
def s_Place.sh (a0 : Value) (a1 : Value) (a2 : Value) (h : Heap) (Q : Value → Heap → Prop) : Prop :=
    box 27 a2 h fun t5 h =>
    loopC (fun c s h K1 => s_Place.l2.b (c.getD 0 undef) (c.getD 1 undef) (c.getD 2 undef) (s.getD 0 undef) h K1 Q) [a0, a1, t5] [(.int .i64 0)] h
theorem s_Place.body (a0 : Value) (a1 : Value) (a2 : Value) (h : Heap) (Q : Value → Heap → Prop) (H : s_Place.sh a0 a1 a2 h Q) : s_Place.call #[a0, a1, a2] h Q := by
  refine callsH_of (args := [a0, a1, a2]) Try.func67 rfl rfl ?_
  unfold s_Place.sh at H
  refine WPc_seq' ?_
  refine W_region (by kernel_rfl) ?_
  refine vl_n ?_
  refine H_box H fun t5 h H => ?_
  refine vl_n ?_
  refine H_of_R (R_assign (v := (.int .i64 0)) rfl ?_)
  refine vl_n ?_
  refine H_of_R (R_assign (v := (.bool false)) rfl ?_)
  refine vl_e ?_
  refine WPc_seq' ?_
  refine W_region (by kernel_rfl) ?_
  refine vl_n ?_
  refine H_of_R (R_assign (v := (.int .i64 0)) rfl ?_)
  refine vl_e ?_
  refine WPc_seq (fun e h => s_Place.j1 (e 0) (e 1) (e 5) (e 8) h Q) ?_ (fun e h H => ?_)
  rotate_left
  · unfold s_Place.j1 at H
    refine WPc_seq' ?_
    refine W_drawn [0, 0, 0, 4, 14, 30, 62, 62, 62, 62, 830, 1854, 4094, 8190, 16382, 8191, 65535] (.take 0 (.take 1 (.take 2 (.take 3 (.take 4 (.take 5 (.take 6 (.take 7 (.take 8 (.take 9 (.take 10 (.take 11 (.alt 12 (.take 13 (.take 14 (.take 15 (.take 16 .done)))) .none))))))))))))) mixed (by kernel_rfl) ?_
    refine tkP rfl ?_
    refine R_move (v := (e 8)) rfl ⟨fun _ => trivial, ?_⟩
    refine tkP rfl ?_
    refine R_move (v := (e 8)) rfl ⟨fun _ => trivial, ?_⟩
    refine tkP rfl ?_
    refine R_move (v := (e 1)) rfl ⟨fun _ => trivial, ?_⟩
    refine tkP rfl ?_
    refine R_len Try.underlying22 H fun t27 H => ⟨fun _ => trivial, ?_⟩
    refine tkP rfl ?_
    refine R_lss H fun t28 H => ⟨fun _ => trivial, ?_⟩
    refine tkP rfl ?_
    refine R_move (v := t28) rfl ⟨fun _ => trivial, ?_⟩
    obtain ⟨b, hb, H1, H2⟩ := H
    cases b
    · have H := H2 rfl; clear H1 H2
      refine tk_s rfl rfl (nbT hb) ?_
      refine tk_s rfl rfl (nbT hb) ?_
      refine tk_s rfl rfl (nbT hb) ?_
      refine tk_s rfl rfl (nbT hb) ?_
      refine tk_s rfl rfl (nbT hb) ?_
      refine tk_s rfl rfl (nbT hb) ?_
      refine alt_s rfl rfl (nbT hb) ?_ vp_none
      refine tk_s rfl rfl (nbT hb) ?_
      refine tkP rfl ?_
      refine R_pickC (v := (.bool false)) false hb rfl ⟨fun _ => trivial, ?_⟩
      refine tkP rfl ?_
      refine R_assign (v := (e 8)) rfl ⟨fun _ => trivial, ?_⟩
      refine tkP rfl ?_
      refine R_assign (v := (.bool false)) rfl ⟨fun _ => trivial, ?_⟩
      refine vp_done ?_
      refine WPc_ret ?_
      refine resH_of rfl ?_
      exact H
    · have H := H1 rfl; clear H1 H2
      refine tkPy rfl rfl hb ?_
      refine R_move (v := (e 0)) rfl ⟨fun _ => trivial, ?_⟩
      refine tkLy rfl rfl hb ?_
      refine R_loadN TN_27 H fun at31 xt31 hat31 _ H St31 hSt31 => ?_
      refine tkPy rfl rfl hb ?_
      refine R_move (v := (e 1)) rfl ⟨fun _ => trivial, ?_⟩
      refine tkPy rfl rfl hb ?_
      refine R_move (v := (e 8)) rfl ⟨fun _ => trivial, ?_⟩
      refine tkPy rfl rfl hb ?_
      refine R_idx TE_22 H fun t34 H => ⟨fun _ => trivial, ?_⟩
      refine tkLy rfl rfl hb ?_
      refine R_loadN TN_27 H fun at35 xt35 hat35 _ H St35 hSt35 => ?_
      refine alt_y rfl rfl hb ?_ vp_none
      refine H_call HB_124 H fun t36 h H => ⟨(hskip rfl (hskip rfl hnil)), ?_⟩
      refine tkPy rfl rfl hb ?_
      refine R_not H fun t37 H => ⟨fun _ => trivial, ?_⟩
      refine tkP rfl ?_
      refine R_pickC (v := t37) true hb rfl ⟨fun _ => trivial, ?_⟩
      refine tkP rfl ?_
      refine R_assign (v := (e 8)) rfl ⟨fun _ => trivial, ?_⟩
      refine tkP rfl ?_
      refine R_assign (v := t37) rfl ⟨fun _ => trivial, ?_⟩
      refine vp_done ?_
      refine WPc_ret ?_
      refine resH_of rfl ?_
      exact H
  refine WPc_block ?_
  refine loop_at (fun e => [e 8]) (fun e => [e 0, e 1, e 5]) H rfl rfl ?_
  intro K1 e1 h H hin1
  replace H : s_Place.l2.b (e1 0) (e1 1) (e1 5) (e1 8) h K1 Q := H
  unfold s_Place.l2.b at H
  clear hin1
  refine WPc_seq (fun e h => s_Place.j3 (e 0) (e 1) (e 5) (e 8) h K1 Q ∧ [e1 0, e1 1, e1 5] = [e 0, e 1, e 5]) ?_ (fun e h ⟨H, hq1⟩ => ?_)
  rotate_left
  · unfold s_Place.j3 at H
    refine WPc_block ?_
    refine W_region (by kernel_rfl) ?_
    refine vl_n ?_
    refine H_of_R (R_move (v := (e 8)) rfl ?_)
    refine vl_n ?_
    refine H_of_R (R_add H fun t23 H => ?_)
    refine vl_n ?_
    refine H_of_R (R_assign (v := t23) rfl ?_)
    refine vl_e ?_
    exact ⟨H, hq1⟩
  refine WPc_seq' ?_
  refine W_drawn [0, 0, 2, 7, 15, 31, 31, 31, 223, 479, 31, 2047, 4095] (.take 0 (.take 1 (.take 2 (.take 3 (.take 4 (.take 5 (.take 6 (.take 7 (.take 8 (.take 9 (.take 10 (.alt 11 (.take 12 .done) .none)))))))))))) mixed (by kernel_rfl) ?_
  refine tkP rfl ?_
  refine R_move (v := (e1 8)) rfl ⟨fun _ => trivial, ?_⟩
  refine tkP rfl ?_
  refine R_move (v := (e1 1)) rfl ⟨fun _ => trivial, ?_⟩
  refine tkP rfl ?_
  refine R_len Try.underlying22 H fun t11 H => ⟨fun _ => trivial, ?_⟩
  refine tkP rfl ?_
  refine R_lss H fun t12 H => ⟨fun _ => trivial, ?_⟩
  refine tkP rfl ?_
  refine R_move (v := t12) rfl ⟨fun _ => trivial, ?_⟩
  obtain ⟨b, hb, H1, H2⟩ := H
  cases b
  · have H := H2 rfl; clear H1 H2
    refine tk_s rfl rfl (nbT hb) ?_
    refine tk_s rfl rfl (nbT hb) ?_
    refine tk_s rfl rfl (nbT hb) ?_
    refine tk_s rfl rfl (nbT hb) ?_
    refine tk_s rfl rfl (nbT hb) ?_
    refine tk_s rfl rfl (nbT hb) ?_
    refine alt_s rfl rfl (nbT hb) ?_ vp_none
    refine tkP rfl ?_
    refine R_pickC (v := (.bool false)) false hb rfl ⟨fun _ => trivial, ?_⟩
    refine vp_done ?_
    refine WPc_cond (t := false) rfl (fun hh => by cases hh) (fun _ => ?_)
    refine WPc_exit ?_
    exact H
  · have H := H1 rfl; clear H1 H2
    refine tkPy rfl rfl hb ?_
    refine R_move (v := (e1 0)) rfl ⟨fun _ => trivial, ?_⟩
    refine tkPy rfl rfl hb ?_
    refine R_move (v := (e1 1)) rfl ⟨fun _ => trivial, ?_⟩
    refine tkPy rfl rfl hb ?_
    refine R_move (v := (e1 8)) rfl ⟨fun _ => trivial, ?_⟩
    refine tkPy rfl rfl hb ?_
    refine R_idx TE_22 H fun t17 H => ⟨fun _ => trivial, ?_⟩
    refine tkLy rfl rfl hb ?_
    refine R_loadN TN_27 H fun at18 xt18 hat18 _ H St18 hSt18 => ?_
    refine tkLy rfl rfl hb ?_
    refine R_loadN TN_27 H fun at19 xt19 hat19 _ H St19 hSt19 => ?_
    refine alt_y rfl rfl hb ?_ vp_none
    refine H_call HB_124 H fun t20 h H => ⟨(hskip rfl (hskip rfl hnil)), ?_⟩
    refine tkP rfl ?_
    refine R_pickC (v := t20) true hb rfl ⟨fun _ => trivial, ?_⟩
    refine vp_done ?_
    obtain ⟨b_2, hc, H1, H2⟩ := H
    refine WPc_cond hc (fun hh => ?_) (fun hh => ?_)
    · have H := H1 hh; clear H1 H2
      refine WPc_skip ?_
      exact ⟨H, rfl⟩
    · have H := H2 hh; clear H1 H2
      refine WPc_exit ?_
      exact H
end Go.Proofs.Ytlihjljdndbpdaa
end
section
namespace Go.Proofs.Ytlihjljdndbpdaa
open Go.Hp
set_option maxRecDepth 100000
set_option maxHeartbeats 8000000
set_option linter.unusedVariables false
set_option linter.unusedSimpArgs false

/-! ### impl.found -/
def i_found.j1 (s2 : Value) (s4 : Value) (h : Heap) (Q : Value → Heap → Prop) : Prop :=
    loadN 2 s2 h fun t8 =>
    buildV [(.int .i64 0), (.int .i64 0), (.bool false)] [(0, 2, t8), (2, 1, (.bool true))] fun t9 =>
    storeN 3 s4 t9 h fun h =>
    loadN 3 s4 h fun r4 =>
    Q r4 h
def i_found.sh (a0 : Value) (a1 : Value) (h : Heap) (Q : Value → Heap → Prop) : Prop :=
    box 27 a0 h fun t2 h =>
    alloc [(.int .i64 0), (.int .i64 0), (.bool false)] 32 h fun t4 h =>
    notV a1 fun t6 =>
    ifV t6
    (buildV [(.int .i64 0), (.int .i64 0), (.bool false)] [] fun t7 =>
    storeN 3 t4 t7 h fun h =>
    loadN 3 t4 h fun r4 =>
    Q r4 h)
    (i_found.j1 t2 t4 h Q)
theorem i_found.body (a0 : Value) (a1 : Value) (h : Heap) (Q : Value → Heap → Prop) (H : i_found.sh a0 a1 h Q) : i_found.call #[a0, a1] h Q := by
  refine callsH_of (args := [a0, a1]) Try.func116 rfl rfl ?_
  unfold i_found.sh at H
  refine WPc_seq' ?_
  refine W_region (by kernel_rfl) ?_
  refine vl_n ?_
  refine H_box H fun t2 h H => ?_
  refine vl_n ?_
  refine H_alloc TV_32 H fun t4 h H => ?_
  refine vl_e ?_
  refine WPc_seq (fun e h => i_found.j1 (e 2) (e 4) h Q) ?_ (fun e h H => ?_)
  rotate_left
  · unfold i_found.j1 at H
    refine WPc_seq' ?_
    refine W_region (by kernel_rfl) ?_
    refine vl_n ?_
    refine H_of_R (R_loadN TN_27 H fun _ t8 _ _ H _ _ => ?_)
    refine vl_n ?_
    refine H_of_R (R_build TB_32 rfl (by decide) H fun t9 H => ?_)
    refine vl_n ?_
    refine H_storeN TS_32 H fun h H => ?_
    refine vl_e ?_
    refine WPc_ret ?_
    refine resH_of rfl ?_
    refine resL_N TN_32 ?_
    refine loadN_imp H fun r4 H => ?_
    exact H
  refine WPc_seq' ?_
  refine W_region (by kernel_rfl) ?_
  refine vl_n ?_
  refine H_of_R (R_move (v := a1) rfl ?_)
  refine vl_n ?_
  refine H_of_R (R_not H fun t6 H => ?_)
  refine vl_e ?_
  obtain ⟨b, hc, H1, H2⟩ := H
  refine WPc_cond hc (fun hh => ?_) (fun hh => ?_)
  · have H := H1 hh; clear H1 H2
    refine WPc_seq' ?_
    refine W_region (by kernel_rfl) ?_
    refine vl_n ?_
    refine H_of_R (R_build TB_32 rfl (by decide) H fun t7 H => ?_)
    refine vl_n ?_
    refine H_storeN TS_32 H fun h H => ?_
    refine vl_e ?_
    refine WPc_ret ?_
    refine resH_of rfl ?_
    refine resL_N TN_32 ?_
    refine loadN_imp H fun r4 H => ?_
    exact H
  · have H := H2 hh; clear H1 H2
    refine WPc_skip ?_
    exact H
/-! ### impl.pair -/
def i_pair.sh (a0 : Value) (a1 : Value) (a2 : Value) (h : Heap) (Q : Value → Heap → Prop) : Prop :=
    alloc [(.int .i64 0), (.int .i64 0), (.bool false)] 32 h fun t6 h =>
    buildV [(.int .i64 0), (.int .i64 0)] [(0, 1, a0), (1, 1, a1)] fun t9 =>
    i_found.call #[t9, a2] h fun t11 h =>
    storeN 3 t6 t11 h fun h =>
    loadN 3 t6 h fun r6 =>
    Q r6 h
theorem i_pair.body (a0 : Value) (a1 : Value) (a2 : Value) (h : Heap) (Q : Value → Heap → Prop) (H : i_pair.sh a0 a1 a2 h Q) : i_pair.call #[a0, a1, a2] h Q := by
  refine callsH_of (args := [a0, a1, a2]) Try.func60 rfl rfl ?_
  unfold i_pair.sh at H
  refine WPc_seq' ?_
  refine W_region (by kernel_rfl) ?_
  refine vl_n ?_
  refine H_alloc TV_32 H fun t6 h H => ?_
  refine vl_e ?_
  refine WPc_seq' ?_
  refine W_region (by kernel_rfl) ?_
  refine vl_n ?_
  refine H_of_R (R_move (v := a0) rfl ?_)
  refine vl_n ?_
  refine H_of_R (R_move (v := a1) rfl ?_)
  refine vl_n ?_
  refine H_of_R (R_build TB_27 rfl (by decide) H fun t9 H => ?_)
  refine vl_n ?_
  refine H_of_R (R_move (v := a2) rfl ?_)
  refine vl_n ?_
  refine H_call HB_116 H fun t11 h H => ?_
  refine vl_n ?_
  refine H_storeN TS_32 H fun h H => ?_
  refine vl_e ?_
  refine WPc_ret ?_
  refine resH_of rfl ?_
  refine resL_N TN_32 ?_
  refine loadN_imp H fun r6 H => ?_
  exact H
/-! ### (*pub/tidwallbtree.Map[int, int]).DoorRoot -/
def Map_ii_DoorRoot.sh (a0 : Value) (h : Heap) (Q : Value → Heap → Prop) : Prop :=
    alloc [(.pointer none)] 175 h fun t2 h =>
    nilck a0 fun t5 =>
    fld 2 t5 fun t6 =>
    load1 t6 h fun t7 =>
    buildV [(.pointer none)] [(0, 1, t7)] fun t8 =>
    nilck a0 fun t10 =>
    fld 2 t10 fun t11 =>
    load1 t11 h fun t12 =>
    neNilP t12 fun t13 =>
    storeN 1 t2 t8 h fun h =>
    still1 t11 t12 h ∧ loadN 1 t2 h fun r2 =>
    Q (.tuple #[r2, t13]) h
theorem Map_ii_DoorRoot.body (a0 : Value) (h : Heap) (Q : Value → Heap → Prop) (H : Map_ii_DoorRoot.sh a0 h Q) : Map_ii_DoorRoot.call #[a0] h Q := by
  refine callsH_of (args := [a0]) Try.func117 rfl rfl ?_
  unfold Map_ii_DoorRoot.sh at H
  refine WPc_seq' ?_
  refine W_region (by kernel_rfl) ?_
  refine vl_n ?_
  refine H_alloc TV_175 H fun t2 h H => ?_
  refine vl_n ?_
  refine H_of_R (R_assign (v := (.bool false)) rfl ?_)
  refine vl_e ?_
  refine WPc_seq' ?_
  refine W_drawn [0, 1, 3, 7, 15, 0, 32, 96, 224, 480, 31, 2047] (.take 0 (.take 1 (.take 2 (.take 3 (.take 4 (.take 5 (.take 6 (.take 7 (.take 8 (.take 9 (.alt 10 (.take 11 .done) .none))))))))))) mixed (by kernel_rfl) ?_
  refine tkP rfl ?_
  refine R_move (v := a0) rfl ⟨fun _ => trivial, ?_⟩
  refine tkP rfl ?_
  refine R_nil H fun t5 H => ⟨fun _ => trivial, ?_⟩
  refine tkP rfl ?_
  refine R_fld TF_182_2 H fun t6 H => ⟨fun _ => trivial, ?_⟩
  refine tkL rfl ?_
  refine R_load1 T1_173 H fun at7 t7 hat7 _ H => ?_
  refine tkP rfl ?_
  refine R_build TB_175 rfl (by decide) H fun t8 H => ⟨fun _ => trivial, ?_⟩
  refine tkP rfl ?_
  refine R_move (v := a0) rfl ⟨fun _ => trivial, ?_⟩
  refine tkP rfl ?_
  refine R_nil H fun t10 H => ⟨fun _ => trivial, ?_⟩
  refine tkP rfl ?_
  refine R_fld TF_182_2 H fun t11 H => ⟨fun _ => trivial, ?_⟩
  refine tkL rfl ?_
  refine R_load1 T1_173 H fun at12 t12 hat12 _ H => ?_
  refine tkP rfl ?_
  refine R_neNilP Try.underlying173 rfl H fun t13 H => ⟨fun _ => trivial, ?_⟩
  refine alt_n rfl ?_ vp_none
  refine H_storeN TS_175 H fun h ⟨S, H⟩ => ⟨(hcons rfl (still_1 S hat12) (hskip rfl hnil)), ?_⟩
  refine tkP rfl ?_
  refine R_assign (v := t13) rfl ⟨fun _ => trivial, ?_⟩
  refine vp_done ?_
  refine WPc_ret ?_
  refine resH_of rfl ?_
  refine resL_N TN_175 ?_
  refine loadN_imp H fun r2 H => ?_
  refine resL_t ?_
  exact H
/-! ### (pub/tidwallbtree.DoorMapNode[int, int]).DoorCount -/
def DoorMapNode_ii_DoorCount.sh (a0 : Value) (h : Heap) (Q : Value → Heap → Prop) : Prop :=
    box 175 a0 h fun t1 h =>
    fld 0 t1 fun t3 =>
    load1 t3 h fun t4 =>
    nilck t4 fun t5 =>
    fld 1 t5 fun t6 =>
    load1 t6 h fun t7 =>
    Q t7 h
theorem DoorMapNode_ii_DoorCount.body (a0 : Value) (h : Heap) (Q : Value → Heap → Prop) (H : DoorMapNode_ii_DoorCount.sh a0 h Q) : DoorMapNode_ii_DoorCount.call #[a0] h Q := by
  refine callsH_of (args := [a0]) Try.func157 rfl rfl ?_
  unfold DoorMapNode_ii_DoorCount.sh at H
  refine WPc_seq' ?_
  refine W_region (by kernel_rfl) ?_
  refine vl_n ?_
  refine H_box H fun t1 h H => ?_
  refine vl_n ?_
  refine H_of_R (R_assign (v := (.int .i64 0)) rfl ?_)
  refine vl_e ?_
  refine WPc_seq' ?_
  refine W_region (by kernel_rfl) ?_
  refine vl_n ?_
  refine H_of_R (R_fld TF_175_0 H fun t3 H => ?_)
  refine vl_n ?_
  refine H_of_R (R_load1 T1_173 H fun _ t4 _ _ H => ?_)
  refine vl_n ?_
  refine H_of_R (R_nil H fun t5 H => ?_)
  refine vl_n ?_
  refine H_of_R (R_fld TF_188_1 H fun t6 H => ?_)
  refine vl_n ?_
  refine H_of_R (R_load1 T1_3 H fun _ t7 _ _ H => ?_)
  refine vl_n ?_
  refine H_of_R (R_assign (v := t7) rfl ?_)
  refine vl_e ?_
  refine WPc_ret ?_
  refine resH_of rfl ?_
  exact H
/-! ### (pub/tidwallbtree.DoorMapNode[int, int]).DoorLen -/
def DoorMapNode_ii_DoorLen.sh (a0 : Value) (h : Heap) (Q : Value → Heap → Prop) : Prop :=
    box 175 a0 h fun t1 h =>
    fld 0 t1 fun t3 =>
    load1 t3 h fun t4 =>
    nilck t4 fun t5 =>
    fld 2 t5 fun t6 =>
    load1 t6 h fun t7 =>
    lenV t7 fun t8 =>
    Q t8 h
theorem DoorMapNode_ii_DoorLen.body (a0 : Value) (h : Heap) (Q : Value → Heap → Prop) (H : DoorMapNode_ii_DoorLen.sh a0 h Q) : DoorMapNode_ii_DoorLen.call #[a0] h Q := by
  refine callsH_of (args := [a0]) Try.func158 rfl rfl ?_
  unfold DoorMapNode_ii_DoorLen.sh at H
  refine WPc_seq' ?_
  refine W_region (by kernel_rfl) ?_
  refine vl_n ?_
  refine H_box H fun t1 h H => ?_
  refine vl_n ?_
  refine H_of_R (R_assign (v := (.int .i64 0)) rfl ?_)
  refine vl_e ?_
  refine WPc_seq' ?_
  refine W_region (by kernel_rfl) ?_
  refine vl_n ?_
  refine H_of_R (R_fld TF_175_0 H fun t3 H => ?_)
  refine vl_n ?_
  refine H_of_R (R_load1 T1_173 H fun _ t4 _ _ H => ?_)
  refine vl_n ?_
  refine H_of_R (R_nil H fun t5 H => ?_)
  refine vl_n ?_
  refine H_of_R (R_fld TF_188_2 H fun t6 H => ?_)
  refine vl_n ?_
  refine H_of_R (R_load1 T1_185 H fun _ t7 _ _ H => ?_)
  refine vl_n ?_
  refine H_of_R (R_len Try.underlying185 H fun t8 H => ?_)
  refine vl_n ?_
  refine H_of_R (R_assign (v := t8) rfl ?_)
  refine vl_e ?_
  refine WPc_ret ?_
  refine resH_of rfl ?_
  exact H
/-! ### (pub/tidwallbtree.DoorMapNode[int, int]).DoorAt -/
def DoorMapNode_ii_DoorAt.sh (a0 : Value) (a1 : Value) (h : Heap) (Q : Value → Heap → Prop) : Prop :=
    box 175 a0 h fun t2 h =>
    fld 0 t2 fun t6 =>
    load1 t6 h fun t7 =>
    nilck t7 fun t8 =>
    fld 2 t8 fun t9 =>
    load1 t9 h fun t10 =>
    idx 2 t10 a1 fun t12 =>
    fld 1 t12 fun t13 =>
    load1 t13 h fun t14 =>
    fld 0 t2 fun t15 =>
    load1 t15 h fun t16 =>
    nilck t16 fun t17 =>
    fld 2 t17 fun t18 =>
    load1 t18 h fun t19 =>
    idx 2 t19 a1 fun t21 =>
    fld 0 t21 fun t22 =>
    load1 t22 h fun t23 =>
    Q (.tuple #[t14, t23]) h
theorem DoorMapNode_ii_DoorAt.body (a0 : Value) (a1 : Value) (h : Heap) (Q : Value → Heap → Prop) (H : DoorMapNode_ii_DoorAt.sh a0 a1 h Q) : DoorMapNode_ii_DoorAt.call #[a0, a1] h Q := by
  refine callsH_of (args := [a0, a1]) Try.func159 rfl rfl ?_
  unfold DoorMapNode_ii_DoorAt.sh at H
  refine WPc_seq' ?_
  refine W_region (by kernel_rfl) ?_
  refine vl_n ?_
  refine H_box H fun t2 h H => ?_
  refine vl_n ?_
  refine H_of_R (R_assign (v := (.int .i64 0)) rfl ?_)
  refine vl_n ?_
  refine H_of_R (R_assign (v := (.int .i64 0)) rfl ?_)
  refine vl_e ?_
  refine WPc_seq' ?_
  refine W_drawn [0, 1, 3, 7, 15, 0, 63, 127, 255, 0, 512, 1536, 3584, 7680, 0, 32256, 65024, 130560, 511, 524287] (.take 0 (.take 1 (.take 2 (.take 3 (.take 4 (.take 5 (.take 6 (.take 7 (.take 8 (.take 9 (.take 10 (.take 11 (.take 12 (.take 13 (.take 14 (.take 15 (.take 16 (.take 17 (.take 18 (.take 19 .done)))))))))))))))))))) mixed (by kernel_rfl) ?_
  refine tkP rfl ?_
  refine R_fld TF_175_0 H fun t6 H => ⟨fun _ => trivial, ?_⟩
  refine tkL rfl ?_
  refine R_load1 T1_173 H fun at7 t7 hat7 _ H => ?_
  refine tkP rfl ?_
  refine R_nil H fun t8 H => ⟨fun _ => trivial, ?_⟩
  refine tkP rfl ?_
  refine R_fld TF_188_2 H fun t9 H => ⟨fun _ => trivial, ?_⟩
  refine tkL rfl ?_
  refine R_load1 T1_185 H fun at10 t10 hat10 _ H => ?_
  refine tkP rfl ?_
  refine R_move (v := a1) rfl ⟨fun _ => trivial, ?_⟩
  refine tkP rfl ?_
  refine R_idx TE_185 H fun t12 H => ⟨fun _ => trivial, ?_⟩
  refine tkP rfl ?_
  refine R_fld TF_178_1 H fun t13 H => ⟨fun _ => trivial, ?_⟩
  refine tkL rfl ?_
  refine R_load1 T1_3 H fun at14 t14 hat14 _ H => ?_
  refine tkP rfl ?_
  refine R_fld TF_175_0 H fun t15 H => ⟨fun _ => trivial, ?_⟩
  refine tkL rfl ?_
  refine R_load1 T1_173 H fun at16 t16 hat16 _ H => ?_
  refine tkP rfl ?_
  refine R_nil H fun t17 H => ⟨fun _ => trivial, ?_⟩
  refine tkP rfl ?_
  refine R_fld TF_188_2 H fun t18 H => ⟨fun _ => trivial, ?_⟩
  refine tkL rfl ?_
  refine R_load1 T1_185 H fun at19 t19 hat19 _ H => ?_
  refine tkP rfl ?_
  refine R_move (v := a1) rfl ⟨fun _ => trivial, ?_⟩
  refine tkP rfl ?_
  refine R_idx TE_185 H fun t21 H => ⟨fun _ => trivial, ?_⟩
  refine tkP rfl ?_
  refine R_fld TF_178_0 H fun t22 H => ⟨fun _ => trivial, ?_⟩
  refine tkL rfl ?_
  refine R_load1 T1_3 H fun at23 t23 hat23 _ H => ?_
  refine tkP rfl ?_
  refine R_assign (v := t14) rfl ⟨fun _ => trivial, ?_⟩
  refine tkP rfl ?_
  refine R_assign (v := t23) rfl ⟨fun _ => trivial, ?_⟩
  refine vp_done ?_
  refine WPc_ret ?_
  refine resH_of rfl ?_
  exact H
/-! ### (pub/tidwallbtree.DoorMapNode[int, int]).DoorIsLeaf -/
def DoorMapNode_ii_DoorIsLeaf.sh (a0 : Value) (h : Heap) (Q : Value → Heap → Prop) : Prop :=
    box 175 a0 h fun t1 h =>
    fld 0 t1 fun t3 =>
    load1 t3 h fun t4 =>
    mapNode_ii_leaf.call #[t4] h fun t5 h =>
    Q t5 h
theorem DoorMapNode_ii_DoorIsLeaf.body (a0 : Value) (h : Heap) (Q : Value → Heap → Prop) (H : DoorMapNode_ii_DoorIsLeaf.sh a0 h Q) : DoorMapNode_ii_DoorIsLeaf.call #[a0] h Q := by
  refine callsH_of (args := [a0]) Try.func160 rfl rfl ?_
  unfold DoorMapNode_ii_DoorIsLeaf.sh at H
  refine WPc_seq' ?_
  refine W_region (by kernel_rfl) ?_
  refine vl_n ?_
  refine H_box H fun t1 h H => ?_
  refine vl_n ?_
  refine H_of_R (R_assign (v := (.bool false)) rfl ?_)
  refine vl_e ?_
  refine WPc_seq' ?_
  refine W_region (by kernel_rfl) ?_
  refine vl_n ?_
  refine H_of_R (R_fld TF_175_0 H fun t3 H => ?_)
  refine vl_n ?_
  refine H_of_R (R_load1 T1_173 H fun _ t4 _ _ H => ?_)
  refine vl_n ?_
  refine H_call HB_126 H fun t5 h H => ?_
  refine vl_n ?_
  refine H_of_R (R_assign (v := t5) rfl ?_)
  refine vl_e ?_
  refine WPc_ret ?_
  refine resH_of rfl ?_
  exact H
/-! ### (pub/tidwallbtree.DoorMapNode[int, int]).DoorKids -/
def DoorMapNode_ii_DoorKids.sh (a0 : Value) (h : Heap) (Q : Value → Heap → Prop) : Prop :=
    box 175 a0 h fun t1 h =>
    fld 0 t1 fun t3 =>
    load1 t3 h fun t4 =>
    nilck t4 fun t5 =>
    fld 3 t5 fun t6 =>
    load1 t6 h fun t7 =>
    nilck t7 fun t8 =>
    load1 t8 h fun t9 =>
    lenV t9 fun t10 =>
    Q t10 h
theorem DoorMapNode_ii_DoorKids.body (a0 : Value) (h : Heap) (Q : Value → Heap → Prop) (H : DoorMapNode_ii_DoorKids.sh a0 h Q) : DoorMapNode_ii_DoorKids.call #[a0] h Q := by
  refine callsH_of (args := [a0]) Try.func161 rfl rfl ?_
  unfold DoorMapNode_ii_DoorKids.sh at H
  refine WPc_seq' ?_
  refine W_region (by kernel_rfl) ?_
  refine vl_n ?_
  refine H_box H fun t1 h H => ?_
  refine vl_n ?_
  refine H_of_R (R_assign (v := (.int .i64 0)) rfl ?_)
  refine vl_e ?_
  refine WPc_seq' ?_
  refine W_region (by kernel_rfl) ?_
  refine vl_n ?_
  refine H_of_R (R_fld TF_175_0 H fun t3 H => ?_)
  refine vl_n ?_
  refine H_of_R (R_load1 T1_173 H fun _ t4 _ _ H => ?_)
  refine vl_n ?_
  refine H_of_R (R_nil H fun t5 H => ?_)
  refine vl_n ?_
  refine H_of_R (R_fld TF_188_3 H fun t6 H => ?_)
  refine vl_n ?_
  refine H_of_R (R_load1 T1_186 H fun _ t7 _ _ H => ?_)
  refine vl_n ?_
  refine H_of_R (R_nil H fun t8 H => ?_)
  refine vl_n ?_
  refine H_of_R (R_load1 T1_194 H fun _ t9 _ _ H => ?_)
  refine vl_n ?_
  refine H_of_R (R_len Try.underlying194 H fun t10 H => ?_)
  refine vl_n ?_
  refine H_of_R (R_assign (v := t10) rfl ?_)
  refine vl_e ?_
  refine WPc_ret ?_
  refine resH_of rfl ?_
  exact H
/-! ### (pub/tidwallbtree.DoorMapNode[int, int]).DoorKid -/
def DoorMapNode_ii_DoorKid.sh (a0 : Value) (a1 : Value) (h : Heap) (Q : Value → Heap → Prop) : Prop :=
    box 175 a0 h fun t2 h =>
    alloc [(.pointer none)] 175 h fun t4 h =>
    fld 0 t2 fun t5 =>
    load1 t5 h fun t6 =>
    nilck t6 fun t7 =>
    fld 3 t7 fun t8 =>
    load1 t8 h fun t9 =>
    nilck t9 fun t10 =>
    load1 t10 h fun t11 =>
    idx 1 t11 a1 fun t13 =>
    load1 t13 h fun t14 =>
    buildV [(.pointer none)] [(0, 1, t14)] fun t15 =>
    storeN 1 t4 t15 h fun h =>
    loadN 1 t4 h fun r4 =>
    Q r4 h
theorem DoorMapNode_ii_DoorKid.body (a0 : Value) (a1 : Value) (h : Heap) (Q : Value → Heap → Prop) (H : DoorMapNode_ii_DoorKid.sh a0 a1 h Q) : DoorMapNode_ii_DoorKid.call #[a0, a1] h Q := by
  refine callsH_of (args := [a0, a1]) Try.func162 rfl rfl ?_
  unfold DoorMapNode_ii_DoorKid.sh at H
  refine WPc_seq' ?_
  refine W_region (by kernel_rfl) ?_
  refine vl_n ?_
  refine H_box H fun t2 h H => ?_
  refine vl_n ?_
  refine H_alloc TV_175 H fun t4 h H => ?_
  refine vl_e ?_
  refine WPc_seq' ?_
  refine W_region (by kernel_rfl) ?_
  refine vl_n ?_
  refine H_of_R (R_fld TF_175_0 H fun t5 H => ?_)
  refine vl_n ?_
  refine H_of_R (R_load1 T1_173 H fun _ t6 _ _ H => ?_)
  refine vl_n ?_
  refine H_of_R (R_nil H fun t7 H => ?_)
  refine vl_n ?_
  refine H_of_R (R_fld TF_188_3 H fun t8 H => ?_)
  refine vl_n ?_
  refine H_of_R (R_load1 T1_186 H fun _ t9 _ _ H => ?_)
  refine vl_n ?_
  refine H_of_R (R_nil H fun t10 H => ?_)
  refine vl_n ?_
  refine H_of_R (R_load1 T1_194 H fun _ t11 _ _ H => ?_)
  refine vl_n ?_
  refine H_of_R (R_move (v := a1) rfl ?_)
  refine vl_n ?_
  refine H_of_R (R_idx TE_194 H fun t13 H => ?_)
  refine vl_n ?_
  refine H_of_R (R_load1 T1_173 H fun _ t14 _ _ H => ?_)
  refine vl_n ?_
  refine H_of_R (R_build TB_175 rfl (by decide) H fun t15 H => ?_)
  refine vl_n ?_
  refine H_storeN TS_175 H fun h H => ?_
  refine vl_e ?_
  refine WPc_ret ?_
  refine resH_of rfl ?_
  refine resL_N TN_175 ?_
  refine loadN_imp H fun r4 H => ?_
  exact H
/-! ### impl.liftedMap -/
def i_liftedMap.j2 (s2 : Value) (s3 : Value) (h : Heap) (Q : Value → Heap → Prop) : Prop :=
    loadN 3 s3 h fun t49 =>
    storeN 3 s2 t49 h fun h =>
    loadN 3 s2 h fun r2 =>
    Q r2 h
def i_liftedMap.j5 (s1 : Value) (s2 : Value) (s3 : Value) (s35 : Value) (s36 : Value) (h : Heap) (K1 : List Value → Heap → Prop) (Q : Value → Heap → Prop) : Prop :=
    arith (· + ·) s36 (.int .i64 1) fun t48 =>
    K1 [t48] h
def i_liftedMap.j4 (s1 : Value) (s2 : Value) (s3 : Value) (s35 : Value) (s36 : Value) (h : Heap) (K1 : List Value → Heap → Prop) (Q : Value → Heap → Prop) : Prop :=
    fld 1 s3 fun t39 =>
    load1 t39 h fun t40 =>
    loadN 1 s1 h fun t41 =>
    DoorMapNode_ii_DoorKid.call #[t41, s36] h fun t43 h =>
    still1 t39 t40 h ∧ i_liftedMap.call #[t43] h fun t44 h =>
    still1 t39 t40 h ∧ mkSl (if 1 * 3 = 0 then [] else zeros [(.slice none 0 0), (.slice none 0 0), (.int .i64 0)] 1) 1 [(0 * 3, 3, t44)] 25 h fun t45 h =>
    still1 t39 t40 h ∧ app 25 3 56 [(.slice none 0 0), (.slice none 0 0), (.int .i64 0)] t40 t45 h fun t46 h =>
    fld 1 s3 fun t47 =>
    store1 t47 t46 h fun h =>
    i_liftedMap.j5 s1 s2 s3 s35 s36 h K1 Q
def i_liftedMap.l3.b (c1 : Value) (c2 : Value) (c3 : Value) (c35 : Value) (s36 : Value) (h : Heap) (K1 : List Value → Heap → Prop) (Q : Value → Heap → Prop) : Prop :=
    cmpI (fun a b => decide (a < b)) s36 c35 fun t37 =>
    ifV t37
    (i_liftedMap.j4 c1 c2 c3 c35 s36 h K1 Q)
    (i_liftedMap.j2 c2 c3 h Q)
def i_liftedMap.j1 (s1 : Value) (s2 : Value) (s3 : Value) (h : Heap) (Q : Value → Heap → Prop) : Prop :=
    loadN 1 s1 h fun t31 =>
    DoorMapNode_ii_DoorIsLeaf.call #[t31] h fun t32 h =>
    notV t32 fun t33 =>
    ifV t33
    (loadN 1 s1 h fun t34 =>
    DoorMapNode_ii_DoorKids.call #[t34] h fun t35 h =>
    loopC (fun c s h K1 => i_liftedMap.l3.b (c.getD 0 undef) (c.getD 1 undef) (c.getD 2 undef) (c.getD 3 undef) (s.getD 0 undef) h K1 Q) [s1, s2, s3, t35] [(.int .i64 0)] h)
    (i_liftedMap.j2 s2 s3 h Q)
def i_liftedMap.j8 (s1 : Value) (s2 : Value) (s3 : Value) (s12 : Value) (s13 : Value) (h : Heap) (K1 : List Value → Heap → Prop) (Q : Value → Heap → Prop) : Prop :=
    arith (· + ·) s13 (.int .i64 1) fun t30 =>
    K1 [t30] h
def i_liftedMap.j7 (s1 : Value) (s2 : Value) (s3 : Value) (s12 : Value) (s13 : Value) (h : Heap) (K1 : List Value → Heap → Prop) (Q : Value → Heap → Prop) : Prop :=
    loadN 1 s1 h fun t17 =>
    DoorMapNode_ii_DoorAt.call #[t17, s13] h fun t19 h =>
    extr 0 t19 fun t20 =>
    extr 1 t19 fun t21 =>
    fld 0 s3 fun t22 =>
    load1 t22 h fun t23 =>
    buildV [(.int .i64 0), (.int .i64 0)] [(0, 1, t20), (1, 1, t21)] fun t26 =>
    mkSl (if 1 * 2 = 0 then [] else zeros [(.int .i64 0), (.int .i64 0)] 1) 1 [(0 * 2, 2, t26)] 27 h fun t27 h =>
    app 27 2 16 [(.int .i64 0), (.int .i64 0)] t23 t27 h fun t28 h =>
    fld 0 s3 fun t29 =>
    store1 t29 t28 h fun h =>
    i_liftedMap.j8 s1 s2 s3 s12 s13 h K1 Q
def i_liftedMap.l6.b (c1 : Value) (c2 : Value) (c3 : Value) (c12 : Value) (s13 : Value) (h : Heap) (K1 : List Value → Heap → Prop) (Q : Value → Heap → Prop) : Prop :=
    cmpI (fun a b => decide (a < b)) s13 c12 fun t14 =>
    ifV t14
    (i_liftedMap.j7 c1 c2 c3 c12 s13 h K1 Q)
    (i_liftedMap.j1 c1 c2 c3 h Q)
def i_liftedMap.sh (a0 : Value) (h : Heap) (Q : Value → Heap → Prop) : Prop :=
    box 175 a0 h fun t1 h =>
    alloc [(.slice none 0 0), (.slice none 0 0), (.int .i64 0)] 25 h fun t2 h =>
    loadN 1 t1 h fun t8 =>
    DoorMapNode_ii_DoorCount.call #[t8] h fun t9 h =>
    buildV [(.slice none 0 0), (.slice none 0 0), (.int .i64 0)] [(2, 1, t9)] fun t10 =>
    alloc [(.slice none 0 0), (.slice none 0 0), (.int .i64 0)] 25 h fun t3 h =>
    storeN 3 t3 t10 h fun h =>
    loadN 1 t1 h fun t11 =>
    DoorMapNode_ii_DoorLen.call #[t11] h fun t12 h =>
    loopC (fun c s h K1 => i_liftedMap.l6.b (c.getD 0 undef) (c.getD 1 undef) (c.getD 2 undef) (c.getD 3 undef) (s.getD 0 undef) h K1 Q) [t1, t2, t3, t12] [(.int .i64 0)] h
theorem i_liftedMap.body (a0 : Value) (h : Heap) (Q : Value → Heap → Prop) (H : i_liftedMap.sh a0 h Q) : i_liftedMap.call #[a0] h Q := by
  refine callsH_of (args := [a0]) Try.func118 rfl rfl ?_
  unfold i_liftedMap.sh at H
  refine WPc_seq' ?_
  refine W_region (by kernel_rfl) ?_
  refine vl_n ?_
  refine H_box H fun t1 h H => ?_
  refine vl_n ?_
  refine H_alloc TV_25 H fun t2 h H => ?_
  refine vl_e ?_
  refine WPc_seq' ?_
  refine W_region (by kernel_rfl) ?_
  refine vl_n ?_
  refine H_of_R (R_loadN TN_175 H fun _ t8 _ _ H _ _ => ?_)
  refine vl_n ?_
  refine H_call HB_157 H fun t9 h H => ?_
  refine vl_n ?_
  refine H_of_R (R_build TB_25 rfl (by decide) H fun t10 H => ?_)
  refine vl_n ?_
  refine H_alloc TV_25 H fun t3 h H => ?_
  refine vl_n ?_
  refine H_storeN TS_25 H fun h H => ?_
  refine vl_e ?_
  refine WPc_seq (fun e h => i_liftedMap.j1 (e 1) (e 2) (e 3) h Q) ?_ (fun e h H => ?_)
  rotate_left
  · unfold i_liftedMap.j1 at H
    refine WPc_seq (fun e h => i_liftedMap.j2 (e 2) (e 3) h Q) ?_ (fun e h H => ?_)
    rotate_left
    · unfold i_liftedMap.j2 at H
      refine WPc_seq' ?_
      refine W_region (by kernel_rfl) ?_
      refine vl_n ?_
      refine H_of_R (R_loadN TN_25 H fun _ t49 _ _ H _ _ => ?_)
      refine vl_n ?_
      refine H_storeN TS_25 H fun h H => ?_
      refine vl_e ?_
      refine WPc_ret ?_
      refine resH_of rfl ?_
      refine resL_N TN_25 ?_
      refine loadN_imp H fun r2 H => ?_
      exact H
    refine WPc_seq' ?_
    refine W_region (by kernel_rfl) ?_
    refine vl_n ?_
    refine H_of_R (R_loadN TN_175 H fun _ t31 _ _ H _ _ => ?_)
    refine vl_n ?_
    refine H_call HB_160 H fun t32 h H => ?_
    refine vl_n ?_
    refine H_of_R (R_not H fun t33 H => ?_)
    refine vl_e ?_
    obtain ⟨b, hc, H1, H2⟩ := H
    refine WPc_cond hc (fun hh => ?_) (fun hh => ?_)
    · have H := H1 hh; clear H1 H2
      refine WPc_seq' ?_
      refine W_region (by kernel_rfl) ?_
      refine vl_n ?_
      refine H_of_R (R_loadN TN_175 H fun _ t34 _ _ H _ _ => ?_)
      refine vl_n ?_
      refine H_call HB_161 H fun t35 h H => ?_
      refine vl_n ?_
      refine H_of_R (R_move (v := (.int .i64 0)) rfl ?_)
      refine vl_e ?_
      refine WPc_block ?_
      refine loop_at (fun e => [e 36]) (fun e => [e 1, e 2, e 3, e 35]) H rfl rfl ?_
      intro K1 e1 h H hin1
      replace H : i_liftedMap.l3.b (e1 1) (e1 2) (e1 3) (e1 35) (e1 36) h K1 Q := H
      unfold i_liftedMap.l3.b at H
      clear hin1
      refine WPc_seq' ?_
      refine W_region (by kernel_rfl) ?_
      refine vl_n ?_
      refine H_of_R (R_lss H fun t37 H => ?_)
      refine vl_e ?_
      refine WPc_seq (fun e h => i_liftedMap.j4 (e 1) (e 2) (e 3) (e 35) (e 36) h K1 Q ∧ [e1 1, e1 2, e1 3, e1 35] = [e 1, e 2, e 3, e 35]) ?_ (fun e h ⟨H, hq1⟩ => ?_)
      rotate_left
      · unfold i_liftedMap.j4 at H
        refine WPc_seq (fun e h => i_liftedMap.j5 (e 1) (e 2) (e 3) (e 35) (e 36) h K1 Q ∧ [e1 1, e1 2, e1 3, e1 35] = [e 1, e 2, e 3, e 35]) ?_ (fun e h ⟨H, hq1⟩ => ?_)
        rotate_left
        · unfold i_liftedMap.j5 at H
          refine W_region (by kernel_rfl) ?_
          refine vl_n ?_
          refine H_of_R (R_add H fun t48 H => ?_)
          refine vl_n ?_
          refine H_of_R (R_move (v := t48) rfl ?_)
          refine vl_e ?_
          exact ⟨H, hq1⟩
        refine WPc_block ?_
        refine WPc_seq' ?_
        refine W_region (by kernel_rfl) ?_
        refine vl_n ?_
        refine H_of_R (R_move (v := (e 36)) rfl ?_)
        refine vl_n ?_
        refine H_of_R (R_assign (v := (e 36)) rfl ?_)
        refine vl_e ?_
        refine W_drawn [0, 1, 0, 0, 12, 28, 60, 127, 255, 511] (.take 0 (.take 1 (.take 2 (.take 3 (.alt 4 (.alt 5 (.alt 6 (.alt 7 (.take 8 (.alt 9 .done .none)) .none) .none) .none) .none))))) mixed (by kernel_rfl) ?_
        refine tkP rfl ?_
        refine R_fld TF_25_1 H fun t39 H => ⟨fun _ => trivial, ?_⟩
        refine tkL rfl ?_
        refine R_load1 T1_23 H fun at40 t40 hat40 _ H => ?_
        refine tkL rfl ?_
        refine R_loadN TN_175 H fun at41 xt41 hat41 _ H St41 hSt41 => ?_
        refine tkP rfl ?_
        refine R_move (v := (e 36)) rfl ⟨fun _ => trivial, ?_⟩
        refine alt_n rfl ?_ vp_none
        refine H_call HB_162 H fun t43 h ⟨S, H⟩ => ⟨(hskip rfl (hcons rfl (still_1 S hat40) hnil)), ?_⟩
        refine alt_n rfl ?_ vp_none
        refine H_call HB_118 H fun t44 h ⟨S_2, H⟩ => ⟨(hcons rfl (still_1 S_2 hat40) hnil), ?_⟩
        refine alt_n rfl ?_ vp_none
        refine H_mkSl TZ_23 (by decide) rfl H rfl fun t45 h ⟨S_3, H⟩ => ⟨(hcons rfl (still_1 S_3 hat40) hnil), ?_⟩
        refine alt_n rfl ?_ vp_none
        refine H_app TZ_23 TU_23 H fun t46 h H => ⟨(hskip rfl hnil), ?_⟩
        refine tkP rfl ?_
        refine R_fld TF_25_1 H fun t47 H => ⟨fun _ => trivial, ?_⟩
        refine alt_n rfl ?_ vp_none
        refine H_store1 TS_23 H fun h H => ⟨hnil, ?_⟩
        refine vp_done ?_
        exact ⟨H, hq1⟩
      obtain ⟨b, hc, H1, H2⟩ := H
      refine WPc_cond hc (fun hh => ?_) (fun hh => ?_)
      · have H := H1 hh; clear H1 H2
        refine WPc_skip ?_
        exact ⟨H, rfl⟩
      · have H := H2 hh; clear H1 H2
        refine WPc_exit ?_
        exact H
    · have H := H2 hh; clear H1 H2
      refine WPc_skip ?_
      exact H
  refine WPc_seq' ?_
  refine W_region (by kernel_rfl) ?_
  refine vl_n ?_
  refine H_of_R (R_loadN TN_175 H fun _ t11 _ _ H _ _ => ?_)
  refine vl_n ?_
  refine H_call HB_158 H fun t12 h H => ?_
  refine vl_n ?_
  refine H_of_R (R_move (v := (.int .i64 0)) rfl ?_)
  refine vl_e ?_
  refine WPc_block ?_
  refine loop_at (fun e => [e 13]) (fun e => [e 1, e 2, e 3, e 12]) H rfl rfl ?_
  intro K1 e1 h H hin1
  replace H : i_liftedMap.l6.b (e1 1) (e1 2) (e1 3) (e1 12) (e1 13) h K1 Q := H
  unfold i_liftedMap.l6.b at H
  clear hin1
  refine WPc_seq' ?_
  refine W_region (by kernel_rfl) ?_
  refine vl_n ?_
  refine H_of_R (R_lss H fun t14 H => ?_)
  refine vl_e ?_
  refine WPc_seq (fun e h => i_liftedMap.j7 (e 1) (e 2) (e 3) (e 12) (e 13) h K1 Q ∧ [e1 1, e1 2, e1 3, e1 12] = [e 1, e 2, e 3, e 12]) ?_ (fun e h ⟨H, hq1⟩ => ?_)
  rotate_left
  · unfold i_liftedMap.j7 at H
    refine WPc_seq (fun e h => i_liftedMap.j8 (e 1) (e 2) (e 3) (e 12) (e 13) h K1 Q ∧ [e1 1, e1 2, e1 3, e1 12] = [e 1, e 2, e 3, e 12]) ?_ (fun e h ⟨H, hq1⟩ => ?_)
    rotate_left
    · unfold i_liftedMap.j8 at H
      refine W_region (by kernel_rfl) ?_
      refine vl_n ?_
      refine H_of_R (R_add H fun t30 H => ?_)
      refine vl_n ?_
      refine H_of_R (R_move (v := t30) rfl ?_)
      refine vl_e ?_
      exact ⟨H, hq1⟩
    refine WPc_block ?_
    refine WPc_seq' ?_
    refine W_region (by kernel_rfl) ?_
    refine vl_n ?_
    refine H_of_R (R_move (v := (e 13)) rfl ?_)
    refine vl_n ?_
    refine H_of_R (R_assign (v := (e 13)) rfl ?_)
    refine vl_e ?_
    refine WPc_seq' ?_
    refine W_region (by kernel_rfl) ?_
    refine vl_n ?_
    refine H_of_R (R_loadN TN_175 H fun _ t17 _ _ H _ _ => ?_)
    refine vl_n ?_
    refine H_of_R (R_move (v := (e 13)) rfl ?_)
    refine vl_n ?_
    refine H_call HB_159 H fun t19 h H => ?_
    refine vl_n ?_
    refine H_of_R (R_move (v := t19) rfl ?_)
    refine vl_n ?_
    refine H_of_R (R_ext H fun t20 H => ?_)
    refine vl_n ?_
    refine H_of_R (R_ext H fun t21 H => ?_)
    refine vl_n ?_
    refine H_of_R (R_assign (v := t20) rfl ?_)
    refine vl_n ?_
    refine H_of_R (R_assign (v := t21) rfl ?_)
    refine vl_e ?_
    refine W_region (by kernel_rfl) ?_
    refine vl_n ?_
    refine H_of_R (R_fld TF_25_0 H fun t22 H => ?_)
    refine vl_n ?_
    refine H_of_R (R_load1 T1_22 H fun _ t23 _ _ H => ?_)
    refine vl_n ?_
    refine H_of_R (R_move (v := t20) rfl ?_)
    refine vl_n ?_
    refine H_of_R (R_move (v := t21) rfl ?_)
    refine vl_n ?_
    refine H_of_R (R_build TB_27 rfl (by decide) H fun t26 H => ?_)
    refine vl_n ?_
    refine H_mkSl TZ_22 (by decide) rfl H rfl fun t27 h H => ?_
    refine vl_n ?_
    refine H_app TZ_22 TU_22 H fun t28 h H => ?_
    refine vl_n ?_
    refine H_of_R (R_fld TF_25_0 H fun t29 H => ?_)
    refine vl_n ?_
    refine H_store1 TS_22 H fun h H => ?_
    refine vl_e ?_
    exact ⟨H, hq1⟩
  obtain ⟨b, hc, H1, H2⟩ := H
  refine WPc_cond hc (fun hh => ?_) (fun hh => ?_)
  · have H := H1 hh; clear H1 H2
    refine WPc_skip ?_
    exact ⟨H, rfl⟩
  · have H := H2 hh; clear H1 H2
    refine WPc_exit ?_
    exact H
/-! ### impl.fellMap -/
def i_fellMap.j1 (s2 : Value) (s3 : Value) (h : Heap) (Q : Value → Heap → Prop) : Prop :=
    loadN 1 s3 h fun t13 =>
    i_liftedMap.call #[t13] h fun t14 h =>
    storeN 3 s2 t14 h fun h =>
    loadN 3 s2 h fun r2 =>
    Q r2 h
def i_fellMap.sh (a0 : Value) (h : Heap) (Q : Value → Heap → Prop) : Prop :=
    alloc [(.slice none 0 0), (.slice none 0 0), (.int .i64 0)] 25 h fun t2 h =>
    Map_ii_DoorRoot.call #[a0] h fun t7 h =>
    extr 0 t7 fun t8 =>
    extr 1 t7 fun t9 =>
    alloc [(.pointer none)] 175 h fun t3 h =>
    storeN 1 t3 t8 h fun h =>
    notV t9 fun t11 =>
    ifV t11
    (buildV [(.slice none 0 0), (.slice none 0 0), (.int .i64 0)] [] fun t12 =>
    storeN 3 t2 t12 h fun h =>
    loadN 3 t2 h fun r2 =>
    Q r2 h)
    (i_fellMap.j1 t2 t3 h Q)
theorem i_fellMap.body (a0 : Value) (h : Heap) (Q : Value → Heap → Prop) (H : i_fellMap.sh a0 h Q) : i_fellMap.call #[a0] h Q := by
  refine callsH_of (args := [a0]) Try.func61 rfl rfl ?_
  unfold i_fellMap.sh at H
  refine WPc_seq' ?_
  refine W_region (by kernel_rfl) ?_
  refine vl_n ?_
  refine H_alloc TV_25 H fun t2 h H => ?_
  refine vl_e ?_
  refine WPc_seq' ?_
  refine W_region (by kernel_rfl) ?_
  refine vl_n ?_
  refine H_of_R (R_move (v := a0) rfl ?_)
  refine vl_n ?_
  refine H_call HB_117 H fun t7 h H => ?_
  refine vl_n ?_
  refine H_of_R (R_move (v := t7) rfl ?_)
  refine vl_n ?_
  refine H_of_R (R_ext H fun t8 H => ?_)
  refine vl_n ?_
  refine H_of_R (R_ext H fun t9 H => ?_)
  refine vl_n ?_
  refine H_alloc TV_175 H fun t3 h H => ?_
  refine vl_n ?_
  refine H_storeN TS_175 H fun h H => ?_
  refine vl_n ?_
  refine H_of_R (R_assign (v := t9) rfl ?_)
  refine vl_e ?_
  refine WPc_seq (fun e h => i_fellMap.j1 (e 2) (e 3) h Q) ?_ (fun e h H => ?_)
  rotate_left
  · unfold i_fellMap.j1 at H
    refine WPc_seq' ?_
    refine W_region (by kernel_rfl) ?_
    refine vl_n ?_
    refine H_of_R (R_loadN TN_175 H fun _ t13 _ _ H _ _ => ?_)
    refine vl_n ?_
    refine H_call HB_118 H fun t14 h H => ?_
    refine vl_n ?_
    refine H_storeN TS_25 H fun h H => ?_
    refine vl_e ?_
    refine WPc_ret ?_
    refine resH_of rfl ?_
    refine resL_N TN_25 ?_
    refine loadN_imp H fun r2 H => ?_
    exact H
  refine WPc_seq' ?_
  refine W_region (by kernel_rfl) ?_
  refine vl_n ?_
  refine H_of_R (R_move (v := t9) rfl ?_)
  refine vl_n ?_
  refine H_of_R (R_not H fun t11 H => ?_)
  refine vl_e ?_
  obtain ⟨b, hc, H1, H2⟩ := H
  refine WPc_cond hc (fun hh => ?_) (fun hh => ?_)
  · have H := H1 hh; clear H1 H2
    refine WPc_seq' ?_
    refine W_region (by kernel_rfl) ?_
    refine vl_n ?_
    refine H_of_R (R_build TB_25 rfl (by decide) H fun t12 H => ?_)
    refine vl_n ?_
    refine H_storeN TS_25 H fun h H => ?_
    refine vl_e ?_
    refine WPc_ret ?_
    refine resH_of rfl ?_
    refine resL_N TN_25 ?_
    refine loadN_imp H fun r2 H => ?_
    exact H
  · have H := H2 hh; clear H1 H2
    refine WPc_skip ?_
    exact H
end Go.Proofs.Ytlihjljdndbpdaa
end
section
namespace Go.Proofs.Ytlihjljdndbpdaa
open Go.Hp
set_option maxRecDepth 100000
set_option maxHeartbeats 8000000
set_option linter.unusedVariables false
set_option linter.unusedSimpArgs false

/-! ### (*pub/tidwallbtree.Map[int, int]).nodeSet -/
def Map_ii_nodeSet.j4 (s6 : Value) (s7 : Value) (h : Heap) (Q : Value → Heap → Prop) : Prop :=
    Q (.tuple #[s6, s7, (.bool false)]) h
def Map_ii_nodeSet.j3 (s6 : Value) (s7 : Value) (s9 : Value) (h : Heap) (Q : Value → Heap → Prop) : Prop :=
    notV s7 fun t232 =>
    ifV t232
    (load1 s9 h fun t233 =>
    nilck t233 fun t234 =>
    fld 1 t234 fun t235 =>
    load1 t235 h fun t236 =>
    arith (· + ·) t236 (.int .i64 1) fun t237 =>
    nilck t233 fun t238 =>
    fld 1 t238 fun t239 =>
    store1 t239 t237 h fun h =>
    Map_ii_nodeSet.j4 s6 s7 h Q)
    (Map_ii_nodeSet.j4 s6 s7 h Q)
def Map_ii_nodeSet.j5 (s0 : Value) (s5 : Value) (s9 : Value) (s10 : Value) (h : Heap) (Q : Value → Heap → Prop) : Prop :=
    load1 s9 h fun t138 =>
    nilck t138 fun t139 =>
    fld 3 t139 fun t140 =>
    load1 t140 h fun t141 =>
    nilck t141 fun t142 =>
    load1 t142 h fun t143 =>
    idx 1 t143 s10 fun t145 =>
    load1 t145 h fun t146 =>
    Map_ii_nodeSplit.call #[s0, t146] h fun t147 h =>
    extr 0 t147 fun t148 =>
    extr 1 t147 fun t149 =>
    alloc [(.int .i64 0), (.int .i64 0)] 178 h fun t13 h =>
    storeN 2 t13 t149 h fun h =>
    load1 s9 h fun t150 =>
    nilck t150 fun t151 =>
    fld 3 t151 fun t152 =>
    load1 t152 h fun t153 =>
    load1 s9 h fun t154 =>
    nilck t154 fun t155 =>
    fld 3 t155 fun t156 =>
    load1 t156 h fun t157 =>
    nilck t157 fun t158 =>
    load1 t158 h fun t159 =>
    mkSl (if 1 * 1 = 0 then [] else zeros [(.pointer none)] 1) 1 [(0 * 1, 1, (.pointer none))] 173 h fun t160 h =>
    still1 s9 t150 h ∧ still1 t152 t153 h ∧ still1 s9 t154 h ∧ still1 t156 t157 h ∧ still1 t158 t159 h ∧ app 173 1 8 [(.pointer none)] t159 t160 h fun t161 h =>
    still1 s9 t150 h ∧ still1 t152 t153 h ∧ nilck t153 fun t162 =>
    store1 t162 t161 h fun h =>
    load1 s9 h fun t163 =>
    nilck t163 fun t164 =>
    fld 3 t164 fun t165 =>
    load1 t165 h fun t166 =>
    nilck t166 fun t167 =>
    load1 t167 h fun t168 =>
    arith (· + ·) s10 (.int .i64 1) fun t170 =>
    slc 1 t168 (some t170) none none fun t171 =>
    load1 s9 h fun t172 =>
    nilck t172 fun t173 =>
    fld 3 t173 fun t174 =>
    load1 t174 h fun t175 =>
    nilck t175 fun t176 =>
    load1 t176 h fun t177 =>
    slc 1 t177 (some s10) none none fun t179 =>
    cpy 1 t171 t179 h fun t180 h =>
    load1 s9 h fun t181 =>
    nilck t181 fun t182 =>
    fld 3 t182 fun t183 =>
    load1 t183 h fun t184 =>
    nilck t184 fun t185 =>
    load1 t185 h fun t186 =>
    arith (· + ·) s10 (.int .i64 1) fun t188 =>
    idx 1 t186 t188 fun t190 =>
    store1 t190 t148 h fun h =>
    load1 s9 h fun t191 =>
    load1 s9 h fun t192 =>
    nilck t192 fun t193 =>
    fld 2 t193 fun t194 =>
    load1 t194 h fun t195 =>
    nilck s0 fun t197 =>
    fld 4 t197 fun t198 =>
    loadN 2 t198 h fun t199 =>
    mkSl (if 1 * 2 = 0 then [] else zeros [(.int .i64 0), (.int .i64 0)] 1) 1 [(0 * 2, 2, t199)] 178 h fun t200 h =>
    still1 s9 t191 h ∧ still1 s9 t192 h ∧ still1 t194 t195 h ∧ app 178 2 16 [(.int .i64 0), (.int .i64 0)] t195 t200 h fun t201 h =>
    still1 s9 t191 h ∧ nilck t191 fun t202 =>
    fld 2 t202 fun t203 =>
    store1 t203 t201 h fun h =>
    load1 s9 h fun t204 =>
    nilck t204 fun t205 =>
    fld 2 t205 fun t206 =>
    load1 t206 h fun t207 =>
    arith (· + ·) s10 (.int .i64 1) fun t209 =>
    slc 2 t207 (some t209) none none fun t210 =>
    load1 s9 h fun t211 =>
    nilck t211 fun t212 =>
    fld 2 t212 fun t213 =>
    load1 t213 h fun t214 =>
    slc 2 t214 (some s10) none none fun t216 =>
    cpy 2 t210 t216 h fun t217 h =>
    load1 s9 h fun t218 =>
    nilck t218 fun t219 =>
    fld 2 t219 fun t220 =>
    load1 t220 h fun t221 =>
    loadN 2 t13 h fun t223 =>
    idx 2 t221 s10 fun t224 =>
    storeN 2 t224 t223 h fun h =>
    loadN 2 s5 h fun t226 =>
    Map_ii_nodeSet.call #[s0, s9, t226] h fun t227 h =>
    extr 0 t227 fun t228 =>
    extr 1 t227 fun t229 =>
    extr 2 t227 fun t230 =>
    Q (.tuple #[t228, t229, t230]) h
def Map_ii_nodeSet.j2 (s0 : Value) (s5 : Value) (s9 : Value) (s10 : Value) (h : Heap) (Q : Value → Heap → Prop) : Prop :=
    load1 s9 h fun t107 =>
    nilck t107 fun t108 =>
    fld 3 t108 fun t109 =>
    load1 t109 h fun t110 =>
    nilck t110 fun t111 =>
    load1 t111 h fun t112 =>
    idx 1 t112 s10 fun t114 =>
    loadN 2 s5 h fun t115 =>
    Map_ii_nodeSet.call #[s0, t114, t115] h fun t116 h =>
    extr 0 t116 fun t117 =>
    extr 1 t116 fun t118 =>
    extr 2 t116 fun t119 =>
    ifV t119
    (load1 s9 h fun t121 =>
    nilck t121 fun t122 =>
    fld 2 t122 fun t123 =>
    load1 t123 h fun t124 =>
    lenV t124 fun t125 =>
    nilck s0 fun t127 =>
    fld 7 t127 fun t128 =>
    load1 t128 h fun t129 =>
    cmpI (fun a b => a == b) t125 t129 fun t130 =>
    ifV t130
    (nilck s0 fun t132 =>
    fld 4 t132 fun t133 =>
    fld 0 t133 fun t134 =>
    load1 t134 h fun t135 =>
    Q (.tuple #[t135, (.bool false), (.bool true)]) h)
    (Map_ii_nodeSet.j5 s0 s5 s9 s10 h Q))
    (Map_ii_nodeSet.j3 t117 t118 s9 h Q)
def Map_ii_nodeSet.j6 (s0 : Value) (s5 : Value) (s9 : Value) (s10 : Value) (h : Heap) (Q : Value → Heap → Prop) : Prop :=
    load1 s9 h fun t59 =>
    load1 s9 h fun t60 =>
    nilck t60 fun t61 =>
    fld 2 t61 fun t62 =>
    load1 t62 h fun t63 =>
    nilck s0 fun t65 =>
    fld 4 t65 fun t66 =>
    loadN 2 t66 h fun t67 =>
    mkSl (if 1 * 2 = 0 then [] else zeros [(.int .i64 0), (.int .i64 0)] 1) 1 [(0 * 2, 2, t67)] 178 h fun t68 h =>
    still1 s9 t59 h ∧ still1 s9 t60 h ∧ still1 t62 t63 h ∧ app 178 2 16 [(.int .i64 0), (.int .i64 0)] t63 t68 h fun t69 h =>
    still1 s9 t59 h ∧ nilck t59 fun t70 =>
    fld 2 t70 fun t71 =>
    store1 t71 t69 h fun h =>
    load1 s9 h fun t72 =>
    nilck t72 fun t73 =>
    fld 2 t73 fun t74 =>
    load1 t74 h fun t75 =>
    arith (· + ·) s10 (.int .i64 1) fun t77 =>
    slc 2 t75 (some t77) none none fun t78 =>
    load1 s9 h fun t79 =>
    nilck t79 fun t80 =>
    fld 2 t80 fun t81 =>
    load1 t81 h fun t82 =>
    slc 2 t82 (some s10) none none fun t84 =>
    cpy 2 t78 t84 h fun t85 h =>
    load1 s9 h fun t86 =>
    nilck t86 fun t87 =>
    fld 2 t87 fun t88 =>
    load1 t88 h fun t89 =>
    loadN 2 s5 h fun t91 =>
    idx 2 t89 s10 fun t92 =>
    storeN 2 t92 t91 h fun h =>
    load1 s9 h fun t93 =>
    nilck t93 fun t94 =>
    fld 1 t94 fun t95 =>
    load1 t95 h fun t96 =>
    arith (· + ·) t96 (.int .i64 1) fun t97 =>
    nilck t93 fun t98 =>
    fld 1 t98 fun t99 =>
    store1 t99 t97 h fun h =>
    nilck s0 fun t101 =>
    fld 4 t101 fun t102 =>
    fld 0 t102 fun t103 =>
    load1 t103 h fun t104 =>
    Q (.tuple #[t104, (.bool false), (.bool false)]) h
def Map_ii_nodeSet.j1 (s0 : Value) (s5 : Value) (s9 : Value) (s10 : Value) (h : Heap) (Q : Value → Heap → Prop) : Prop :=
    load1 s9 h fun t42 =>
    mapNode_ii_leaf.call #[t42] h fun t43 h =>
    ifV t43
    (load1 s9 h fun t44 =>
    nilck t44 fun t45 =>
    fld 2 t45 fun t46 =>
    load1 t46 h fun t47 =>
    lenV t47 fun t48 =>
    nilck s0 fun t50 =>
    fld 7 t50 fun t51 =>
    load1 t51 h fun t52 =>
    cmpI (fun a b => a == b) t48 t52 fun t53 =>
    ifV t53
    (nilck s0 fun t55 =>
    fld 4 t55 fun t56 =>
    fld 0 t56 fun t57 =>
    load1 t57 h fun t58 =>
    Q (.tuple #[t58, (.bool false), (.bool true)]) h)
    (Map_ii_nodeSet.j6 s0 s5 s9 s10 h Q))
    (Map_ii_nodeSet.j2 s0 s5 s9 s10 h Q)
def Map_ii_nodeSet.sh (a0 : Value) (a1 : Value) (a2 : Value) (h : Heap) (Q : Value → Heap → Prop) : Prop :=
    box 178 a2 h fun t5 h =>
    Map_ii_isoLoad.call #[a0, a1, (.bool true)] h fun t16 h =>
    alloc [(.pointer none)] 173 h fun t9 h =>
    store1 t9 t16 h fun h =>
    load1 t9 h fun t19 =>
    fld 1 t5 fun t20 =>
    load1 t20 h fun t21 =>
    Map_ii_search.call #[a0, t19, t21] h fun t22 h =>
    extr 0 t22 fun t23 =>
    extr 1 t22 fun t24 =>
    ifV t24
    (load1 t9 h fun t26 =>
    nilck t26 fun t27 =>
    fld 2 t27 fun t28 =>
    load1 t28 h fun t29 =>
    idx 2 t29 t23 fun t31 =>
    fld 0 t31 fun t32 =>
    load1 t32 h fun t33 =>
    load1 t9 h fun t34 =>
    nilck t34 fun t35 =>
    fld 2 t35 fun t36 =>
    load1 t36 h fun t37 =>
    loadN 2 t5 h fun t39 =>
    idx 2 t37 t23 fun t40 =>
    storeN 2 t40 t39 h fun h =>
    Q (.tuple #[t33, (.bool true), (.bool false)]) h)
    (Map_ii_nodeSet.j1 a0 t5 t9 t23 h Q)
theorem Map_ii_nodeSet.body (a0 : Value) (a1 : Value) (a2 : Value) (h : Heap) (Q : Value → Heap → Prop) (H : Map_ii_nodeSet.sh a0 a1 a2 h Q) : Map_ii_nodeSet.call #[a0, a1, a2] h Q := by
  refine callsH_of (args := [a0, a1, a2]) Try.func113 rfl rfl ?_
  unfold Map_ii_nodeSet.sh at H
  refine WPc_seq' ?_
  refine W_region (by kernel_rfl) ?_
  refine vl_n ?_
  refine H_box H fun t5 h H => ?_
  refine vl_n ?_
  refine H_of_R (R_assign (v := (.int .i64 0)) rfl ?_)
  refine vl_n ?_
  refine H_of_R (R_assign (v := (.bool false)) rfl ?_)
  refine vl_n ?_
  refine H_of_R (R_assign (v := (.bool false)) rfl ?_)
  refine vl_e ?_
  refine WPc_seq' ?_
  refine W_region (by kernel_rfl) ?_
  refine vl_n ?_
  refine H_of_R (R_move (v := a0) rfl ?_)
  refine vl_n ?_
  refine H_of_R (R_move (v := a1) rfl ?_)
  refine vl_n ?_
  refine H_call HB_125 H fun t16 h H => ?_
  refine vl_n ?_
  refine H_alloc TV_173 H fun t9 h H => ?_
  refine vl_n ?_
  refine H_store1 TS_173 H fun h H => ?_
  refine vl_e ?_
  refine WPc_seq' ?_
  refine W_region (by kernel_rfl) ?_
  refine vl_n ?_
  refine H_of_R (R_move (v := a0) rfl ?_)
  refine vl_n ?_
  refine H_of_R (R_load1 T1_173 H fun _ t19 _ _ H => ?_)
  refine vl_n ?_
  refine H_of_R (R_fld TF_178_1 H fun t20 H => ?_)
  refine vl_n ?_
  refine H_of_R (R_load1 T1_3 H fun _ t21 _ _ H => ?_)
  refine vl_n ?_
  refine H_call HB_156 H fun t22 h H => ?_
  refine vl_n ?_
  refine H_of_R (R_move (v := t22) rfl ?_)
  refine vl_n ?_
  refine H_of_R (R_ext H fun t23 H => ?_)
  refine vl_n ?_
  refine H_of_R (R_ext H fun t24 H => ?_)
  refine vl_n ?_
  refine H_of_R (R_assign (v := t23) rfl ?_)
  refine vl_n ?_
  refine H_of_R (R_assign (v := t24) rfl ?_)
  refine vl_e ?_
  refine WPc_seq (fun e h => Map_ii_nodeSet.j1 (e 0) (e 5) (e 9) (e 10) h Q) ?_ (fun e h H => ?_)
  rotate_left
  · unfold Map_ii_nodeSet.j1 at H
    refine WPc_seq (fun e h => Map_ii_nodeSet.j2 (e 0) (e 5) (e 9) (e 10) h Q) ?_ (fun e h H => ?_)
    rotate_left
    · unfold Map_ii_nodeSet.j2 at H
      refine WPc_seq' ?_
      refine W_drawn [0, 0, 2, 6, 14, 30, 62, 0, 254, 0, 1023, 2047, 4095, 4095, 4095, 8191, 49151, 131071] (.take 0 (.take 1 (.take 2 (.take 3 (.take 4 (.take 5 (.take 6 (.take 7 (.take 8 (.take 9 (.alt 10 (.take 11 (.take 12 (.take 13 (.take 14 (.take 15 (.take 16 (.take 17 .done))))))) .none))))))))))) mixed (by kernel_rfl) ?_
      refine tkP rfl ?_
      refine R_move (v := (e 0)) rfl ⟨fun _ => trivial, ?_⟩
      refine tkL rfl ?_
      refine R_load1 T1_173 H fun at107 t107 hat107 _ H => ?_
      refine tkP rfl ?_
      refine R_nil H fun t108 H => ⟨fun _ => trivial, ?_⟩
      refine tkP rfl ?_
      refine R_fld TF_188_3 H fun t109 H => ⟨fun _ => trivial, ?_⟩
      refine tkL rfl ?_
      refine R_load1 T1_186 H fun at110 t110 hat110 _ H => ?_
      refine tkP rfl ?_
      refine R_nil H fun t111 H => ⟨fun _ => trivial, ?_⟩
      refine tkL rfl ?_
      refine R_load1 T1_194 H fun at112 t112 hat112 _ H => ?_
      refine tkP rfl ?_
      refine R_move (v := (e 10)) rfl ⟨fun _ => trivial, ?_⟩
      refine tkP rfl ?_
      refine R_idx TE_194 H fun t114 H => ⟨fun _ => trivial, ?_⟩
      refine tkL rfl ?_
      refine R_loadN TN_178 H fun at115 xt115 hat115 _ H St115 hSt115 => ?_
      refine alt_n rfl ?_ vp_none
      refine H_call HB_113 H fun t116 h H => ⟨(hskip rfl (hskip rfl (hskip rfl (hskip rfl hnil)))), ?_⟩
      refine tkP rfl ?_
      refine R_move (v := t116) rfl ⟨fun _ => trivial, ?_⟩
      refine tkP rfl ?_
      refine R_ext H fun t117 H => ⟨fun _ => trivial, ?_⟩
      refine tkP rfl ?_
      refine R_ext H fun t118 H => ⟨fun _ => trivial, ?_⟩
      refine tkP rfl ?_
      refine R_ext H fun t119 H => ⟨fun _ => trivial, ?_⟩
      refine tkP rfl ?_
      refine R_assign (v := t117) rfl ⟨fun _ => trivial, ?_⟩
      refine tkP rfl ?_
      refine R_assign (v := t118) rfl ⟨fun _ => trivial, ?_⟩
      refine tkP rfl ?_
      refine R_assign (v := t119) rfl ⟨fun _ => trivial, ?_⟩
      refine vp_done ?_
      refine WPc_seq (fun e h => Map_ii_nodeSet.j3 (e 6) (e 7) (e 9) h Q) ?_ (fun e h H => ?_)
      rotate_left
      · unfold Map_ii_nodeSet.j3 at H
        refine WPc_seq (fun e h => Map_ii_nodeSet.j4 (e 6) (e 7) h Q) ?_ (fun e h H => ?_)
        rotate_left
        · unfold Map_ii_nodeSet.j4 at H
          refine WPc_seq' ?_
          refine W_region (by kernel_rfl) ?_
          refine vl_n ?_
          refine H_of_R (R_move (v := (e 6)) rfl ?_)
          refine vl_n ?_
          refine H_of_R (R_move (v := (e 7)) rfl ?_)
          refine vl_n ?_
          refine H_of_R (R_assign (v := (e 6)) rfl ?_)
          refine vl_n ?_
          refine H_of_R (R_assign (v := (e 7)) rfl ?_)
          refine vl_n ?_
          refine H_of_R (R_assign (v := (.bool false)) rfl ?_)
          refine vl_e ?_
          refine WPc_ret ?_
          refine resH_of rfl ?_
          exact H
        refine WPc_seq' ?_
        refine W_region (by kernel_rfl) ?_
        refine vl_n ?_
        refine H_of_R (R_move (v := (e 7)) rfl ?_)
        refine vl_n ?_
        refine H_of_R (R_not H fun t232 H => ?_)
        refine vl_e ?_
        obtain ⟨b, hc, H1, H2⟩ := H
        refine WPc_cond hc (fun hh => ?_) (fun hh => ?_)
        · have H := H1 hh; clear H1 H2
          refine W_region (by kernel_rfl) ?_
          refine vl_n ?_
          refine H_of_R (R_load1 T1_173 H fun _ t233 _ _ H => ?_)
          refine vl_n ?_
          refine H_of_R (R_nil H fun t234 H => ?_)
          refine vl_n ?_
          refine H_of_R (R_fld TF_188_1 H fun t235 H => ?_)
          refine vl_n ?_
          refine H_of_R (R_load1 T1_3 H fun _ t236 _ _ H => ?_)
          refine vl_n ?_
          refine H_of_R (R_add H fun t237 H => ?_)
          refine vl_n ?_
          refine H_of_R (R_nil H fun t238 H => ?_)
          refine vl_n ?_
          refine H_of_R (R_fld TF_188_1 H fun t239 H => ?_)
          refine vl_n ?_
          refine H_store1 TS_3 H fun h H => ?_
          refine vl_e ?_
          exact H
        · have H := H2 hh; clear H1 H2
          refine WPc_skip ?_
          exact H
      refine WPc_seq' ?_
      refine W_region (by kernel_rfl) ?_
      refine vl_n ?_
      refine H_of_R (R_move (v := t119) rfl ?_)
      refine vl_e ?_
      obtain ⟨b, hc, H1, H2⟩ := H
      refine WPc_cond hc (fun hh => ?_) (fun hh => ?_)
      · have H := H1 hh; clear H1 H2
        refine WPc_seq (fun e h => Map_ii_nodeSet.j5 (e 0) (e 5) (e 9) (e 10) h Q) ?_ (fun e h H => ?_)
        rotate_left
        · unfold Map_ii_nodeSet.j5 at H
          refine WPc_seq' ?_
          refine W_region (by kernel_rfl) ?_
          refine vl_n ?_
          refine H_of_R (R_move (v := (e 0)) rfl ?_)
          refine vl_n ?_
          refine H_of_R (R_load1 T1_173 H fun _ t138 _ _ H => ?_)
          refine vl_n ?_
          refine H_of_R (R_nil H fun t139 H => ?_)
          refine vl_n ?_
          refine H_of_R (R_fld TF_188_3 H fun t140 H => ?_)
          refine vl_n ?_
          refine H_of_R (R_load1 T1_186 H fun _ t141 _ _ H => ?_)
          refine vl_n ?_
          refine H_of_R (R_nil H fun t142 H => ?_)
          refine vl_n ?_
          refine H_of_R (R_load1 T1_194 H fun _ t143 _ _ H => ?_)
          refine vl_n ?_
          refine H_of_R (R_move (v := (e 10)) rfl ?_)
          refine vl_n ?_
          refine H_of_R (R_idx TE_194 H fun t145 H => ?_)
          refine vl_n ?_
          refine H_of_R (R_load1 T1_173 H fun _ t146 _ _ H => ?_)
          refine vl_n ?_
          refine H_call HB_114 H fun t147 h H => ?_
          refine vl_n ?_
          refine H_of_R (R_move (v := t147) rfl ?_)
          refine vl_n ?_
          refine H_of_R (R_ext H fun t148 H => ?_)
          refine vl_n ?_
          refine H_of_R (R_ext H fun t149 H => ?_)
          refine vl_n ?_
          refine H_alloc TV_178 H fun t13 h H => ?_
          refine vl_n ?_
          refine H_of_R (R_assign (v := t148) rfl ?_)
          refine vl_n ?_
          refine H_storeN TS_178 H fun h H => ?_
          refine vl_e ?_
          refine WPc_seq' ?_
          refine W_drawn [0, 1, 3, 7, 0, 16, 48, 112, 240, 496, 0, 2032, 4095, 8191] (.take 0 (.take 1 (.take 2 (.take 3 (.take 4 (.take 5 (.take 6 (.take 7 (.take 8 (.take 9 (.alt 10 (.alt 11 (.take 12 (.alt 13 .done .none)) .none) .none))))))))))) mixed (by kernel_rfl) ?_
          refine tkL rfl ?_
          refine R_load1 T1_173 H fun at150 t150 hat150 _ H => ?_
          refine tkP rfl ?_
          refine R_nil H fun t151 H => ⟨fun _ => trivial, ?_⟩
          refine tkP rfl ?_
          refine R_fld TF_188_3 H fun t152 H => ⟨fun _ => trivial, ?_⟩
          refine tkL rfl ?_
          refine R_load1 T1_186 H fun at153 t153 hat153 _ H => ?_
          refine tkL rfl ?_
          refine R_load1 T1_173 H fun at154 t154 hat154 _ H => ?_
          refine tkP rfl ?_
          refine R_nil H fun t155 H => ⟨fun _ => trivial, ?_⟩
          refine tkP rfl ?_
          refine R_fld TF_188_3 H fun t156 H => ⟨fun _ => trivial, ?_⟩
          refine tkL rfl ?_
          refine R_load1 T1_186 H fun at157 t157 hat157 _ H => ?_
          refine tkP rfl ?_
          refine R_nil H fun t158 H => ⟨fun _ => trivial, ?_⟩
          refine tkL rfl ?_
          refine R_load1 T1_194 H fun at159 t159 hat159 _ H => ?_
          refine alt_n rfl ?_ vp_none
          refine H_mkSl TZ_194 (by decide) rfl H rfl fun t160 h ⟨S, S_2, S_3, S_4, S_5, H⟩ => ⟨(hcons rfl (still_1 S_5 hat159) (hcons rfl (still_1 S_4 hat157) (hcons rfl (still_1 S_3 hat154) (hcons rfl (still_1 S_2 hat153) (hcons rfl (still_1 S hat150) hnil))))), ?_⟩
          refine alt_n rfl ?_ vp_none
          refine H_app TZ_194 TU_194 H fun t161 h ⟨S_6, S_7, H⟩ => ⟨(hskip rfl (hskip rfl (hskip rfl (hcons rfl (still_1 S_7 hat153) (hcons rfl (still_1 S_6 hat150) hnil))))), ?_⟩
          refine tkP rfl ?_
          refine R_nil H fun t162 H => ⟨fun _ => trivial, ?_⟩
          refine alt_n rfl ?_ vp_none
          refine H_store1 TS_194 H fun h H => ⟨(hskip rfl (hskip rfl hnil)), ?_⟩
          refine vp_done ?_
          refine WPc_seq' ?_
          refine W_drawn [0, 1, 3, 7, 15, 31, 0, 64, 255, 0, 512, 1536, 3584, 7680, 15872, 0, 65024, 131071] (.take 0 (.take 1 (.take 2 (.take 3 (.take 4 (.take 5 (.take 6 (.take 7 (.take 8 (.take 9 (.take 10 (.take 11 (.take 12 (.take 13 (.take 14 (.take 15 (.take 16 (.alt 17 .done .none)))))))))))))))))) mixed (by kernel_rfl) ?_
          refine tkL rfl ?_
          refine R_load1 T1_173 H fun at163 t163 hat163 _ H => ?_
          refine tkP rfl ?_
          refine R_nil H fun t164 H => ⟨fun _ => trivial, ?_⟩
          refine tkP rfl ?_
          refine R_fld TF_188_3 H fun t165 H => ⟨fun _ => trivial, ?_⟩
          refine tkL rfl ?_
          refine R_load1 T1_186 H fun at166 t166 hat166 _ H => ?_
          refine tkP rfl ?_
          refine R_nil H fun t167 H => ⟨fun _ => trivial, ?_⟩
          refine tkL rfl ?_
          refine R_load1 T1_194 H fun at168 t168 hat168 _ H => ?_
          refine tkP rfl ?_
          refine R_move (v := (e 10)) rfl ⟨fun _ => trivial, ?_⟩
          refine tkP rfl ?_
          refine R_add H fun t170 H => ⟨fun _ => trivial, ?_⟩
          refine tkP rfl ?_
          refine R_slice TE_194 (by decide) H fun t171 H => ⟨fun _ => trivial, ?_⟩
          refine tkL rfl ?_
          refine R_load1 T1_173 H fun at172 t172 hat172 _ H => ?_
          refine tkP rfl ?_
          refine R_nil H fun t173 H => ⟨fun _ => trivial, ?_⟩
          refine tkP rfl ?_
          refine R_fld TF_188_3 H fun t174 H => ⟨fun _ => trivial, ?_⟩
          refine tkL rfl ?_
          refine R_load1 T1_186 H fun at175 t175 hat175 _ H => ?_
          refine tkP rfl ?_
          refine R_nil H fun t176 H => ⟨fun _ => trivial, ?_⟩
          refine tkL rfl ?_
          refine R_load1 T1_194 H fun at177 t177 hat177 _ H => ?_
          refine tkP rfl ?_
          refine R_move (v := (e 10)) rfl ⟨fun _ => trivial, ?_⟩
          refine tkP rfl ?_
          refine R_slice TE_194 (by decide) H fun t179 H => ⟨fun _ => trivial, ?_⟩
          refine alt_n rfl ?_ vp_none
          refine H_cpy TE_194 H fun t180 h H => ⟨(hskip rfl (hskip rfl (hskip rfl (hskip rfl (hskip rfl (hskip rfl hnil)))))), ?_⟩
          refine vp_done ?_
          refine WPc_seq' ?_
          refine W_region (by kernel_rfl) ?_
          refine vl_n ?_
          refine H_of_R (R_load1 T1_173 H fun _ t181 _ _ H => ?_)
          refine vl_n ?_
          refine H_of_R (R_nil H fun t182 H => ?_)
          refine vl_n ?_
          refine H_of_R (R_fld TF_188_3 H fun t183 H => ?_)
          refine vl_n ?_
          refine H_of_R (R_load1 T1_186 H fun _ t184 _ _ H => ?_)
          refine vl_n ?_
          refine H_of_R (R_nil H fun t185 H => ?_)
          refine vl_n ?_
          refine H_of_R (R_load1 T1_194 H fun _ t186 _ _ H => ?_)
          refine vl_n ?_
          refine H_of_R (R_move (v := (e 10)) rfl ?_)
          refine vl_n ?_
          refine H_of_R (R_add H fun t188 H => ?_)
          refine vl_n ?_
          refine H_of_R (R_move (v := t148) rfl ?_)
          refine vl_n ?_
          refine H_of_R (R_idx TE_194 H fun t190 H => ?_)
          refine vl_n ?_
          refine H_store1 TS_173 H fun h H => ?_
          refine vl_e ?_
          refine WPc_seq' ?_
          refine W_drawn [0, 0, 2, 6, 14, 0, 32, 96, 224, 480, 1022, 2047, 4095, 8191] (.take 0 (.take 1 (.take 2 (.take 3 (.take 4 (.take 5 (.take 6 (.take 7 (.take 8 (.alt 9 (.alt 10 (.take 11 (.take 12 (.alt 13 .done .none))) .none) .none)))))))))) mixed (by kernel_rfl) ?_
          refine tkL rfl ?_
          refine R_load1 T1_173 H fun at191 t191 hat191 _ H => ?_
          refine tkL rfl ?_
          refine R_load1 T1_173 H fun at192 t192 hat192 _ H => ?_
          refine tkP rfl ?_
          refine R_nil H fun t193 H => ⟨fun _ => trivial, ?_⟩
          refine tkP rfl ?_
          refine R_fld TF_188_2 H fun t194 H => ⟨fun _ => trivial, ?_⟩
          refine tkL rfl ?_
          refine R_load1 T1_185 H fun at195 t195 hat195 _ H => ?_
          refine tkP rfl ?_
          refine R_move (v := (e 0)) rfl ⟨fun _ => trivial, ?_⟩
          refine tkP rfl ?_
          refine R_nil H fun t197 H => ⟨fun _ => trivial, ?_⟩
          refine tkP rfl ?_
          refine R_fld TF_182_4 H fun t198 H => ⟨fun _ => trivial, ?_⟩
          refine tkL rfl ?_
          refine R_loadN TN_178 H fun at199 xt199 hat199 _ H St199 hSt199 => ?_
          refine alt_n rfl ?_ vp_none
          refine H_mkSl TZ_185 (by decide) rfl H rfl fun t200 h ⟨S_8, S_9, S_10, H⟩ => ⟨(hskip rfl (hcons rfl (still_1 S_10 hat195) (hcons rfl (still_1 S_9 hat192) (hcons rfl (still_1 S_8 hat191) hnil)))), ?_⟩
          refine alt_n rfl ?_ vp_none
          refine H_app TZ_185 TU_185 H fun t201 h ⟨S_11, H⟩ => ⟨(hskip rfl (hskip rfl (hcons rfl (still_1 S_11 hat191) hnil))), ?_⟩
          refine tkP rfl ?_
          refine R_nil H fun t202 H => ⟨fun _ => trivial, ?_⟩
          refine tkP rfl ?_
          refine R_fld TF_188_2 H fun t203 H => ⟨fun _ => trivial, ?_⟩
          refine alt_n rfl ?_ vp_none
          refine H_store1 TS_185 H fun h H => ⟨(hskip rfl hnil), ?_⟩
          refine vp_done ?_
          refine WPc_seq' ?_
          refine W_drawn [0, 1, 3, 7, 0, 16, 63, 0, 128, 384, 896, 0, 3968, 8191] (.take 0 (.take 1 (.take 2 (.take 3 (.take 4 (.take 5 (.take 6 (.take 7 (.take 8 (.take 9 (.take 10 (.take 11 (.take 12 (.alt 13 .done .none)))))))))))))) mixed (by kernel_rfl) ?_
          refine tkL rfl ?_
          refine R_load1 T1_173 H fun at204 t204 hat204 _ H => ?_
          refine tkP rfl ?_
          refine R_nil H fun t205 H => ⟨fun _ => trivial, ?_⟩
          refine tkP rfl ?_
          refine R_fld TF_188_2 H fun t206 H => ⟨fun _ => trivial, ?_⟩
          refine tkL rfl ?_
          refine R_load1 T1_185 H fun at207 t207 hat207 _ H => ?_
          refine tkP rfl ?_
          refine R_move (v := (e 10)) rfl ⟨fun _ => trivial, ?_⟩
          refine tkP rfl ?_
          refine R_add H fun t209 H => ⟨fun _ => trivial, ?_⟩
          refine tkP rfl ?_
          refine R_slice TE_185 (by decide) H fun t210 H => ⟨fun _ => trivial, ?_⟩
          refine tkL rfl ?_
          refine R_load1 T1_173 H fun at211 t211 hat211 _ H => ?_
          refine tkP rfl ?_
          refine R_nil H fun t212 H => ⟨fun _ => trivial, ?_⟩
          refine tkP rfl ?_
          refine R_fld TF_188_2 H fun t213 H => ⟨fun _ => trivial, ?_⟩
          refine tkL rfl ?_
          refine R_load1 T1_185 H fun at214 t214 hat214 _ H => ?_
          refine tkP rfl ?_
          refine R_move (v := (e 10)) rfl ⟨fun _ => trivial, ?_⟩
          refine tkP rfl ?_
          refine R_slice TE_185 (by decide) H fun t216 H => ⟨fun _ => trivial, ?_⟩
          refine alt_n rfl ?_ vp_none
          refine H_cpy TE_185 H fun t217 h H => ⟨(hskip rfl (hskip rfl (hskip rfl (hskip rfl hnil)))), ?_⟩
          refine vp_done ?_
          refine WPc_seq' ?_
          refine W_drawn [0, 1, 3, 7, 0, 0, 63, 127] (.take 0 (.take 1 (.take 2 (.take 3 (.take 4 (.take 5 (.take 6 (.alt 7 .done .none)))))))) mixed (by kernel_rfl) ?_
          refine tkL rfl ?_
          refine R_load1 T1_173 H fun at218 t218 hat218 _ H => ?_
          refine tkP rfl ?_
          refine R_nil H fun t219 H => ⟨fun _ => trivial, ?_⟩
          refine tkP rfl ?_
          refine R_fld TF_188_2 H fun t220 H => ⟨fun _ => trivial, ?_⟩
          refine tkL rfl ?_
          refine R_load1 T1_185 H fun at221 t221 hat221 _ H => ?_
          refine tkP rfl ?_
          refine R_move (v := (e 10)) rfl ⟨fun _ => trivial, ?_⟩
          refine tkL rfl ?_
          refine R_loadN TN_178 H fun at223 xt223 hat223 _ H St223 hSt223 => ?_
          refine tkP rfl ?_
          refine R_idx TE_185 H fun t224 H => ⟨fun _ => trivial, ?_⟩
          refine alt_n rfl ?_ vp_none
          refine H_storeN TS_178 H fun h H => ⟨(hskip rfl (hskip rfl (hskip rfl hnil))), ?_⟩
          refine vp_done ?_
          refine WPc_seq' ?_
          refine W_region (by kernel_rfl) ?_
          refine vl_n ?_
          refine H_of_R (R_move (v := (e 0)) rfl ?_)
          refine vl_n ?_
          refine H_of_R (R_loadN TN_178 H fun _ t226 _ _ H _ _ => ?_)
          refine vl_n ?_
          refine H_call HB_113 H fun t227 h H => ?_
          refine vl_n ?_
          refine H_of_R (R_ext H fun t228 H => ?_)
          refine vl_n ?_
          refine H_of_R (R_ext H fun t229 H => ?_)
          refine vl_n ?_
          refine H_of_R (R_ext H fun t230 H => ?_)
          refine vl_n ?_
          refine H_of_R (R_assign (v := t228) rfl ?_)
          refine vl_n ?_
          refine H_of_R (R_assign (v := t229) rfl ?_)
          refine vl_n ?_
          refine H_of_R (R_assign (v := t230) rfl ?_)
          refine vl_e ?_
          refine WPc_ret ?_
          refine resH_of rfl ?_
          exact H
        refine WPc_seq' ?_
        refine W_drawn [0, 1, 3, 7, 15, 0, 32, 96, 224, 511] (.take 0 (.take 1 (.take 2 (.take 3 (.take 4 (.take 5 (.take 6 (.take 7 (.take 8 (.take 9 .done)))))))))) mixed (by kernel_rfl) ?_
        refine tkL rfl ?_
        refine R_load1 T1_173 H fun at121 t121 hat121 _ H => ?_
        refine tkP rfl ?_
        refine R_nil H fun t122 H => ⟨fun _ => trivial, ?_⟩
        refine tkP rfl ?_
        refine R_fld TF_188_2 H fun t123 H => ⟨fun _ => trivial, ?_⟩
        refine tkL rfl ?_
        refine R_load1 T1_185 H fun at124 t124 hat124 _ H => ?_
        refine tkP rfl ?_
        refine R_len Try.underlying185 H fun t125 H => ⟨fun _ => trivial, ?_⟩
        refine tkP rfl ?_
        refine R_move (v := (e 0)) rfl ⟨fun _ => trivial, ?_⟩
        refine tkP rfl ?_
        refine R_nil H fun t127 H => ⟨fun _ => trivial, ?_⟩
        refine tkP rfl ?_
        refine R_fld TF_182_6 H fun t128 H => ⟨fun _ => trivial, ?_⟩
        refine tkL rfl ?_
        refine R_load1 T1_3 H fun at129 t129 hat129 _ H => ?_
        refine tkP rfl ?_
        refine R_eqI H fun t130 H => ⟨fun _ => trivial, ?_⟩
        refine vp_done ?_
        obtain ⟨b_2, hc_2, H1, H2⟩ := H
        refine WPc_cond hc_2 (fun hh => ?_) (fun hh => ?_)
        · have H := H1 hh; clear H1 H2
          refine WPc_seq' ?_
          refine W_region (by kernel_rfl) ?_
          refine vl_n ?_
          refine H_of_R (R_move (v := (e 0)) rfl ?_)
          refine vl_n ?_
          refine H_of_R (R_nil H fun t132 H => ?_)
          refine vl_n ?_
          refine H_of_R (R_fld TF_182_4 H fun t133 H => ?_)
          refine vl_n ?_
          refine H_of_R (R_fld TF_178_0 H fun t134 H => ?_)
          refine vl_n ?_
          refine H_of_R (R_load1 T1_3 H fun _ t135 _ _ H => ?_)
          refine vl_n ?_
          refine H_of_R (R_assign (v := t135) rfl ?_)
          refine vl_n ?_
          refine H_of_R (R_assign (v := (.bool false)) rfl ?_)
          refine vl_n ?_
          refine H_of_R (R_assign (v := (.bool true)) rfl ?_)
          refine vl_e ?_
          refine WPc_ret ?_
          refine resH_of rfl ?_
          exact H
        · have H := H2 hh; clear H1 H2
          refine WPc_skip ?_
          exact H
      · have H := H2 hh; clear H1 H2
        refine WPc_skip ?_
        exact H
    refine WPc_seq' ?_
    refine W_region (by kernel_rfl) ?_
    refine vl_n ?_
    refine H_of_R (R_load1 T1_173 H fun _ t42 _ _ H => ?_)
    refine vl_n ?_
    refine H_call HB_126 H fun t43 h H => ?_
    refine vl_e ?_
    obtain ⟨b, hc, H1, H2⟩ := H
    refine WPc_cond hc (fun hh => ?_) (fun hh => ?_)
    · have H := H1 hh; clear H1 H2
      refine WPc_seq (fun e h => Map_ii_nodeSet.j6 (e 0) (e 5) (e 9) (e 10) h Q) ?_ (fun e h H => ?_)
      rotate_left
      · unfold Map_ii_nodeSet.j6 at H
        refine WPc_seq' ?_
        refine W_drawn [0, 0, 2, 6, 14, 0, 32, 96, 224, 480, 1022, 2047, 4095, 8191] (.take 0 (.take 1 (.take 2 (.take 3 (.take 4 (.take 5 (.take 6 (.take 7 (.take 8 (.alt 9 (.alt 10 (.take 11 (.take 12 (.alt 13 .done .none))) .none) .none)))))))))) mixed (by kernel_rfl) ?_
        refine tkL rfl ?_
        refine R_load1 T1_173 H fun at59 t59 hat59 _ H => ?_
        refine tkL rfl ?_
        refine R_load1 T1_173 H fun at60 t60 hat60 _ H => ?_
        refine tkP rfl ?_
        refine R_nil H fun t61 H => ⟨fun _ => trivial, ?_⟩
        refine tkP rfl ?_
        refine R_fld TF_188_2 H fun t62 H => ⟨fun _ => trivial, ?_⟩
        refine tkL rfl ?_
        refine R_load1 T1_185 H fun at63 t63 hat63 _ H => ?_
        refine tkP rfl ?_
        refine R_move (v := (e 0)) rfl ⟨fun _ => trivial, ?_⟩
        refine tkP rfl ?_
        refine R_nil H fun t65 H => ⟨fun _ => trivial, ?_⟩
        refine tkP rfl ?_
        refine R_fld TF_182_4 H fun t66 H => ⟨fun _ => trivial, ?_⟩
        refine tkL rfl ?_
        refine R_loadN TN_178 H fun at67 xt67 hat67 _ H St67 hSt67 => ?_
        refine alt_n rfl ?_ vp_none
        refine H_mkSl TZ_185 (by decide) rfl H rfl fun t68 h ⟨S, S_2, S_3, H⟩ => ⟨(hskip rfl (hcons rfl (still_1 S_3 hat63) (hcons rfl (still_1 S_2 hat60) (hcons rfl (still_1 S hat59) hnil)))), ?_⟩
        refine alt_n rfl ?_ vp_none
        refine H_app TZ_185 TU_185 H fun t69 h ⟨S_4, H⟩ => ⟨(hskip rfl (hskip rfl (hcons rfl (still_1 S_4 hat59) hnil))), ?_⟩
        refine tkP rfl ?_
        refine R_nil H fun t70 H => ⟨fun _ => trivial, ?_⟩
        refine tkP rfl ?_
        refine R_fld TF_188_2 H fun t71 H => ⟨fun _ => trivial, ?_⟩
        refine alt_n rfl ?_ vp_none
        refine H_store1 TS_185 H fun h H => ⟨(hskip rfl hnil), ?_⟩
        refine vp_done ?_
        refine WPc_seq' ?_
        refine W_drawn [0, 1, 3, 7, 0, 16, 63, 0, 128, 384, 896, 0, 3968, 8191] (.take 0 (.take 1 (.take 2 (.take 3 (.take 4 (.take 5 (.take 6 (.take 7 (.take 8 (.take 9 (.take 10 (.take 11 (.take 12 (.alt 13 .done .none)))))))))))))) mixed (by kernel_rfl) ?_
        refine tkL rfl ?_
        refine R_load1 T1_173 H fun at72 t72 hat72 _ H => ?_
        refine tkP rfl ?_
        refine R_nil H fun t73 H => ⟨fun _ => trivial, ?_⟩
        refine tkP rfl ?_
        refine R_fld TF_188_2 H fun t74 H => ⟨fun _ => trivial, ?_⟩
        refine tkL rfl ?_
        refine R_load1 T1_185 H fun at75 t75 hat75 _ H => ?_
        refine tkP rfl ?_
        refine R_move (v := (e 10)) rfl ⟨fun _ => trivial, ?_⟩
        refine tkP rfl ?_
        refine R_add H fun t77 H => ⟨fun _ => trivial, ?_⟩
        refine tkP rfl ?_
        refine R_slice TE_185 (by decide) H fun t78 H => ⟨fun _ => trivial, ?_⟩
        refine tkL rfl ?_
        refine R_load1 T1_173 H fun at79 t79 hat79 _ H => ?_
        refine tkP rfl ?_
        refine R_nil H fun t80 H => ⟨fun _ => trivial, ?_⟩
        refine tkP rfl ?_
        refine R_fld TF_188_2 H fun t81 H => ⟨fun _ => trivial, ?_⟩
        refine tkL rfl ?_
        refine R_load1 T1_185 H fun at82 t82 hat82 _ H => ?_
        refine tkP rfl ?_
        refine R_move (v := (e 10)) rfl ⟨fun _ => trivial, ?_⟩
        refine tkP rfl ?_
        refine R_slice TE_185 (by decide) H fun t84 H => ⟨fun _ => trivial, ?_⟩
        refine alt_n rfl ?_ vp_none
        refine H_cpy TE_185 H fun t85 h H => ⟨(hskip rfl (hskip rfl (hskip rfl (hskip rfl hnil)))), ?_⟩
        refine vp_done ?_
        refine WPc_seq' ?_
        refine W_drawn [0, 1, 3, 7, 0, 0, 63, 127] (.take 0 (.take 1 (.take 2 (.take 3 (.take 4 (.take 5 (.take 6 (.alt 7 .done .none)))))))) mixed (by kernel_rfl) ?_
        refine tkL rfl ?_
        refine R_load1 T1_173 H fun at86 t86 hat86 _ H => ?_
        refine tkP rfl ?_
        refine R_nil H fun t87 H => ⟨fun _ => trivial, ?_⟩
        refine tkP rfl ?_
        refine R_fld TF_188_2 H fun t88 H => ⟨fun _ => trivial, ?_⟩
        refine tkL rfl ?_
        refine R_load1 T1_185 H fun at89 t89 hat89 _ H => ?_
        refine tkP rfl ?_
        refine R_move (v := (e 10)) rfl ⟨fun _ => trivial, ?_⟩
        refine tkL rfl ?_
        refine R_loadN TN_178 H fun at91 xt91 hat91 _ H St91 hSt91 => ?_
        refine tkP rfl ?_
        refine R_idx TE_185 H fun t92 H => ⟨fun _ => trivial, ?_⟩
        refine alt_n rfl ?_ vp_none
        refine H_storeN TS_178 H fun h H => ⟨(hskip rfl (hskip rfl (hskip rfl hnil))), ?_⟩
        refine vp_done ?_
        refine WPc_seq' ?_
        refine W_region (by kernel_rfl) ?_
        refine vl_n ?_
        refine H_of_R (R_load1 T1_173 H fun _ t93 _ _ H => ?_)
        refine vl_n ?_
        refine H_of_R (R_nil H fun t94 H => ?_)
        refine vl_n ?_
        refine H_of_R (R_fld TF_188_1 H fun t95 H => ?_)
        refine vl_n ?_
        refine H_of_R (R_load1 T1_3 H fun _ t96 _ _ H => ?_)
        refine vl_n ?_
        refine H_of_R (R_add H fun t97 H => ?_)
        refine vl_n ?_
        refine H_of_R (R_nil H fun t98 H => ?_)
        refine vl_n ?_
        refine H_of_R (R_fld TF_188_1 H fun t99 H => ?_)
        refine vl_n ?_
        refine H_store1 TS_3 H fun h H => ?_
        refine vl_e ?_
        refine WPc_seq' ?_
        refine W_region (by kernel_rfl) ?_
        refine vl_n ?_
        refine H_of_R (R_move (v := (e 0)) rfl ?_)
        refine vl_n ?_
        refine H_of_R (R_nil H fun t101 H => ?_)
        refine vl_n ?_
        refine H_of_R (R_fld TF_182_4 H fun t102 H => ?_)
        refine vl_n ?_
        refine H_of_R (R_fld TF_178_0 H fun t103 H => ?_)
        refine vl_n ?_
        refine H_of_R (R_load1 T1_3 H fun _ t104 _ _ H => ?_)
        refine vl_n ?_
        refine H_of_R (R_assign (v := t104) rfl ?_)
        refine vl_n ?_
        refine H_of_R (R_assign (v := (.bool false)) rfl ?_)
        refine vl_n ?_
        refine H_of_R (R_assign (v := (.bool false)) rfl ?_)
        refine vl_e ?_
        refine WPc_ret ?_
        refine resH_of rfl ?_
        exact H
      refine WPc_seq' ?_
      refine W_drawn [0, 1, 3, 7, 15, 0, 32, 96, 224, 511] (.take 0 (.take 1 (.take 2 (.take 3 (.take 4 (.take 5 (.take 6 (.take 7 (.take 8 (.take 9 .done)))))))))) mixed (by kernel_rfl) ?_
      refine tkL rfl ?_
      refine R_load1 T1_173 H fun at44 t44 hat44 _ H => ?_
      refine tkP rfl ?_
      refine R_nil H fun t45 H => ⟨fun _ => trivial, ?_⟩
      refine tkP rfl ?_
      refine R_fld TF_188_2 H fun t46 H => ⟨fun _ => trivial, ?_⟩
      refine tkL rfl ?_
      refine R_load1 T1_185 H fun at47 t47 hat47 _ H => ?_
      refine tkP rfl ?_
      refine R_len Try.underlying185 H fun t48 H => ⟨fun _ => trivial, ?_⟩
      refine tkP rfl ?_
      refine R_move (v := (e 0)) rfl ⟨fun _ => trivial, ?_⟩
      refine tkP rfl ?_
      refine R_nil H fun t50 H => ⟨fun _ => trivial, ?_⟩
      refine tkP rfl ?_
      refine R_fld TF_182_6 H fun t51 H => ⟨fun _ => trivial, ?_⟩
      refine tkL rfl ?_
      refine R_load1 T1_3 H fun at52 t52 hat52 _ H => ?_
      refine tkP rfl ?_
      refine R_eqI H fun t53 H => ⟨fun _ => trivial, ?_⟩
      refine vp_done ?_
      obtain ⟨b_2, hc_2, H1, H2⟩ := H
      refine WPc_cond hc_2 (fun hh => ?_) (fun hh => ?_)
      · have H := H1 hh; clear H1 H2
        refine WPc_seq' ?_
        refine W_region (by kernel_rfl) ?_
        refine vl_n ?_
        refine H_of_R (R_move (v := (e 0)) rfl ?_)
        refine vl_n ?_
        refine H_of_R (R_nil H fun t55 H => ?_)
        refine vl_n ?_
        refine H_of_R (R_fld TF_182_4 H fun t56 H => ?_)
        refine vl_n ?_
        refine H_of_R (R_fld TF_178_0 H fun t57 H => ?_)
        refine vl_n ?_
        refine H_of_R (R_load1 T1_3 H fun _ t58 _ _ H => ?_)
        refine vl_n ?_
        refine H_of_R (R_assign (v := t58) rfl ?_)
        refine vl_n ?_
        refine H_of_R (R_assign (v := (.bool false)) rfl ?_)
        refine vl_n ?_
        refine H_of_R (R_assign (v := (.bool true)) rfl ?_)
        refine vl_e ?_
        refine WPc_ret ?_
        refine resH_of rfl ?_
        exact H
      · have H := H2 hh; clear H1 H2
        refine WPc_skip ?_
        exact H
    · have H := H2 hh; clear H1 H2
      refine WPc_skip ?_
      exact H
  refine WPc_seq' ?_
  refine W_region (by kernel_rfl) ?_
  refine vl_n ?_
  refine H_of_R (R_move (v := t24) rfl ?_)
  refine vl_e ?_
  obtain ⟨b, hc, H1, H2⟩ := H
  refine WPc_cond hc (fun hh => ?_) (fun hh => ?_)
  · have H := H1 hh; clear H1 H2
    refine WPc_seq' ?_
    refine W_region (by kernel_rfl) ?_
    refine vl_n ?_
    refine H_of_R (R_load1 T1_173 H fun _ t26 _ _ H => ?_)
    refine vl_n ?_
    refine H_of_R (R_nil H fun t27 H => ?_)
    refine vl_n ?_
    refine H_of_R (R_fld TF_188_2 H fun t28 H => ?_)
    refine vl_n ?_
    refine H_of_R (R_load1 T1_185 H fun _ t29 _ _ H => ?_)
    refine vl_n ?_
    refine H_of_R (R_move (v := t23) rfl ?_)
    refine vl_n ?_
    refine H_of_R (R_idx TE_185 H fun t31 H => ?_)
    refine vl_n ?_
    refine H_of_R (R_fld TF_178_0 H fun t32 H => ?_)
    refine vl_n ?_
    refine H_of_R (R_load1 T1_3 H fun _ t33 _ _ H => ?_)
    refine vl_n ?_
    refine H_of_R (R_assign (v := t33) rfl ?_)
    refine vl_e ?_
    refine WPc_seq' ?_
    refine W_drawn [0, 1, 3, 7, 0, 0, 63, 127] (.take 0 (.take 1 (.take 2 (.take 3 (.take 4 (.take 5 (.take 6 (.alt 7 .done .none)))))))) mixed (by kernel_rfl) ?_
    refine tkL rfl ?_
    refine R_load1 T1_173 H fun at34 t34 hat34 _ H => ?_
    refine tkP rfl ?_
    refine R_nil H fun t35 H => ⟨fun _ => trivial, ?_⟩
    refine tkP rfl ?_
    refine R_fld TF_188_2 H fun t36 H => ⟨fun _ => trivial, ?_⟩
    refine tkL rfl ?_
    refine R_load1 T1_185 H fun at37 t37 hat37 _ H => ?_
    refine tkP rfl ?_
    refine R_move (v := t23) rfl ⟨fun _ => trivial, ?_⟩
    refine tkL rfl ?_
    refine R_loadN TN_178 H fun at39 xt39 hat39 _ H St39 hSt39 => ?_
    refine tkP rfl ?_
    refine R_idx TE_185 H fun t40 H => ⟨fun _ => trivial, ?_⟩
    refine alt_n rfl ?_ vp_none
    refine H_storeN TS_178 H fun h H => ⟨(hskip rfl (hskip rfl (hskip rfl hnil))), ?_⟩
    refine vp_done ?_
    refine WPc_seq' ?_
    refine W_region (by kernel_rfl) ?_
    refine vl_n ?_
    refine H_of_R (R_move (v := t33) rfl ?_)
    refine vl_n ?_
    refine H_of_R (R_assign (v := t33) rfl ?_)
    refine vl_n ?_
    refine H_of_R (R_assign (v := (.bool true)) rfl ?_)
    refine vl_n ?_
    refine H_of_R (R_assign (v := (.bool false)) rfl ?_)
    refine vl_e ?_
    refine WPc_ret ?_
    refine resH_of rfl ?_
    exact H
  · have H := H2 hh; clear H1 H2
    refine WPc_skip ?_
    exact H

end Go.Proofs.Ytlihjljdndbpdaa
end
section
namespace Go.Proofs.Ytlihjljdndbpdaa
open Go.Hp
set_option maxRecDepth 100000
set_option maxHeartbeats 8000000
set_option linter.unusedVariables false
set_option linter.unusedSimpArgs false

/-! ### (*pub/tidwallbtree.Map[int, int]).Set -/
def Map_ii_Set.j3 (s0 : Value) (h : Heap) (Q : Value → Heap → Prop) : Prop :=
    nilck s0 fun t133 =>
    fld 3 t133 fun t134 =>
    load1 t134 h fun t135 =>
    arith (· + ·) t135 (.int .i64 1) fun t136 =>
    nilck s0 fun t137 =>
    fld 3 t137 fun t138 =>
    store1 t138 t136 h fun h =>
    nilck s0 fun t140 =>
    fld 4 t140 fun t141 =>
    fld 0 t141 fun t142 =>
    load1 t142 h fun t143 =>
    Q (.tuple #[t143, (.bool false)]) h
def Map_ii_Set.j2 (s0 : Value) (s9 : Value) (s10 : Value) (h : Heap) (Q : Value → Heap → Prop) : Prop :=
    ifV s10
    (Q (.tuple #[s9, (.bool true)]) h)
    (Map_ii_Set.j3 s0 h Q)
def Map_ii_Set.j1 (s0 : Value) (s8 : Value) (h : Heap) (Q : Value → Heap → Prop) : Prop :=
    nilck s0 fun t57 =>
    fld 2 t57 fun t58 =>
    loadN 2 s8 h fun t59 =>
    Map_ii_nodeSet.call #[s0, t58, t59] h fun t60 h =>
    extr 0 t60 fun t61 =>
    extr 1 t60 fun t62 =>
    extr 2 t60 fun t63 =>
    ifV t63
    (nilck s0 fun t66 =>
    fld 2 t66 fun t67 =>
    load1 t67 h fun t68 =>
    Map_ii_nodeSplit.call #[s0, t68] h fun t72 h =>
    extr 0 t72 fun t73 =>
    extr 1 t72 fun t74 =>
    alloc [(.int .i64 0), (.int .i64 0)] 178 h fun t14 h =>
    storeN 2 t14 t74 h fun h =>
    Map_ii_newNode.call #[s0, (.bool false)] h fun t77 h =>
    nilck s0 fun t78 =>
    fld 2 t78 fun t79 =>
    store1 t79 t77 h fun h =>
    nilck s0 fun t81 =>
    fld 2 t81 fun t82 =>
    load1 t82 h fun t83 =>
    nilck t83 fun t84 =>
    fld 3 t84 fun t85 =>
    load1 t85 h fun t86 =>
    nilck s0 fun t88 =>
    fld 7 t88 fun t89 =>
    load1 t89 h fun t90 =>
    arith (· + ·) t90 (.int .i64 1) fun t91 =>
    mks 173 1 8 [(.pointer none)] (.int .i64 0) t91 h fun t92 h =>
    still1 t82 t83 h ∧ still1 t85 t86 h ∧ nilck t86 fun t93 =>
    store1 t93 t92 h fun h =>
    nilck s0 fun t95 =>
    fld 2 t95 fun t96 =>
    load1 t96 h fun t97 =>
    nilck t97 fun t98 =>
    fld 3 t98 fun t99 =>
    load1 t99 h fun t100 =>
    (mkSl (if 0 * 1 = 0 then [] else zeros [(.pointer none)] 0) 0 [] 173 h fun t101 h =>
    still1 t96 t97 h ∧ still1 t99 t100 h ∧ mkSl (if 2 * 1 = 0 then [] else zeros [(.pointer none)] 2) 2 [(0 * 1, 1, t68), (1 * 1, 1, t73)] 173 h fun t104 h =>
    still1 t96 t97 h ∧ still1 t99 t100 h ∧ app 173 1 8 [(.pointer none)] t101 t104 h fun t105 h =>
    still1 t96 t97 h ∧ still1 t99 t100 h ∧ nilck t100 fun t106 =>
    store1 t106 t105 h fun h =>
    nilck s0 fun t108 =>
    fld 2 t108 fun t109 =>
    load1 t109 h fun t110 =>
    loadN 2 t14 h fun t112 =>
    (mkSl (if 0 * 2 = 0 then [] else zeros [(.int .i64 0), (.int .i64 0)] 0) 0 [] 178 h fun t111 h =>
    still1 t109 t110 h ∧ stillN 2 t14 t112 h ∧ mkSl (if 1 * 2 = 0 then [] else zeros [(.int .i64 0), (.int .i64 0)] 1) 1 [(0 * 2, 2, t112)] 178 h fun t113 h =>
    still1 t109 t110 h ∧ app 178 2 16 [(.int .i64 0), (.int .i64 0)] t111 t113 h fun t114 h =>
    still1 t109 t110 h ∧ nilck t110 fun t115 =>
    fld 2 t115 fun t116 =>
    store1 t116 t114 h fun h =>
    nilck s0 fun t118 =>
    fld 2 t118 fun t119 =>
    load1 t119 h fun t120 =>
    mapNode_ii_updateCount.call #[t120] h fun t121 h =>
    fld 1 s8 fun t123 =>
    load1 t123 h fun t124 =>
    fld 0 s8 fun t125 =>
    load1 t125 h fun t126 =>
    Map_ii_Set.call #[s0, t124, t126] h fun t127 h =>
    extr 0 t127 fun t128 =>
    extr 1 t127 fun t129 =>
    Q (.tuple #[t128, t129]) h) ∧
    (mkSl (if 1 * 2 = 0 then [] else zeros [(.int .i64 0), (.int .i64 0)] 1) 1 [(0 * 2, 2, t112)] 178 h fun t113_2 h =>
    still1 t109 t110 h ∧ mkSl (if 0 * 2 = 0 then [] else zeros [(.int .i64 0), (.int .i64 0)] 0) 0 [] 178 h fun t111_2 h =>
    still1 t109 t110 h ∧ app 178 2 16 [(.int .i64 0), (.int .i64 0)] t111_2 t113_2 h fun t114_2 h =>
    still1 t109 t110 h ∧ nilck t110 fun t115_2 =>
    fld 2 t115_2 fun t116_2 =>
    store1 t116_2 t114_2 h fun h =>
    nilck s0 fun t118_2 =>
    fld 2 t118_2 fun t119_2 =>
    load1 t119_2 h fun t120_2 =>
    mapNode_ii_updateCount.call #[t120_2] h fun t121_2 h =>
    fld 1 s8 fun t123_2 =>
    load1 t123_2 h fun t124_2 =>
    fld 0 s8 fun t125_2 =>
    load1 t125_2 h fun t126_2 =>
    Map_ii_Set.call #[s0, t124_2, t126_2] h fun t127_2 h =>
    extr 0 t127_2 fun t128_2 =>
    extr 1 t127_2 fun t129_2 =>
    Q (.tuple #[t128_2, t129_2]) h)) ∧
    (mkSl (if 2 * 1 = 0 then [] else zeros [(.pointer none)] 2) 2 [(0 * 1, 1, t68), (1 * 1, 1, t73)] 173 h fun t104_2 h =>
    still1 t96 t97 h ∧ still1 t99 t100 h ∧ mkSl (if 0 * 1 = 0 then [] else zeros [(.pointer none)] 0) 0 [] 173 h fun t101_2 h =>
    still1 t96 t97 h ∧ still1 t99 t100 h ∧ app 173 1 8 [(.pointer none)] t101_2 t104_2 h fun t105_2 h =>
    still1 t96 t97 h ∧ still1 t99 t100 h ∧ nilck t100 fun t106_2 =>
    store1 t106_2 t105_2 h fun h =>
    nilck s0 fun t108_2 =>
    fld 2 t108_2 fun t109_2 =>
    load1 t109_2 h fun t110_2 =>
    loadN 2 t14 h fun t112_2 =>
    (mkSl (if 0 * 2 = 0 then [] else zeros [(.int .i64 0), (.int .i64 0)] 0) 0 [] 178 h fun t111_3 h =>
    still1 t109_2 t110_2 h ∧ stillN 2 t14 t112_2 h ∧ mkSl (if 1 * 2 = 0 then [] else zeros [(.int .i64 0), (.int .i64 0)] 1) 1 [(0 * 2, 2, t112_2)] 178 h fun t113_3 h =>
    still1 t109_2 t110_2 h ∧ app 178 2 16 [(.int .i64 0), (.int .i64 0)] t111_3 t113_3 h fun t114_3 h =>
    still1 t109_2 t110_2 h ∧ nilck t110_2 fun t115_3 =>
    fld 2 t115_3 fun t116_3 =>
    store1 t116_3 t114_3 h fun h =>
    nilck s0 fun t118_3 =>
    fld 2 t118_3 fun t119_3 =>
    load1 t119_3 h fun t120_3 =>
    mapNode_ii_updateCount.call #[t120_3] h fun t121_3 h =>
    fld 1 s8 fun t123_3 =>
    load1 t123_3 h fun t124_3 =>
    fld 0 s8 fun t125_3 =>
    load1 t125_3 h fun t126_3 =>
    Map_ii_Set.call #[s0, t124_3, t126_3] h fun t127_3 h =>
    extr 0 t127_3 fun t128_3 =>
    extr 1 t127_3 fun t129_3 =>
    Q (.tuple #[t128_3, t129_3]) h) ∧
    (mkSl (if 1 * 2 = 0 then [] else zeros [(.int .i64 0), (.int .i64 0)] 1) 1 [(0 * 2, 2, t112_2)] 178 h fun t113_4 h =>
    still1 t109_2 t110_2 h ∧ mkSl (if 0 * 2 = 0 then [] else zeros [(.int .i64 0), (.int .i64 0)] 0) 0 [] 178 h fun t111_4 h =>
    still1 t109_2 t110_2 h ∧ app 178 2 16 [(.int .i64 0), (.int .i64 0)] t111_4 t113_4 h fun t114_4 h =>
    still1 t109_2 t110_2 h ∧ nilck t110_2 fun t115_4 =>
    fld 2 t115_4 fun t116_4 =>
    store1 t116_4 t114_4 h fun h =>
    nilck s0 fun t118_4 =>
    fld 2 t118_4 fun t119_4 =>
    load1 t119_4 h fun t120_4 =>
    mapNode_ii_updateCount.call #[t120_4] h fun t121_4 h =>
    fld 1 s8 fun t123_4 =>
    load1 t123_4 h fun t124_4 =>
    fld 0 s8 fun t125_4 =>
    load1 t125_4 h fun t126_4 =>
    Map_ii_Set.call #[s0, t124_4, t126_4] h fun t127_4 h =>
    extr 0 t127_4 fun t128_4 =>
    extr 1 t127_4 fun t129_4 =>
    Q (.tuple #[t128_4, t129_4]) h)))
    (Map_ii_Set.j2 s0 t61 t62 h Q)
def Map_ii_Set.sh (a0 : Value) (a1 : Value) (a2 : Value) (h : Heap) (Q : Value → Heap → Prop) : Prop :=
    buildV [(.int .i64 0), (.int .i64 0)] [(1, 1, a1), (0, 1, a2)] fun t17 =>
    alloc [(.int .i64 0), (.int .i64 0)] 178 h fun t8 h =>
    storeN 2 t8 t17 h fun h =>
    nilck a0 fun t19 =>
    fld 2 t19 fun t20 =>
    load1 t20 h fun t21 =>
    eqNilP t21 fun t22 =>
    ifV t22
    (Map_ii_init.call #[a0, (.int .i64 0)] h fun t24 h =>
    Map_ii_newNode.call #[a0, (.bool true)] h fun t27 h =>
    nilck a0 fun t28 =>
    fld 2 t28 fun t29 =>
    store1 t29 t27 h fun h =>
    nilck a0 fun t31 =>
    fld 2 t31 fun t32 =>
    load1 t32 h fun t33 =>
    loadN 2 t8 h fun t35 =>
    (mkSl (if 0 * 2 = 0 then [] else zeros [(.int .i64 0), (.int .i64 0)] 0) 0 [] 178 h fun t34 h =>
    still1 t32 t33 h ∧ stillN 2 t8 t35 h ∧ mkSl (if 1 * 2 = 0 then [] else zeros [(.int .i64 0), (.int .i64 0)] 1) 1 [(0 * 2, 2, t35)] 178 h fun t36 h =>
    still1 t32 t33 h ∧ app 178 2 16 [(.int .i64 0), (.int .i64 0)] t34 t36 h fun t37 h =>
    still1 t32 t33 h ∧ nilck t33 fun t38 =>
    fld 2 t38 fun t39 =>
    store1 t39 t37 h fun h =>
    nilck a0 fun t41 =>
    fld 2 t41 fun t42 =>
    load1 t42 h fun t43 =>
    nilck t43 fun t44 =>
    fld 1 t44 fun t45 =>
    store1 t45 (.int .i64 1) h fun h =>
    nilck a0 fun t47 =>
    fld 3 t47 fun t48 =>
    store1 t48 (.int .i64 1) h fun h =>
    nilck a0 fun t50 =>
    fld 4 t50 fun t51 =>
    fld 0 t51 fun t52 =>
    load1 t52 h fun t53 =>
    Q (.tuple #[t53, (.bool false)]) h) ∧
    (mkSl (if 1 * 2 = 0 then [] else zeros [(.int .i64 0), (.int .i64 0)] 1) 1 [(0 * 2, 2, t35)] 178 h fun t36_2 h =>
    still1 t32 t33 h ∧ mkSl (if 0 * 2 = 0 then [] else zeros [(.int .i64 0), (.int .i64 0)] 0) 0 [] 178 h fun t34_2 h =>
    still1 t32 t33 h ∧ app 178 2 16 [(.int .i64 0), (.int .i64 0)] t34_2 t36_2 h fun t37_2 h =>
    still1 t32 t33 h ∧ nilck t33 fun t38_2 =>
    fld 2 t38_2 fun t39_2 =>
    store1 t39_2 t37_2 h fun h =>
    nilck a0 fun t41_2 =>
    fld 2 t41_2 fun t42_2 =>
    load1 t42_2 h fun t43_2 =>
    nilck t43_2 fun t44_2 =>
    fld 1 t44_2 fun t45_2 =>
    store1 t45_2 (.int .i64 1) h fun h =>
    nilck a0 fun t47_2 =>
    fld 3 t47_2 fun t48_2 =>
    store1 t48_2 (.int .i64 1) h fun h =>
    nilck a0 fun t50_2 =>
    fld 4 t50_2 fun t51_2 =>
    fld 0 t51_2 fun t52_2 =>
    load1 t52_2 h fun t53_2 =>
    Q (.tuple #[t53_2, (.bool false)]) h))
    (Map_ii_Set.j1 a0 t8 h Q)
theorem Map_ii_Set.body (a0 : Value) (a1 : Value) (a2 : Value) (h : Heap) (Q : Value → Heap → Prop) (H : Map_ii_Set.sh a0 a1 a2 h Q) : Map_ii_Set.call #[a0, a1, a2] h Q := by
  refine callsH_of (args := [a0, a1, a2]) Try.func59 rfl rfl ?_
  unfold Map_ii_Set.sh at H
  refine WPc_seq' ?_
  refine W_region (by kernel_rfl) ?_
  refine vl_n ?_
  refine H_of_R (R_assign (v := (.int .i64 0)) rfl ?_)
  refine vl_n ?_
  refine H_of_R (R_assign (v := (.bool false)) rfl ?_)
  refine vl_e ?_
  refine WPc_seq' ?_
  refine W_region (by kernel_rfl) ?_
  refine vl_n ?_
  refine H_of_R (R_move (v := a1) rfl ?_)
  refine vl_n ?_
  refine H_of_R (R_move (v := a2) rfl ?_)
  refine vl_n ?_
  refine H_of_R (R_build TB_178 rfl (by decide) H fun t17 H => ?_)
  refine vl_n ?_
  refine H_alloc TV_178 H fun t8 h H => ?_
  refine vl_n ?_
  refine H_storeN TS_178 H fun h H => ?_
  refine vl_e ?_
  refine WPc_seq (fun e h => Map_ii_Set.j1 (e 0) (e 8) h Q) ?_ (fun e h H => ?_)
  rotate_left
  · unfold Map_ii_Set.j1 at H
    refine WPc_seq' ?_
    refine W_drawn [0, 0, 2, 6, 0, 31, 63, 127, 127, 127, 255, 1535, 4095] (.take 0 (.take 1 (.take 2 (.take 3 (.take 4 (.alt 5 (.take 6 (.take 7 (.take 8 (.take 9 (.take 10 (.take 11 (.take 12 .done))))))) .none)))))) mixed (by kernel_rfl) ?_
    refine tkP rfl ?_
    refine R_move (v := (e 0)) rfl ⟨fun _ => trivial, ?_⟩
    refine tkP rfl ?_
    refine R_move (v := (e 0)) rfl ⟨fun _ => trivial, ?_⟩
    refine tkP rfl ?_
    refine R_nil H fun t57 H => ⟨fun _ => trivial, ?_⟩
    refine tkP rfl ?_
    refine R_fld TF_182_2 H fun t58 H => ⟨fun _ => trivial, ?_⟩
    refine tkL rfl ?_
    refine R_loadN TN_178 H fun at59 xt59 hat59 _ H St59 hSt59 => ?_
    refine alt_n rfl ?_ vp_none
    refine H_call HB_113 H fun t60 h H => ⟨(hskip rfl hnil), ?_⟩
    refine tkP rfl ?_
    refine R_move (v := t60) rfl ⟨fun _ => trivial, ?_⟩
    refine tkP rfl ?_
    refine R_ext H fun t61 H => ⟨fun _ => trivial, ?_⟩
    refine tkP rfl ?_
    refine R_ext H fun t62 H => ⟨fun _ => trivial, ?_⟩
    refine tkP rfl ?_
    refine R_ext H fun t63 H => ⟨fun _ => trivial, ?_⟩
    refine tkP rfl ?_
    refine R_assign (v := t61) rfl ⟨fun _ => trivial, ?_⟩
    refine tkP rfl ?_
    refine R_assign (v := t62) rfl ⟨fun _ => trivial, ?_⟩
    refine tkP rfl ?_
    refine R_assign (v := t63) rfl ⟨fun _ => trivial, ?_⟩
    refine vp_done ?_
    refine WPc_seq (fun e h => Map_ii_Set.j2 (e 0) (e 9) (e 10) h Q) ?_ (fun e h H => ?_)
    rotate_left
    · unfold Map_ii_Set.j2 at H
      refine WPc_seq (fun e h => Map_ii_Set.j3 (e 0) h Q) ?_ (fun e h H => ?_)
      rotate_left
      · unfold Map_ii_Set.j3 at H
        refine WPc_seq' ?_
        refine W_region (by kernel_rfl) ?_
        refine vl_n ?_
        refine H_of_R (R_move (v := (e 0)) rfl ?_)
        refine vl_n ?_
        refine H_of_R (R_nil H fun t133 H => ?_)
        refine vl_n ?_
        refine H_of_R (R_fld TF_182_3 H fun t134 H => ?_)
        refine vl_n ?_
        refine H_of_R (R_load1 T1_3 H fun _ t135 _ _ H => ?_)
        refine vl_n ?_
        refine H_of_R (R_add H fun t136 H => ?_)
        refine vl_n ?_
        refine H_of_R (R_nil H fun t137 H => ?_)
        refine vl_n ?_
        refine H_of_R (R_fld TF_182_3 H fun t138 H => ?_)
        refine vl_n ?_
        refine H_store1 TS_3 H fun h H => ?_
        refine vl_e ?_
        refine WPc_seq' ?_
        refine W_region (by kernel_rfl) ?_
        refine vl_n ?_
        refine H_of_R (R_move (v := (e 0)) rfl ?_)
        refine vl_n ?_
        refine H_of_R (R_nil H fun t140 H => ?_)
        refine vl_n ?_
        refine H_of_R (R_fld TF_182_4 H fun t141 H => ?_)
        refine vl_n ?_
        refine H_of_R (R_fld TF_178_0 H fun t142 H => ?_)
        refine vl_n ?_
        refine H_of_R (R_load1 T1_3 H fun _ t143 _ _ H => ?_)
        refine vl_n ?_
        refine H_of_R (R_assign (v := t143) rfl ?_)
        refine vl_n ?_
        refine H_of_R (R_assign (v := (.bool false)) rfl ?_)
        refine vl_e ?_
        refine WPc_ret ?_
        refine resH_of rfl ?_
        exact H
      refine WPc_seq' ?_
      refine W_region (by kernel_rfl) ?_
      refine vl_n ?_
      refine H_of_R (R_move (v := (e 10)) rfl ?_)
      refine vl_e ?_
      obtain ⟨b, hc, H1, H2⟩ := H
      refine WPc_cond hc (fun hh => ?_) (fun hh => ?_)
      · have H := H1 hh; clear H1 H2
        refine WPc_seq' ?_
        refine W_region (by kernel_rfl) ?_
        refine vl_n ?_
        refine H_of_R (R_move (v := (e 9)) rfl ?_)
        refine vl_n ?_
        refine H_of_R (R_assign (v := (e 9)) rfl ?_)
        refine vl_n ?_
        refine H_of_R (R_assign (v := (.bool true)) rfl ?_)
        refine vl_e ?_
        refine WPc_ret ?_
        refine resH_of rfl ?_
        exact H
      · have H := H2 hh; clear H1 H2
        refine WPc_skip ?_
        exact H
    refine WPc_seq' ?_
    refine W_region (by kernel_rfl) ?_
    refine vl_n ?_
    refine H_of_R (R_move (v := t63) rfl ?_)
    refine vl_e ?_
    obtain ⟨b, hc, H1, H2⟩ := H
    refine WPc_cond hc (fun hh => ?_) (fun hh => ?_)
    · have H := H1 hh; clear H1 H2
      refine WPc_seq' ?_
      refine W_region (by kernel_rfl) ?_
      refine vl_n ?_
      refine H_of_R (R_move (v := (e 0)) rfl ?_)
      refine vl_n ?_
      refine H_of_R (R_nil H fun t66 H => ?_)
      refine vl_n ?_
      refine H_of_R (R_fld TF_182_2 H fun t67 H => ?_)
      refine vl_n ?_
      refine H_of_R (R_load1 T1_173 H fun _ t68 _ _ H => ?_)
      refine vl_n ?_
      refine H_of_R (R_assign (v := t68) rfl ?_)
      refine vl_e ?_
      refine WPc_seq' ?_
      refine W_region (by kernel_rfl) ?_
      refine vl_n ?_
      refine H_of_R (R_move (v := (e 0)) rfl ?_)
      refine vl_n ?_
      refine H_of_R (R_move (v := t68) rfl ?_)
      refine vl_n ?_
      refine H_call HB_114 H fun t72 h H => ?_
      refine vl_n ?_
      refine H_of_R (R_move (v := t72) rfl ?_)
      refine vl_n ?_
      refine H_of_R (R_ext H fun t73 H => ?_)
      refine vl_n ?_
      refine H_of_R (R_ext H fun t74 H => ?_)
      refine vl_n ?_
      refine H_alloc TV_178 H fun t14 h H => ?_
      refine vl_n ?_
      refine H_of_R (R_assign (v := t73) rfl ?_)
      refine vl_n ?_
      refine H_storeN TS_178 H fun h H => ?_
      refine vl_e ?_
      refine WPc_seq' ?_
      refine W_region (by kernel_rfl) ?_
      refine vl_n ?_
      refine H_of_R (R_move (v := (e 0)) rfl ?_)
      refine vl_n ?_
      refine H_of_R (R_move (v := (e 0)) rfl ?_)
      refine vl_n ?_
      refine H_call HB_112 H fun t77 h H => ?_
      refine vl_n ?_
      refine H_of_R (R_nil H fun t78 H => ?_)
      refine vl_n ?_
      refine H_of_R (R_fld TF_182_2 H fun t79 H => ?_)
      refine vl_n ?_
      refine H_store1 TS_173 H fun h H => ?_
      refine vl_e ?_
      refine WPc_seq' ?_
      refine W_drawn [0, 1, 3, 7, 15, 31, 63, 0, 128, 384, 896, 1920, 3968, 8191, 16383] (.take 0 (.take 1 (.take 2 (.take 3 (.take 4 (.take 5 (.take 6 (.take 7 (.take 8 (.take 9 (.take 10 (.take 11 (.alt 12 (.take 13 (.alt 14 .done .none)) .none))))))))))))) mixed (by kernel_rfl) ?_
      refine tkP rfl ?_
      refine R_move (v := (e 0)) rfl ⟨fun _ => trivial, ?_⟩
      refine tkP rfl ?_
      refine R_nil H fun t81 H => ⟨fun _ => trivial, ?_⟩
      refine tkP rfl ?_
      refine R_fld TF_182_2 H fun t82 H => ⟨fun _ => trivial, ?_⟩
      refine tkL rfl ?_
      refine R_load1 T1_173 H fun at83 t83 hat83 _ H => ?_
      refine tkP rfl ?_
      refine R_nil H fun t84 H => ⟨fun _ => trivial, ?_⟩
      refine tkP rfl ?_
      refine R_fld TF_188_3 H fun t85 H => ⟨fun _ => trivial, ?_⟩
      refine tkL rfl ?_
      refine R_load1 T1_186 H fun at86 t86 hat86 _ H => ?_
      refine tkP rfl ?_
      refine R_move (v := (e 0)) rfl ⟨fun _ => trivial, ?_⟩
      refine tkP rfl ?_
      refine R_nil H fun t88 H => ⟨fun _ => trivial, ?_⟩
      refine tkP rfl ?_
      refine R_fld TF_182_6 H fun t89 H => ⟨fun _ => trivial, ?_⟩
      refine tkL rfl ?_
      refine R_load1 T1_3 H fun at90 t90 hat90 _ H => ?_
      refine tkP rfl ?_
      refine R_add H fun t91 H => ⟨fun _ => trivial, ?_⟩
      refine alt_n rfl ?_ vp_none
      refine H_mks TZ_194 rfl H fun t92 h ⟨S, S_2, H⟩ => ⟨(hskip rfl (hcons rfl (still_1 S_2 hat86) (hcons rfl (still_1 S hat83) hnil))), ?_⟩
      refine tkP rfl ?_
      refine R_nil H fun t93 H => ⟨fun _ => trivial, ?_⟩
      refine alt_n rfl ?_ vp_none
      refine H_store1 TS_194 H fun h H => ⟨(hskip rfl (hskip rfl hnil)), ?_⟩
      refine vp_done ?_
      refine WPc_seq' ?_
      refine W_drawn [0, 1, 3, 7, 15, 31, 63, 0, 0, 0, 768, 1920, 4095, 8191] (.take 0 (.take 1 (.take 2 (.take 3 (.take 4 (.take 5 (.take 6 (.take 8 (.take 9 (.alt 7 (.alt 10 (.alt 11 (.take 12 (.alt 13 .done .none)) .none) .none) (.alt 10 (.alt 7 (.alt 11 (.take 12 (.alt 13 .done .none)) .none) .none) .none))))))))))) mixed (by kernel_rfl) ?_
      refine tkP rfl ?_
      refine R_move (v := (e 0)) rfl ⟨fun _ => trivial, ?_⟩
      refine tkP rfl ?_
      refine R_nil H fun t95 H => ⟨fun _ => trivial, ?_⟩
      refine tkP rfl ?_
      refine R_fld TF_182_2 H fun t96 H => ⟨fun _ => trivial, ?_⟩
      refine tkL rfl ?_
      refine R_load1 T1_173 H fun at97 t97 hat97 _ H => ?_
      refine tkP rfl ?_
      refine R_nil H fun t98 H => ⟨fun _ => trivial, ?_⟩
      refine tkP rfl ?_
      refine R_fld TF_188_3 H fun t99 H => ⟨fun _ => trivial, ?_⟩
      refine tkL rfl ?_
      refine R_load1 T1_186 H fun at100 t100 hat100 _ H => ?_
      refine tkP rfl ?_
      refine R_move (v := t68) rfl ⟨fun _ => trivial, ?_⟩
      refine tkP rfl ?_
      refine R_move (v := t73) rfl ⟨fun _ => trivial, ?_⟩
      obtain ⟨HA0, HA1⟩ := H
      refine alt_n rfl ?_ ?_
      · have H := HA0; clear HA0 HA1
        refine H_mkSl TZ_194 (by decide) rfl H rfl fun t101 h ⟨S_3, S_4, H⟩ => ⟨(hcons rfl (still_1 S_4 hat100) (hcons rfl (still_1 S_3 hat97) hnil)), ?_⟩
        refine alt_n rfl ?_ vp_none
        refine H_mkSl TZ_194 (by decide) rfl H rfl fun t104 h ⟨S_5, S_6, H⟩ => ⟨(hcons rfl (still_1 S_6 hat100) (hcons rfl (still_1 S_5 hat97) hnil)), ?_⟩
        refine alt_n rfl ?_ vp_none
        refine H_app TZ_194 TU_194 H fun t105 h ⟨S_7, S_8, H⟩ => ⟨(hcons rfl (still_1 S_8 hat100) (hcons rfl (still_1 S_7 hat97) hnil)), ?_⟩
        refine tkP rfl ?_
        refine R_nil H fun t106 H => ⟨fun _ => trivial, ?_⟩
        refine alt_n rfl ?_ vp_none
        refine H_store1 TS_194 H fun h H => ⟨(hskip rfl (hskip rfl hnil)), ?_⟩
        refine vp_done ?_
        refine WPc_seq' ?_
        refine W_drawn [0, 1, 3, 7, 0, 0, 32, 112, 255, 511, 1023] (.take 0 (.take 1 (.take 2 (.take 3 (.take 5 (.alt 4 (.alt 6 (.alt 7 (.take 8 (.take 9 (.alt 10 .done .none))) .none) .none) (.alt 6 (.alt 4 (.alt 7 (.take 8 (.take 9 (.alt 10 .done .none))) .none) .none) .none))))))) mixed (by kernel_rfl) ?_
        refine tkP rfl ?_
        refine R_move (v := (e 0)) rfl ⟨fun _ => trivial, ?_⟩
        refine tkP rfl ?_
        refine R_nil H fun t108 H => ⟨fun _ => trivial, ?_⟩
        refine tkP rfl ?_
        refine R_fld TF_182_2 H fun t109 H => ⟨fun _ => trivial, ?_⟩
        refine tkL rfl ?_
        refine R_load1 T1_173 H fun at110 t110 hat110 _ H => ?_
        refine tkL rfl ?_
        refine R_loadN TN_178 H fun at112 xt112 hat112 _ H St112 hSt112 => ?_
        obtain ⟨HA0, HA1⟩ := H
        refine alt_n rfl ?_ ?_
        · have H := HA0; clear HA0 HA1
          refine H_mkSl TZ_185 (by decide) rfl H rfl fun t111 h ⟨S_9, S_10, H⟩ => ⟨(hcons rfl (hSt112 _ (still_N S_10 hat112 rfl)) (hcons rfl (still_1 S_9 hat110) hnil)), ?_⟩
          refine alt_n rfl ?_ vp_none
          refine H_mkSl TZ_185 (by decide) rfl H rfl fun t113 h ⟨S_11, H⟩ => ⟨(hskip rfl (hcons rfl (still_1 S_11 hat110) hnil)), ?_⟩
          refine alt_n rfl ?_ vp_none
          refine H_app TZ_185 TU_185 H fun t114 h ⟨S_12, H⟩ => ⟨(hcons rfl (still_1 S_12 hat110) hnil), ?_⟩
          refine tkP rfl ?_
          refine R_nil H fun t115 H => ⟨fun _ => trivial, ?_⟩
          refine tkP rfl ?_
          refine R_fld TF_188_2 H fun t116 H => ⟨fun _ => trivial, ?_⟩
          refine alt_n rfl ?_ vp_none
          refine H_store1 TS_185 H fun h H => ⟨(hskip rfl hnil), ?_⟩
          refine vp_done ?_
          refine WPc_seq' ?_
          refine W_region (by kernel_rfl) ?_
          refine vl_n ?_
          refine H_of_R (R_move (v := (e 0)) rfl ?_)
          refine vl_n ?_
          refine H_of_R (R_nil H fun t118 H => ?_)
          refine vl_n ?_
          refine H_of_R (R_fld TF_182_2 H fun t119 H => ?_)
          refine vl_n ?_
          refine H_of_R (R_load1 T1_173 H fun _ t120 _ _ H => ?_)
          refine vl_n ?_
          refine H_call HB_115 H fun t121 h H => ?_
          refine vl_e ?_
          refine WPc_seq' ?_
          refine W_region (by kernel_rfl) ?_
          refine vl_n ?_
          refine H_of_R (R_move (v := (e 0)) rfl ?_)
          refine vl_n ?_
          refine H_of_R (R_fld TF_178_1 H fun t123 H => ?_)
          refine vl_n ?_
          refine H_of_R (R_load1 T1_3 H fun _ t124 _ _ H => ?_)
          refine vl_n ?_
          refine H_of_R (R_fld TF_178_0 H fun t125 H => ?_)
          refine vl_n ?_
          refine H_of_R (R_load1 T1_3 H fun _ t126 _ _ H => ?_)
          refine vl_n ?_
          refine H_call HB_59 H fun t127 h H => ?_
          refine vl_n ?_
          refine H_of_R (R_ext H fun t128 H => ?_)
          refine vl_n ?_
          refine H_of_R (R_ext H fun t129 H => ?_)
          refine vl_n ?_
          refine H_of_R (R_assign (v := t128) rfl ?_)
          refine vl_n ?_
          refine H_of_R (R_assign (v := t129) rfl ?_)
          refine vl_e ?_
          refine WPc_ret ?_
          refine resH_of rfl ?_
          exact H
        refine alt_n rfl ?_ vp_none
        have H := HA1; clear HA0 HA1
        refine H_mkSl TZ_185 (by decide) rfl H rfl fun t113_2 h ⟨S_13, H⟩ => ⟨(hskip rfl (hcons rfl (still_1 S_13 hat110) hnil)), ?_⟩
        refine alt_n rfl ?_ vp_none
        refine H_mkSl TZ_185 (by decide) rfl H rfl fun t111_2 h ⟨S_14, H⟩ => ⟨(hcons rfl (still_1 S_14 hat110) hnil), ?_⟩
        refine alt_n rfl ?_ vp_none
        refine H_app TZ_185 TU_185 H fun t114_2 h ⟨S_15, H⟩ => ⟨(hcons rfl (still_1 S_15 hat110) hnil), ?_⟩
        refine tkP rfl ?_
        refine R_nil H fun t115_2 H => ⟨fun _ => trivial, ?_⟩
        refine tkP rfl ?_
        refine R_fld TF_188_2 H fun t116_2 H => ⟨fun _ => trivial, ?_⟩
        refine alt_n rfl ?_ vp_none
        refine H_store1 TS_185 H fun h H => ⟨(hskip rfl hnil), ?_⟩
        refine vp_done ?_
        refine WPc_seq' ?_
        refine W_region (by kernel_rfl) ?_
        refine vl_n ?_
        refine H_of_R (R_move (v := (e 0)) rfl ?_)
        refine vl_n ?_
        refine H_of_R (R_nil H fun t118_2 H => ?_)
        refine vl_n ?_
        refine H_of_R (R_fld TF_182_2 H fun t119_2 H => ?_)
        refine vl_n ?_
        refine H_of_R (R_load1 T1_173 H fun _ t120_2 _ _ H => ?_)
        refine vl_n ?_
        refine H_call HB_115 H fun t121_2 h H => ?_
        refine vl_e ?_
        refine WPc_seq' ?_
        refine W_region (by kernel_rfl) ?_
        refine vl_n ?_
        refine H_of_R (R_move (v := (e 0)) rfl ?_)
        refine vl_n ?_
        refine H_of_R (R_fld TF_178_1 H fun t123_2 H => ?_)
        refine vl_n ?_
        refine H_of_R (R_load1 T1_3 H fun _ t124_2 _ _ H => ?_)
        refine vl_n ?_
        refine H_of_R (R_fld TF_178_0 H fun t125_2 H => ?_)
        refine vl_n ?_
        refine H_of_R (R_load1 T1_3 H fun _ t126_2 _ _ H => ?_)
        refine vl_n ?_
        refine H_call HB_59 H fun t127_2 h H => ?_
        refine vl_n ?_
        refine H_of_R (R_ext H fun t128_2 H => ?_)
        refine vl_n ?_
        refine H_of_R (R_ext H fun t129_2 H => ?_)
        refine vl_n ?_
        refine H_of_R (R_assign (v := t128_2) rfl ?_)
        refine vl_n ?_
        refine H_of_R (R_assign (v := t129_2) rfl ?_)
        refine vl_e ?_
        refine WPc_ret ?_
        refine resH_of rfl ?_
        exact H
      refine alt_n rfl ?_ vp_none
      have H := HA1; clear HA0 HA1
      refine H_mkSl TZ_194 (by decide) rfl H rfl fun t104_2 h ⟨S_16, S_17, H⟩ => ⟨(hcons rfl (still_1 S_17 hat100) (hcons rfl (still_1 S_16 hat97) hnil)), ?_⟩
      refine alt_n rfl ?_ vp_none
      refine H_mkSl TZ_194 (by decide) rfl H rfl fun t101_2 h ⟨S_18, S_19, H⟩ => ⟨(hcons rfl (still_1 S_19 hat100) (hcons rfl (still_1 S_18 hat97) hnil)), ?_⟩
      refine alt_n rfl ?_ vp_none
      refine H_app TZ_194 TU_194 H fun t105_2 h ⟨S_20, S_21, H⟩ => ⟨(hcons rfl (still_1 S_21 hat100) (hcons rfl (still_1 S_20 hat97) hnil)), ?_⟩
      refine tkP rfl ?_
      refine R_nil H fun t106_2 H => ⟨fun _ => trivial, ?_⟩
      refine alt_n rfl ?_ vp_none
      refine H_store1 TS_194 H fun h H => ⟨(hskip rfl (hskip rfl hnil)), ?_⟩
      refine vp_done ?_
      refine WPc_seq' ?_
      refine W_drawn [0, 1, 3, 7, 0, 0, 32, 112, 255, 511, 1023] (.take 0 (.take 1 (.take 2 (.take 3 (.take 5 (.alt 4 (.alt 6 (.alt 7 (.take 8 (.take 9 (.alt 10 .done .none))) .none) .none) (.alt 6 (.alt 4 (.alt 7 (.take 8 (.take 9 (.alt 10 .done .none))) .none) .none) .none))))))) mixed (by kernel_rfl) ?_
      refine tkP rfl ?_
      refine R_move (v := (e 0)) rfl ⟨fun _ => trivial, ?_⟩
      refine tkP rfl ?_
      refine R_nil H fun t108_2 H => ⟨fun _ => trivial, ?_⟩
      refine tkP rfl ?_
      refine R_fld TF_182_2 H fun t109_2 H => ⟨fun _ => trivial, ?_⟩
      refine tkL rfl ?_
      refine R_load1 T1_173 H fun at110_2 t110_2 hat110_2 _ H => ?_
      refine tkL rfl ?_
      refine R_loadN TN_178 H fun at112_2 xt112_2 hat112_2 _ H St112_2 hSt112_2 => ?_
      obtain ⟨HA0, HA1⟩ := H
      refine alt_n rfl ?_ ?_
      · have H := HA0; clear HA0 HA1
        refine H_mkSl TZ_185 (by decide) rfl H rfl fun t111_3 h ⟨S_22, S_23, H⟩ => ⟨(hcons rfl (hSt112_2 _ (still_N S_23 hat112_2 rfl)) (hcons rfl (still_1 S_22 hat110_2) hnil)), ?_⟩
        refine alt_n rfl ?_ vp_none
        refine H_mkSl TZ_185 (by decide) rfl H rfl fun t113_3 h ⟨S_24, H⟩ => ⟨(hskip rfl (hcons rfl (still_1 S_24 hat110_2) hnil)), ?_⟩
        refine alt_n rfl ?_ vp_none
        refine H_app TZ_185 TU_185 H fun t114_3 h ⟨S_25, H⟩ => ⟨(hcons rfl (still_1 S_25 hat110_2) hnil), ?_⟩
        refine tkP rfl ?_
        refine R_nil H fun t115_3 H => ⟨fun _ => trivial, ?_⟩
        refine tkP rfl ?_
        refine R_fld TF_188_2 H fun t116_3 H => ⟨fun _ => trivial, ?_⟩
        refine alt_n rfl ?_ vp_none
        refine H_store1 TS_185 H fun h H => ⟨(hskip rfl hnil), ?_⟩
        refine vp_done ?_
        refine WPc_seq' ?_
        refine W_region (by kernel_rfl) ?_
        refine vl_n ?_
        refine H_of_R (R_move (v := (e 0)) rfl ?_)
        refine vl_n ?_
        refine H_of_R (R_nil H fun t118_3 H => ?_)
        refine vl_n ?_
        refine H_of_R (R_fld TF_182_2 H fun t119_3 H => ?_)
        refine vl_n ?_
        refine H_of_R (R_load1 T1_173 H fun _ t120_3 _ _ H => ?_)
        refine vl_n ?_
        refine H_call HB_115 H fun t121_3 h H => ?_
        refine vl_e ?_
        refine WPc_seq' ?_
        refine W_region (by kernel_rfl) ?_
        refine vl_n ?_
        refine H_of_R (R_move (v := (e 0)) rfl ?_)
        refine vl_n ?_
        refine H_of_R (R_fld TF_178_1 H fun t123_3 H => ?_)
        refine vl_n ?_
        refine H_of_R (R_load1 T1_3 H fun _ t124_3 _ _ H => ?_)
        refine vl_n ?_
        refine H_of_R (R_fld TF_178_0 H fun t125_3 H => ?_)
        refine vl_n ?_
        refine H_of_R (R_load1 T1_3 H fun _ t126_3 _ _ H => ?_)
        refine vl_n ?_
        refine H_call HB_59 H fun t127_3 h H => ?_
        refine vl_n ?_
        refine H_of_R (R_ext H fun t128_3 H => ?_)
        refine vl_n ?_
        refine H_of_R (R_ext H fun t129_3 H => ?_)
        refine vl_n ?_
        refine H_of_R (R_assign (v := t128_3) rfl ?_)
        refine vl_n ?_
        refine H_of_R (R_assign (v := t129_3) rfl ?_)
        refine vl_e ?_
        refine WPc_ret ?_
        refine resH_of rfl ?_
        exact H
      refine alt_n rfl ?_ vp_none
      have H := HA1; clear HA0 HA1
      refine H_mkSl TZ_185 (by decide) rfl H rfl fun t113_4 h ⟨S_26, H⟩ => ⟨(hskip rfl (hcons rfl (still_1 S_26 hat110_2) hnil)), ?_⟩
      refine alt_n rfl ?_ vp_none
      refine H_mkSl TZ_185 (by decide) rfl H rfl fun t111_4 h ⟨S_27, H⟩ => ⟨(hcons rfl (still_1 S_27 hat110_2) hnil), ?_⟩
      refine alt_n rfl ?_ vp_none
      refine H_app TZ_185 TU_185 H fun t114_4 h ⟨S_28, H⟩ => ⟨(hcons rfl (still_1 S_28 hat110_2) hnil), ?_⟩
      refine tkP rfl ?_
      refine R_nil H fun t115_4 H => ⟨fun _ => trivial, ?_⟩
      refine tkP rfl ?_
      refine R_fld TF_188_2 H fun t116_4 H => ⟨fun _ => trivial, ?_⟩
      refine alt_n rfl ?_ vp_none
      refine H_store1 TS_185 H fun h H => ⟨(hskip rfl hnil), ?_⟩
      refine vp_done ?_
      refine WPc_seq' ?_
      refine W_region (by kernel_rfl) ?_
      refine vl_n ?_
      refine H_of_R (R_move (v := (e 0)) rfl ?_)
      refine vl_n ?_
      refine H_of_R (R_nil H fun t118_4 H => ?_)
      refine vl_n ?_
      refine H_of_R (R_fld TF_182_2 H fun t119_4 H => ?_)
      refine vl_n ?_
      refine H_of_R (R_load1 T1_173 H fun _ t120_4 _ _ H => ?_)
      refine vl_n ?_
      refine H_call HB_115 H fun t121_4 h H => ?_
      refine vl_e ?_
      refine WPc_seq' ?_
      refine W_region (by kernel_rfl) ?_
      refine vl_n ?_
      refine H_of_R (R_move (v := (e 0)) rfl ?_)
      refine vl_n ?_
      refine H_of_R (R_fld TF_178_1 H fun t123_4 H => ?_)
      refine vl_n ?_
      refine H_of_R (R_load1 T1_3 H fun _ t124_4 _ _ H => ?_)
      refine vl_n ?_
      refine H_of_R (R_fld TF_178_0 H fun t125_4 H => ?_)
      refine vl_n ?_
      refine H_of_R (R_load1 T1_3 H fun _ t126_4 _ _ H => ?_)
      refine vl_n ?_
      refine H_call HB_59 H fun t127_4 h H => ?_
      refine vl_n ?_
      refine H_of_R (R_ext H fun t128_4 H => ?_)
      refine vl_n ?_
      refine H_of_R (R_ext H fun t129_4 H => ?_)
      refine vl_n ?_
      refine H_of_R (R_assign (v := t128_4) rfl ?_)
      refine vl_n ?_
      refine H_of_R (R_assign (v := t129_4) rfl ?_)
      refine vl_e ?_
      refine WPc_ret ?_
      refine resH_of rfl ?_
      exact H
    · have H := H2 hh; clear H1 H2
      refine WPc_skip ?_
      exact H
  refine WPc_seq' ?_
  refine W_region (by kernel_rfl) ?_
  refine vl_n ?_
  refine H_of_R (R_move (v := a0) rfl ?_)
  refine vl_n ?_
  refine H_of_R (R_nil H fun t19 H => ?_)
  refine vl_n ?_
  refine H_of_R (R_fld TF_182_2 H fun t20 H => ?_)
  refine vl_n ?_
  refine H_of_R (R_load1 T1_173 H fun _ t21 _ _ H => ?_)
  refine vl_n ?_
  refine H_of_R (R_eqNilP Try.underlying173 rfl H fun t22 H => ?_)
  refine vl_e ?_
  obtain ⟨b, hc, H1, H2⟩ := H
  refine WPc_cond hc (fun hh => ?_) (fun hh => ?_)
  · have H := H1 hh; clear H1 H2
    refine WPc_seq' ?_
    refine W_region (by kernel_rfl) ?_
    refine vl_n ?_
    refine H_of_R (R_move (v := a0) rfl ?_)
    refine vl_n ?_
    refine H_call HB_111 H fun t24 h H => ?_
    refine vl_e ?_
    refine WPc_seq' ?_
    refine W_region (by kernel_rfl) ?_
    refine vl_n ?_
    refine H_of_R (R_move (v := a0) rfl ?_)
    refine vl_n ?_
    refine H_of_R (R_move (v := a0) rfl ?_)
    refine vl_n ?_
    refine H_call HB_112 H fun t27 h H => ?_
    refine vl_n ?_
    refine H_of_R (R_nil H fun t28 H => ?_)
    refine vl_n ?_
    refine H_of_R (R_fld TF_182_2 H fun t29 H => ?_)
    refine vl_n ?_
    refine H_store1 TS_173 H fun h H => ?_
    refine vl_e ?_
    refine WPc_seq' ?_
    refine W_drawn [0, 1, 3, 7, 0, 0, 32, 112, 255, 511, 1023] (.take 0 (.take 1 (.take 2 (.take 3 (.take 5 (.alt 4 (.alt 6 (.alt 7 (.take 8 (.take 9 (.alt 10 .done .none))) .none) .none) (.alt 6 (.alt 4 (.alt 7 (.take 8 (.take 9 (.alt 10 .done .none))) .none) .none) .none))))))) mixed (by kernel_rfl) ?_
    refine tkP rfl ?_
    refine R_move (v := a0) rfl ⟨fun _ => trivial, ?_⟩
    refine tkP rfl ?_
    refine R_nil H fun t31 H => ⟨fun _ => trivial, ?_⟩
    refine tkP rfl ?_
    refine R_fld TF_182_2 H fun t32 H => ⟨fun _ => trivial, ?_⟩
    refine tkL rfl ?_
    refine R_load1 T1_173 H fun at33 t33 hat33 _ H => ?_
    refine tkL rfl ?_
    refine R_loadN TN_178 H fun at35 xt35 hat35 _ H St35 hSt35 => ?_
    obtain ⟨HA0, HA1⟩ := H
    refine alt_n rfl ?_ ?_
    · have H := HA0; clear HA0 HA1
      refine H_mkSl TZ_185 (by decide) rfl H rfl fun t34 h ⟨S, S_2, H⟩ => ⟨(hcons rfl (hSt35 _ (still_N S_2 hat35 rfl)) (hcons rfl (still_1 S hat33) hnil)), ?_⟩
      refine alt_n rfl ?_ vp_none
      refine H_mkSl TZ_185 (by decide) rfl H rfl fun t36 h ⟨S_3, H⟩ => ⟨(hskip rfl (hcons rfl (still_1 S_3 hat33) hnil)), ?_⟩
      refine alt_n rfl ?_ vp_none
      refine H_app TZ_185 TU_185 H fun t37 h ⟨S_4, H⟩ => ⟨(hcons rfl (still_1 S_4 hat33) hnil), ?_⟩
      refine tkP rfl ?_
      refine R_nil H fun t38 H => ⟨fun _ => trivial, ?_⟩
      refine tkP rfl ?_
      refine R_fld TF_188_2 H fun t39 H => ⟨fun _ => trivial, ?_⟩
      refine alt_n rfl ?_ vp_none
      refine H_store1 TS_185 H fun h H => ⟨(hskip rfl hnil), ?_⟩
      refine vp_done ?_
      refine WPc_seq' ?_
      refine W_region (by kernel_rfl) ?_
      refine vl_n ?_
      refine H_of_R (R_move (v := a0) rfl ?_)
      refine vl_n ?_
      refine H_of_R (R_nil H fun t41 H => ?_)
      refine vl_n ?_
      refine H_of_R (R_fld TF_182_2 H fun t42 H => ?_)
      refine vl_n ?_
      refine H_of_R (R_load1 T1_173 H fun _ t43 _ _ H => ?_)
      refine vl_n ?_
      refine H_of_R (R_nil H fun t44 H => ?_)
      refine vl_n ?_
      refine H_of_R (R_fld TF_188_1 H fun t45 H => ?_)
      refine vl_n ?_
      refine H_store1 TS_3 H fun h H => ?_
      refine vl_e ?_
      refine WPc_seq' ?_
      refine W_region (by kernel_rfl) ?_
      refine vl_n ?_
      refine H_of_R (R_move (v := a0) rfl ?_)
      refine vl_n ?_
      refine H_of_R (R_nil H fun t47 H => ?_)
      refine vl_n ?_
      refine H_of_R (R_fld TF_182_3 H fun t48 H => ?_)
      refine vl_n ?_
      refine H_store1 TS_3 H fun h H => ?_
      refine vl_e ?_
      refine WPc_seq' ?_
      refine W_region (by kernel_rfl) ?_
      refine vl_n ?_
      refine H_of_R (R_move (v := a0) rfl ?_)
      refine vl_n ?_
      refine H_of_R (R_nil H fun t50 H => ?_)
      refine vl_n ?_
      refine H_of_R (R_fld TF_182_4 H fun t51 H => ?_)
      refine vl_n ?_
      refine H_of_R (R_fld TF_178_0 H fun t52 H => ?_)
      refine vl_n ?_
      refine H_of_R (R_load1 T1_3 H fun _ t53 _ _ H => ?_)
      refine vl_n ?_
      refine H_of_R (R_assign (v := t53) rfl ?_)
      refine vl_n ?_
      refine H_of_R (R_assign (v := (.bool false)) rfl ?_)
      refine vl_e ?_
      refine WPc_ret ?_
      refine resH_of rfl ?_
      exact H
    refine alt_n rfl ?_ vp_none
    have H := HA1; clear HA0 HA1
    refine H_mkSl TZ_185 (by decide) rfl H rfl fun t36_2 h ⟨S_5, H⟩ => ⟨(hskip rfl (hcons rfl (still_1 S_5 hat33) hnil)), ?_⟩
    refine alt_n rfl ?_ vp_none
    refine H_mkSl TZ_185 (by decide) rfl H rfl fun t34_2 h ⟨S_6, H⟩ => ⟨(hcons rfl (still_1 S_6 hat33) hnil), ?_⟩
    refine alt_n rfl ?_ vp_none
    refine H_app TZ_185 TU_185 H fun t37_2 h ⟨S_7, H⟩ => ⟨(hcons rfl (still_1 S_7 hat33) hnil), ?_⟩
    refine tkP rfl ?_
    refine R_nil H fun t38_2 H => ⟨fun _ => trivial, ?_⟩
    refine tkP rfl ?_
    refine R_fld TF_188_2 H fun t39_2 H => ⟨fun _ => trivial, ?_⟩
    refine alt_n rfl ?_ vp_none
    refine H_store1 TS_185 H fun h H => ⟨(hskip rfl hnil), ?_⟩
    refine vp_done ?_
    refine WPc_seq' ?_
    refine W_region (by kernel_rfl) ?_
    refine vl_n ?_
    refine H_of_R (R_move (v := a0) rfl ?_)
    refine vl_n ?_
    refine H_of_R (R_nil H fun t41_2 H => ?_)
    refine vl_n ?_
    refine H_of_R (R_fld TF_182_2 H fun t42_2 H => ?_)
    refine vl_n ?_
    refine H_of_R (R_load1 T1_173 H fun _ t43_2 _ _ H => ?_)
    refine vl_n ?_
    refine H_of_R (R_nil H fun t44_2 H => ?_)
    refine vl_n ?_
    refine H_of_R (R_fld TF_188_1 H fun t45_2 H => ?_)
    refine vl_n ?_
    refine H_store1 TS_3 H fun h H => ?_
    refine vl_e ?_
    refine WPc_seq' ?_
    refine W_region (by kernel_rfl) ?_
    refine vl_n ?_
    refine H_of_R (R_move (v := a0) rfl ?_)
    refine vl_n ?_
    refine H_of_R (R_nil H fun t47_2 H => ?_)
    refine vl_n ?_
    refine H_of_R (R_fld TF_182_3 H fun t48_2 H => ?_)
    refine vl_n ?_
    refine H_store1 TS_3 H fun h H => ?_
    refine vl_e ?_
    refine WPc_seq' ?_
    refine W_region (by kernel_rfl) ?_
    refine vl_n ?_
    refine H_of_R (R_move (v := a0) rfl ?_)
    refine vl_n ?_
    refine H_of_R (R_nil H fun t50_2 H => ?_)
    refine vl_n ?_
    refine H_of_R (R_fld TF_182_4 H fun t51_2 H => ?_)
    refine vl_n ?_
    refine H_of_R (R_fld TF_178_0 H fun t52_2 H => ?_)
    refine vl_n ?_
    refine H_of_R (R_load1 T1_3 H fun _ t53_2 _ _ H => ?_)
    refine vl_n ?_
    refine H_of_R (R_assign (v := t53_2) rfl ?_)
    refine vl_n ?_
    refine H_of_R (R_assign (v := (.bool false)) rfl ?_)
    refine vl_e ?_
    refine WPc_ret ?_
    refine resH_of rfl ?_
    exact H
  · have H := H2 hh; clear H1 H2
    refine WPc_skip ?_
    exact H

end Go.Proofs.Ytlihjljdndbpdaa
end
section
namespace Go.Proofs.Ytlihjljdndbpdaa
open Go.Hp
set_option maxRecDepth 100000
set_option maxHeartbeats 8000000
set_option linter.unusedVariables false
set_option linter.unusedSimpArgs false

/-! ### (*pub/tidwallbtree.Map[int, int]).Delete -/
def Map_ii_Delete.j4 (s6 : Value) (h : Heap) (Q : Value → Heap → Prop) : Prop :=
    fld 0 s6 fun t80 =>
    load1 t80 h fun t81 =>
    Q (.tuple #[t81, (.bool true)]) h
def Map_ii_Delete.j3 (s0 : Value) (s6 : Value) (h : Heap) (Q : Value → Heap → Prop) : Prop :=
    nilck s0 fun t66 =>
    fld 3 t66 fun t67 =>
    load1 t67 h fun t68 =>
    arith (· - ·) t68 (.int .i64 1) fun t69 =>
    nilck s0 fun t70 =>
    fld 3 t70 fun t71 =>
    store1 t71 t69 h fun h =>
    nilck s0 fun t73 =>
    fld 3 t73 fun t74 =>
    load1 t74 h fun t75 =>
    cmpI (fun a b => a == b) t75 (.int .i64 0) fun t76 =>
    ifV t76
    (nilck s0 fun t78 =>
    fld 2 t78 fun t79 =>
    store1 t79 (.pointer none) h fun h =>
    Map_ii_Delete.j4 s6 h Q)
    (Map_ii_Delete.j4 s6 h Q)
def Map_ii_Delete.j2 (s0 : Value) (s6 : Value) (h : Heap) (Q : Value → Heap → Prop) : Prop :=
    nilck s0 fun t35 =>
    fld 2 t35 fun t36 =>
    load1 t36 h fun t37 =>
    nilck t37 fun t38 =>
    fld 2 t38 fun t39 =>
    load1 t39 h fun t40 =>
    lenV t40 fun t41 =>
    cmpI (fun a b => a == b) t41 (.int .i64 0) fun t42 =>
    br t42 true (nilck s0 fun t45 =>
    fld 2 t45 fun t46 =>
    load1 t46 h fun t47 =>
    mapNode_ii_leaf.call #[t47] h fun t48 h =>
    notV t48 fun t49 =>
    ifV t49
    (nilck s0 fun t53 =>
    fld 2 t53 fun t54 =>
    load1 t54 h fun t55 =>
    nilck t55 fun t56 =>
    fld 3 t56 fun t57 =>
    load1 t57 h fun t58 =>
    nilck t58 fun t59 =>
    load1 t59 h fun t60 =>
    idx 1 t60 (.int .i64 0) fun t61 =>
    load1 t61 h fun t62 =>
    nilck s0 fun t63 =>
    fld 2 t63 fun t64 =>
    store1 t64 t62 h fun h =>
    Map_ii_Delete.j3 s0 s6 h Q)
    (Map_ii_Delete.j3 s0 s6 h Q)) (Map_ii_Delete.j3 s0 s6 h Q)
def Map_ii_Delete.j1 (s0 : Value) (s1 : Value) (h : Heap) (Q : Value → Heap → Prop) : Prop :=
    nilck s0 fun t21 =>
    fld 2 t21 fun t22 =>
    Map_ii_delete.call #[s0, t22, (.bool false), s1] h fun t24 h =>
    extr 0 t24 fun t25 =>
    extr 1 t24 fun t26 =>
    alloc [(.int .i64 0), (.int .i64 0)] 178 h fun t6 h =>
    storeN 2 t6 t25 h fun h =>
    notV t26 fun t28 =>
    ifV t28
    (nilck s0 fun t30 =>
    fld 4 t30 fun t31 =>
    fld 0 t31 fun t32 =>
    load1 t32 h fun t33 =>
    Q (.tuple #[t33, (.bool false)]) h)
    (Map_ii_Delete.j2 s0 t6 h Q)
def Map_ii_Delete.sh (a0 : Value) (a1 : Value) (h : Heap) (Q : Value → Heap → Prop) : Prop :=
    nilck a0 fun t9 =>
    fld 2 t9 fun t10 =>
    load1 t10 h fun t11 =>
    eqNilP t11 fun t12 =>
    ifV t12
    (nilck a0 fun t14 =>
    fld 4 t14 fun t15 =>
    fld 0 t15 fun t16 =>
    load1 t16 h fun t17 =>
    Q (.tuple #[t17, (.bool false)]) h)
    (Map_ii_Delete.j1 a0 a1 h Q)
theorem Map_ii_Delete.body (a0 : Value) (a1 : Value) (h : Heap) (Q : Value → Heap → Prop) (H : Map_ii_Delete.sh a0 a1 h Q) : Map_ii_Delete.call #[a0, a1] h Q := by
  refine callsH_of (args := [a0, a1]) Try.func72 rfl rfl ?_
  unfold Map_ii_Delete.sh at H
  refine WPc_seq' ?_
  refine W_region (by kernel_rfl) ?_
  refine vl_n ?_
  refine H_of_R (R_assign (v := (.int .i64 0)) rfl ?_)
  refine vl_n ?_
  refine H_of_R (R_assign (v := (.bool false)) rfl ?_)
  refine vl_e ?_
  refine WPc_seq (fun e h => Map_ii_Delete.j1 (e 0) (e 1) h Q) ?_ (fun e h H => ?_)
  rotate_left
  · unfold Map_ii_Delete.j1 at H
    refine WPc_seq' ?_
    refine W_region (by kernel_rfl) ?_
    refine vl_n ?_
    refine H_of_R (R_move (v := (e 0)) rfl ?_)
    refine vl_n ?_
    refine H_of_R (R_move (v := (e 0)) rfl ?_)
    refine vl_n ?_
    refine H_of_R (R_nil H fun t21 H => ?_)
    refine vl_n ?_
    refine H_of_R (R_fld TF_182_2 H fun t22 H => ?_)
    refine vl_n ?_
    refine H_of_R (R_move (v := (e 1)) rfl ?_)
    refine vl_n ?_
    refine H_call HB_127 H fun t24 h H => ?_
    refine vl_n ?_
    refine H_of_R (R_move (v := t24) rfl ?_)
    refine vl_n ?_
    refine H_of_R (R_ext H fun t25 H => ?_)
    refine vl_n ?_
    refine H_of_R (R_ext H fun t26 H => ?_)
    refine vl_n ?_
    refine H_alloc TV_178 H fun t6 h H => ?_
    refine vl_n ?_
    refine H_storeN TS_178 H fun h H => ?_
    refine vl_n ?_
    refine H_of_R (R_assign (v := t26) rfl ?_)
    refine vl_e ?_
    refine WPc_seq (fun e h => Map_ii_Delete.j2 (e 0) (e 6) h Q) ?_ (fun e h H => ?_)
    rotate_left
    · unfold Map_ii_Delete.j2 at H
      refine WPc_seq (fun e h => Map_ii_Delete.j3 (e 0) (e 6) h Q) ?_ (fun e h H => ?_)
      rotate_left
      · unfold Map_ii_Delete.j3 at H
        refine WPc_seq' ?_
        refine W_region (by kernel_rfl) ?_
        refine vl_n ?_
        refine H_of_R (R_move (v := (e 0)) rfl ?_)
        refine vl_n ?_
        refine H_of_R (R_nil H fun t66 H => ?_)
        refine vl_n ?_
        refine H_of_R (R_fld TF_182_3 H fun t67 H => ?_)
        refine vl_n ?_
        refine H_of_R (R_load1 T1_3 H fun _ t68 _ _ H => ?_)
        refine vl_n ?_
        refine H_of_R (R_sub H fun t69 H => ?_)
        refine vl_n ?_
        refine H_of_R (R_nil H fun t70 H => ?_)
        refine vl_n ?_
        refine H_of_R (R_fld TF_182_3 H fun t71 H => ?_)
        refine vl_n ?_
        refine H_store1 TS_3 H fun h H => ?_
        refine vl_e ?_
        refine WPc_seq (fun e h => Map_ii_Delete.j4 (e 6) h Q) ?_ (fun e h H => ?_)
        rotate_left
        · unfold Map_ii_Delete.j4 at H
          refine WPc_seq' ?_
          refine W_region (by kernel_rfl) ?_
          refine vl_n ?_
          refine H_of_R (R_fld TF_178_0 H fun t80 H => ?_)
          refine vl_n ?_
          refine H_of_R (R_load1 T1_3 H fun _ t81 _ _ H => ?_)
          refine vl_n ?_
          refine H_of_R (R_assign (v := t81) rfl ?_)
          refine vl_n ?_
          refine H_of_R (R_assign (v := (.bool true)) rfl ?_)
          refine vl_e ?_
          refine WPc_ret ?_
          refine resH_of rfl ?_
          exact H
        refine WPc_seq' ?_
        refine W_region (by kernel_rfl) ?_
        refine vl_n ?_
        refine H_of_R (R_move (v := (e 0)) rfl ?_)
        refine vl_n ?_
        refine H_of_R (R_nil H fun t73 H => ?_)
        refine vl_n ?_
        refine H_of_R (R_fld TF_182_3 H fun t74 H => ?_)
        refine vl_n ?_
        refine H_of_R (R_load1 T1_3 H fun _ t75 _ _ H => ?_)
        refine vl_n ?_
        refine H_of_R (R_eqI H fun t76 H => ?_)
        refine vl_e ?_
        obtain ⟨b, hc, H1, H2⟩ := H
        refine WPc_cond hc (fun hh => ?_) (fun hh => ?_)
        · have H := H1 hh; clear H1 H2
          refine W_region (by kernel_rfl) ?_
          refine vl_n ?_
          refine H_of_R (R_move (v := (e 0)) rfl ?_)
          refine vl_n ?_
          refine H_of_R (R_nil H fun t78 H => ?_)
          refine vl_n ?_
          refine H_of_R (R_fld TF_182_2 H fun t79 H => ?_)
          refine vl_n ?_
          refine H_store1 TS_173 H fun h H => ?_
          refine vl_e ?_
          exact H
        · have H := H2 hh; clear H1 H2
          refine WPc_skip ?_
          exact H
      refine WPc_seq' ?_
      refine W_region (by kernel_rfl) ?_
      refine vl_n ?_
      refine H_of_R (R_move (v := (e 0)) rfl ?_)
      refine vl_n ?_
      refine H_of_R (R_nil H fun t35 H => ?_)
      refine vl_n ?_
      refine H_of_R (R_fld TF_182_2 H fun t36 H => ?_)
      refine vl_n ?_
      refine H_of_R (R_load1 T1_173 H fun _ t37 _ _ H => ?_)
      refine vl_n ?_
      refine H_of_R (R_nil H fun t38 H => ?_)
      refine vl_n ?_
      refine H_of_R (R_fld TF_188_2 H fun t39 H => ?_)
      refine vl_n ?_
      refine H_of_R (R_load1 T1_185 H fun _ t40 _ _ H => ?_)
      refine vl_n ?_
      refine H_of_R (R_len Try.underlying185 H fun t41 H => ?_)
      refine vl_n ?_
      refine H_of_R (R_eqI H fun t42 H => ?_)
      refine vl_n ?_
      refine H_of_R (R_move (v := t42) rfl ?_)
      obtain ⟨b, hb, H1, H2⟩ := H
      cases b
      · have H := H2 rfl; clear H1 H2
        refine vl_s rfl (nbT hb) ?_
        refine vl_s rfl (nbT hb) ?_
        refine vl_s rfl (nbT hb) ?_
        refine vl_s rfl (nbT hb) ?_
        refine vl_s rfl (nbT hb) ?_
        refine vl_s rfl (nbT hb) ?_
        refine vl_n ?_
        refine H_of_R (R_pickC (v := (.bool false)) false hb rfl ?_)
        refine vl_e ?_
        refine WPc_cond (t := false) rfl (fun hh => by cases hh) (fun _ => ?_)
        refine WPc_skip ?_
        exact H
      · have H := H1 rfl; clear H1 H2
        refine vl_y rfl hb ?_
        refine H_of_R (R_move (v := (e 0)) rfl ?_)
        refine vl_y rfl hb ?_
        refine H_of_R (R_nil H fun t45 H => ?_)
        refine vl_y rfl hb ?_
        refine H_of_R (R_fld TF_182_2 H fun t46 H => ?_)
        refine vl_y rfl hb ?_
        refine H_of_R (R_load1 T1_173 H fun _ t47 _ _ H => ?_)
        refine vl_y rfl hb ?_
        refine H_call HB_126 H fun t48 h H => ?_
        refine vl_y rfl hb ?_
        refine H_of_R (R_not H fun t49 H => ?_)
        refine vl_n ?_
        refine H_of_R (R_pickC (v := t49) true hb rfl ?_)
        refine vl_e ?_
        obtain ⟨b_2, hc, H1, H2⟩ := H
        refine WPc_cond hc (fun hh => ?_) (fun hh => ?_)
        · have H := H1 hh; clear H1 H2
          refine W_region (by kernel_rfl) ?_
          refine vl_n ?_
          refine H_of_R (R_move (v := (e 0)) rfl ?_)
          refine vl_n ?_
          refine H_of_R (R_move (v := (e 0)) rfl ?_)
          refine vl_n ?_
          refine H_of_R (R_nil H fun t53 H => ?_)
          refine vl_n ?_
          refine H_of_R (R_fld TF_182_2 H fun t54 H => ?_)
          refine vl_n ?_
          refine H_of_R (R_load1 T1_173 H fun _ t55 _ _ H => ?_)
          refine vl_n ?_
          refine H_of_R (R_nil H fun t56 H => ?_)
          refine vl_n ?_
          refine H_of_R (R_fld TF_188_3 H fun t57 H => ?_)
          refine vl_n ?_
          refine H_of_R (R_load1 T1_186 H fun _ t58 _ _ H => ?_)
          refine vl_n ?_
          refine H_of_R (R_nil H fun t59 H => ?_)
          refine vl_n ?_
          refine H_of_R (R_load1 T1_194 H fun _ t60 _ _ H => ?_)
          refine vl_n ?_
          refine H_of_R (R_idx TE_194 H fun t61 H => ?_)
          refine vl_n ?_
          refine H_of_R (R_load1 T1_173 H fun _ t62 _ _ H => ?_)
          refine vl_n ?_
          refine H_of_R (R_nil H fun t63 H => ?_)
          refine vl_n ?_
          refine H_of_R (R_fld TF_182_2 H fun t64 H => ?_)
          refine vl_n ?_
          refine H_store1 TS_173 H fun h H => ?_
          refine vl_e ?_
          exact H
        · have H := H2 hh; clear H1 H2
          refine WPc_skip ?_
          exact H
    refine WPc_seq' ?_
    refine W_region (by kernel_rfl) ?_
    refine vl_n ?_
    refine H_of_R (R_move (v := t26) rfl ?_)
    refine vl_n ?_
    refine H_of_R (R_not H fun t28 H => ?_)
    refine vl_e ?_
    obtain ⟨b, hc, H1, H2⟩ := H
    refine WPc_cond hc (fun hh => ?_) (fun hh => ?_)
    · have H := H1 hh; clear H1 H2
      refine WPc_seq' ?_
      refine W_region (by kernel_rfl) ?_
      refine vl_n ?_
      refine H_of_R (R_move (v := (e 0)) rfl ?_)
      refine vl_n ?_
      refine H_of_R (R_nil H fun t30 H => ?_)
      refine vl_n ?_
      refine H_of_R (R_fld TF_182_4 H fun t31 H => ?_)
      refine vl_n ?_
      refine H_of_R (R_fld TF_178_0 H fun t32 H => ?_)
      refine vl_n ?_
      refine H_of_R (R_load1 T1_3 H fun _ t33 _ _ H => ?_)
      refine vl_n ?_
      refine H_of_R (R_assign (v := t33) rfl ?_)
      refine vl_n ?_
      refine H_of_R (R_assign (v := (.bool false)) rfl ?_)
      refine vl_e ?_
      refine WPc_ret ?_
      refine resH_of rfl ?_
      exact H
    · have H := H2 hh; clear H1 H2
      refine WPc_skip ?_
      exact H
  refine WPc_seq' ?_
  refine W_region (by kernel_rfl) ?_
  refine vl_n ?_
  refine H_of_R (R_move (v := a0) rfl ?_)
  refine vl_n ?_
  refine H_of_R (R_nil H fun t9 H => ?_)
  refine vl_n ?_
  refine H_of_R (R_fld TF_182_2 H fun t10 H => ?_)
  refine vl_n ?_
  refine H_of_R (R_load1 T1_173 H fun _ t11 _ _ H => ?_)
  refine vl_n ?_
  refine H_of_R (R_eqNilP Try.underlying173 rfl H fun t12 H => ?_)
  refine vl_e ?_
  obtain ⟨b, hc, H1, H2⟩ := H
  refine WPc_cond hc (fun hh => ?_) (fun hh => ?_)
  · have H := H1 hh; clear H1 H2
    refine WPc_seq' ?_
    refine W_region (by kernel_rfl) ?_
    refine vl_n ?_
    refine H_of_R (R_move (v := a0) rfl ?_)
    refine vl_n ?_
    refine H_of_R (R_nil H fun t14 H => ?_)
    refine vl_n ?_
    refine H_of_R (R_fld TF_182_4 H fun t15 H => ?_)
    refine vl_n ?_
    refine H_of_R (R_fld TF_178_0 H fun t16 H => ?_)
    refine vl_n ?_
    refine H_of_R (R_load1 T1_3 H fun _ t17 _ _ H => ?_)
    refine vl_n ?_
    refine H_of_R (R_assign (v := t17) rfl ?_)
    refine vl_n ?_
    refine H_of_R (R_assign (v := (.bool false)) rfl ?_)
    refine vl_e ?_
    refine WPc_ret ?_
    refine resH_of rfl ?_
    exact H
  · have H := H2 hh; clear H1 H2
    refine WPc_skip ?_
    exact H
/-! ### impl.DDelete -/
def i_DDelete.sh (a0 : Value) (a1 : Value) (a2 : Value) (h : Heap) (Q : Value → Heap → Prop) : Prop :=
    box 25 a1 h fun t4 h =>
    alloc [(.int .i64 0), (.int .i64 0), (.bool false)] 32 h fun t6 h =>
    alloc [(.slice none 0 0), (.slice none 0 0), (.int .i64 0)] 25 h fun t7 h =>
    loadN 3 t4 h fun t12 =>
    i_standMap.call #[a0, t12] h fun t13 h =>
    Map_ii_Delete.call #[t13, a2] h fun t17 h =>
    extr 0 t17 fun t18 =>
    extr 1 t17 fun t19 =>
    i_pair.call #[a2, t18, t19] h fun t23 h =>
    i_fellMap.call #[t13] h fun t25 h =>
    storeN 3 t6 t23 h fun h =>
    storeN 3 t7 t25 h fun h =>
    loadN 3 t6 h fun r6 =>
    loadN 3 t7 h fun r7 =>
    Q (.tuple #[r6, r7]) h
theorem i_DDelete.body (a0 : Value) (a1 : Value) (a2 : Value) (h : Heap) (Q : Value → Heap → Prop) (H : i_DDelete.sh a0 a1 a2 h Q) : i_DDelete.call #[a0, a1, a2] h Q := by
  refine callsH_of (args := [a0, a1, a2]) Try.func24 rfl rfl ?_
  unfold i_DDelete.sh at H
  refine WPc_seq' ?_
  refine W_region (by kernel_rfl) ?_
  refine vl_n ?_
  refine H_box H fun t4 h H => ?_
  refine vl_n ?_
  refine H_alloc TV_32 H fun t6 h H => ?_
  refine vl_n ?_
  refine H_alloc TV_25 H fun t7 h H => ?_
  refine vl_e ?_
  refine WPc_seq' ?_
  refine W_region (by kernel_rfl) ?_
  refine vl_n ?_
  refine H_of_R (R_move (v := a0) rfl ?_)
  refine vl_n ?_
  refine H_of_R (R_loadN TN_25 H fun _ t12 _ _ H _ _ => ?_)
  refine vl_n ?_
  refine H_call HB_58 H fun t13 h H => ?_
  refine vl_n ?_
  refine H_of_R (R_assign (v := t13) rfl ?_)
  refine vl_e ?_
  refine WPc_seq' ?_
  refine W_region (by kernel_rfl) ?_
  refine vl_n ?_
  refine H_of_R (R_move (v := t13) rfl ?_)
  refine vl_n ?_
  refine H_of_R (R_move (v := a2) rfl ?_)
  refine vl_n ?_
  refine H_call HB_72 H fun t17 h H => ?_
  refine vl_n ?_
  refine H_of_R (R_move (v := t17) rfl ?_)
  refine vl_n ?_
  refine H_of_R (R_ext H fun t18 H => ?_)
  refine vl_n ?_
  refine H_of_R (R_ext H fun t19 H => ?_)
  refine vl_n ?_
  refine H_of_R (R_assign (v := t18) rfl ?_)
  refine vl_n ?_
  refine H_of_R (R_assign (v := t19) rfl ?_)
  refine vl_e ?_
  refine WPc_seq' ?_
  refine W_region (by kernel_rfl) ?_
  refine vl_n ?_
  refine H_of_R (R_move (v := a2) rfl ?_)
  refine vl_n ?_
  refine H_of_R (R_move (v := t18) rfl ?_)
  refine vl_n ?_
  refine H_of_R (R_move (v := t19) rfl ?_)
  refine vl_n ?_
  refine H_call HB_60 H fun t23 h H => ?_
  refine vl_n ?_
  refine H_of_R (R_move (v := t13) rfl ?_)
  refine vl_n ?_
  refine H_call HB_61 H fun t25 h H => ?_
  refine vl_n ?_
  refine H_storeN TS_32 H fun h H => ?_
  refine vl_n ?_
  refine H_storeN TS_25 H fun h H => ?_
  refine vl_e ?_
  refine WPc_ret ?_
  refine resH_of rfl ?_
  refine resL_N TN_32 ?_
  refine loadN_imp H fun r6 H => ?_
  refine resL_N TN_25 ?_
  refine loadN_imp H fun r7 H => ?_
  exact H
/-! ### laws.FnDDelete -/
def l_FnDDelete.j2 (s0 : Value) (s2 : Value) (s4 : Value) (h : Heap) (Q : Value → Heap → Prop) : Prop :=
    loadN 3 s4 h fun t21 =>
    s_NodeItems.call #[t21] h fun t22 h =>
    buildV [(.int .i64 0), (.int .i64 0)] [(0, 1, s2)] fun t24 =>
    s_Drop.call #[(.slice none 0 0), t22, t24] h fun t25 h =>
    extr 0 t25 fun t26 =>
    extr 1 t25 fun t27 =>
    alloc [(.int .i64 0), (.int .i64 0), (.bool false)] 32 h fun t8 h =>
    storeN 3 t8 t27 h fun h =>
    loadN 3 s4 h fun t30 =>
    i_DDelete.call #[s0, t30, s2] h fun t32 h =>
    extr 0 t32 fun t33 =>
    extr 1 t32 fun t34 =>
    alloc [(.int .i64 0), (.int .i64 0), (.bool false)] 32 h fun t9 h =>
    alloc [(.slice none 0 0), (.slice none 0 0), (.int .i64 0)] 25 h fun t10 h =>
    storeN 3 t9 t33 h fun h =>
    storeN 3 t10 t34 h fun h =>
    loadN 3 s4 h fun t35 =>
    loadN 3 t10 h fun t37 =>
    s_NodeHeight.call #[t35] h fun t36 h =>
    stillN 3 t10 t37 h ∧ s_NodeHeight.call #[t37] h fun t38 h =>
    arith (· - ·) t36 t38 fun t39 =>
    loadN 3 t9 h fun t40 =>
    loadN 3 t8 h fun t41 =>
    eqR (EqV Try.prog 10000 32) t40 t41 fun t42 =>
    br t42 true (buildV [(.slice none 0 0), (.int .i64 0), (.bool false)] [(1, 1, s0)] fun t45 =>
    loadN 3 t10 h fun t46 =>
    l_holds.call #[t45, t46, t26] h fun t48 h =>
    br t48 true (cmpI (fun a b => a == b) t39 (.int .i64 0) fun t52 =>
    br t52 false (cmpI (fun a b => a == b) t39 (.int .i64 1) fun t55 =>
    br t55 true (l_aliveD.call #[] h fun t59 h =>
    Q t59 h) (Q (.bool false) h)) (l_aliveD.call #[] h fun t59_2 h =>
    Q t59_2 h)) (Q (.bool false) h)) (Q (.bool false) h)
def l_FnDDelete.j1 (s0 : Value) (s2 : Value) (s4 : Value) (h : Heap) (Q : Value → Heap → Prop) : Prop :=
    loadN 3 s4 h fun t16 =>
    l_validD.call #[s0, t16] h fun t17 h =>
    notV t17 fun t18 =>
    ifV t18
    (l_aliveD.call #[] h fun t19 h =>
    Q t19 h)
    (l_FnDDelete.j2 s0 s2 s4 h Q)
def l_FnDDelete.sh (a0 : Value) (a1 : Value) (a2 : Value) (h : Heap) (Q : Value → Heap → Prop) : Prop :=
    box 25 a1 h fun t4 h =>
    loadN 3 t4 h fun t12 =>
    l_zzFits3.call #[t12] h fun t13 h =>
    notV t13 fun t14 =>
    ifV t14
    (Q (.bool true) h)
    (l_FnDDelete.j1 a0 a2 t4 h Q)
theorem l_FnDDelete.body (a0 : Value) (a1 : Value) (a2 : Value) (h : Heap) (Q : Value → Heap → Prop) (H : l_FnDDelete.sh a0 a1 a2 h Q) : l_FnDDelete.call #[a0, a1, a2] h Q := by
  refine callsH_of (args := [a0, a1, a2]) Try.func5 rfl rfl ?_
  unfold l_FnDDelete.sh at H
  refine WPc_seq' ?_
  refine W_region (by kernel_rfl) ?_
  refine vl_n ?_
  refine H_box H fun t4 h H => ?_
  refine vl_n ?_
  refine H_of_R (R_assign (v := (.bool false)) rfl ?_)
  refine vl_e ?_
  refine WPc_seq (fun e h => l_FnDDelete.j1 (e 0) (e 2) (e 4) h Q) ?_ (fun e h H => ?_)
  rotate_left
  · unfold l_FnDDelete.j1 at H
    refine WPc_seq (fun e h => l_FnDDelete.j2 (e 0) (e 2) (e 4) h Q) ?_ (fun e h H => ?_)
    rotate_left
    · unfold l_FnDDelete.j2 at H
      refine WPc_seq' ?_
      refine W_region (by kernel_rfl) ?_
      refine vl_n ?_
      refine H_of_R (R_loadN TN_25 H fun _ t21 _ _ H _ _ => ?_)
      refine vl_n ?_
      refine H_call HB_19 H fun t22 h H => ?_
      refine vl_n ?_
      refine H_of_R (R_move (v := (e 2)) rfl ?_)
      refine vl_n ?_
      refine H_of_R (R_build TB_27 rfl (by decide) H fun t24 H => ?_)
      refine vl_n ?_
      refine H_call HB_23 H fun t25 h H => ?_
      refine vl_n ?_
      refine H_of_R (R_move (v := t25) rfl ?_)
      refine vl_n ?_
      refine H_of_R (R_ext H fun t26 H => ?_)
      refine vl_n ?_
      refine H_of_R (R_ext H fun t27 H => ?_)
      refine vl_n ?_
      refine H_alloc TV_32 H fun t8 h H => ?_
      refine vl_n ?_
      refine H_of_R (R_assign (v := t26) rfl ?_)
      refine vl_n ?_
      refine H_storeN TS_32 H fun h H => ?_
      refine vl_e ?_
      refine WPc_seq' ?_
      refine W_region (by kernel_rfl) ?_
      refine vl_n ?_
      refine H_of_R (R_move (v := (e 0)) rfl ?_)
      refine vl_n ?_
      refine H_of_R (R_loadN TN_25 H fun _ t30 _ _ H _ _ => ?_)
      refine vl_n ?_
      refine H_of_R (R_move (v := (e 2)) rfl ?_)
      refine vl_n ?_
      refine H_call HB_24 H fun t32 h H => ?_
      refine vl_n ?_
      refine H_of_R (R_move (v := t32) rfl ?_)
      refine vl_n ?_
      refine H_of_R (R_ext H fun t33 H => ?_)
      refine vl_n ?_
      refine H_of_R (R_ext H fun t34 H => ?_)
      refine vl_n ?_
      refine H_alloc TV_32 H fun t9 h H => ?_
      refine vl_n ?_
      refine H_alloc TV_25 H fun t10 h H => ?_
      refine vl_n ?_
      refine H_storeN TS_32 H fun h H => ?_
      refine vl_n ?_
      refine H_storeN TS_25 H fun h H => ?_
      refine vl_e ?_
      refine WPc_seq' ?_
      refine W_drawn [0, 1, 0, 7, 15, 31] (.take 0 (.take 2 (.alt 1 (.alt 3 (.take 4 (.take 5 .done)) .none) .none))) mixed (by kernel_rfl) ?_
      refine tkL rfl ?_
      refine R_loadN TN_25 H fun at35 xt35 hat35 _ H St35 hSt35 => ?_
      refine tkL rfl ?_
      refine R_loadN TN_25 H fun at37 xt37 hat37 _ H St37 hSt37 => ?_
      refine alt_n rfl ?_ vp_none
      refine H_call HB_21 H fun t36 h ⟨S, H⟩ => ⟨(hcons rfl (hSt37 _ (still_N S hat37 rfl)) (hskip rfl hnil)), ?_⟩
      refine alt_n rfl ?_ vp_none
      refine H_call HB_21 H fun t38 h H => ⟨(hskip rfl hnil), ?_⟩
      refine tkP rfl ?_
      refine R_sub H fun t39 H => ⟨fun _ => trivial, ?_⟩
      refine tkP rfl ?_
      refine R_assign (v := t39) rfl ⟨fun _ => trivial, ?_⟩
      refine vp_done ?_
      refine WPc_seq' ?_
      refine W_region (by kernel_rfl) ?_
      refine vl_n ?_
      refine H_of_R (R_loadN TN_32 H fun _ t40 _ _ H _ _ => ?_)
      refine vl_n ?_
      refine H_of_R (R_loadN TN_32 H fun _ t41 _ _ H _ _ => ?_)
      refine vl_n ?_
      refine H_of_R (R_eqA (by kernel_rfl) H fun t42 H => ?_)
      refine vl_n ?_
      refine H_of_R (R_move (v := t42) rfl ?_)
      obtain ⟨b, hb, H1, H2⟩ := H
      cases b
      · have H := H2 rfl; clear H1 H2
        refine vl_s rfl (nbT hb) ?_
        refine vl_s rfl (nbT hb) ?_
        refine vl_s rfl (nbT hb) ?_
        refine vl_s rfl (nbT hb) ?_
        refine vl_s rfl (nbT hb) ?_
        refine vl_n ?_
        refine H_of_R (R_pickC (v := (.bool false)) false hb rfl ?_)
        refine vl_n ?_
        refine H_of_R (R_move (v := (.bool false)) rfl ?_)
        refine vl_s rfl (nbT rfl) ?_
        refine vl_s rfl (nbT rfl) ?_
        refine vl_s rfl (nbT rfl) ?_
        refine vl_s rfl nbU ?_
        refine vl_s rfl nbU ?_
        refine vl_s rfl (nbT rfl) ?_
        refine vl_n ?_
        refine H_of_R (R_pickC (v := (.bool false)) false rfl rfl ?_)
        refine vl_n ?_
        refine H_of_R (R_move (v := (.bool false)) rfl ?_)
        refine vl_s rfl (nbT rfl) ?_
        refine vl_n ?_
        refine H_of_R (R_pickC (v := (.bool false)) false rfl rfl ?_)
        refine vl_n ?_
        refine H_of_R (R_assign (v := (.bool false)) rfl ?_)
        refine vl_e ?_
        refine WPc_ret ?_
        refine resH_of rfl ?_
        exact H
      · have H := H1 rfl; clear H1 H2
        refine vl_y rfl hb ?_
        refine H_of_R (R_move (v := (e 0)) rfl ?_)
        refine vl_y rfl hb ?_
        refine H_of_R (R_build TB_39 rfl (by decide) H fun t45 H => ?_)
        refine vl_y rfl hb ?_
        refine H_of_R (R_loadN TN_25 H fun _ t46 _ _ H _ _ => ?_)
        refine vl_y rfl hb ?_
        refine H_of_R (R_move (v := t26) rfl ?_)
        refine vl_y rfl hb ?_
        refine H_call HB_22 H fun t48 h H => ?_
        refine vl_n ?_
        refine H_of_R (R_pickC (v := t48) true hb rfl ?_)
        refine vl_n ?_
        refine H_of_R (R_move (v := t48) rfl ?_)
        obtain ⟨b_2, hb_2, H1, H2⟩ := H
        cases b_2
        · have H := H2 rfl; clear H1 H2
          refine vl_s rfl (nbT hb_2) ?_
          refine vl_s rfl (nbT hb_2) ?_
          refine vl_s rfl (nbT hb_2) ?_
          refine vl_s rfl nbU ?_
          refine vl_s rfl nbU ?_
          refine vl_s rfl (nbT hb_2) ?_
          refine vl_n ?_
          refine H_of_R (R_pickC (v := (.bool false)) false hb_2 rfl ?_)
          refine vl_n ?_
          refine H_of_R (R_move (v := (.bool false)) rfl ?_)
          refine vl_s rfl (nbT rfl) ?_
          refine vl_n ?_
          refine H_of_R (R_pickC (v := (.bool false)) false rfl rfl ?_)
          refine vl_n ?_
          refine H_of_R (R_assign (v := (.bool false)) rfl ?_)
          refine vl_e ?_
          refine WPc_ret ?_
          refine resH_of rfl ?_
          exact H
        · have H := H1 rfl; clear H1 H2
          refine vl_y rfl hb_2 ?_
          refine H_of_R (R_move (v := t39) rfl ?_)
          refine vl_y rfl hb_2 ?_
          refine H_of_R (R_eqI H fun t52 H => ?_)
          refine vl_y rfl hb_2 ?_
          refine H_of_R (R_move (v := t52) rfl ?_)
          obtain ⟨b_3, hb_3, H1, H2⟩ := H
          cases b_3
          · have H := H1 rfl; clear H1 H2
            refine vl_y rfl hb_3 ?_
            refine H_of_R (R_move (v := t39) rfl ?_)
            refine vl_y rfl hb_3 ?_
            refine H_of_R (R_eqI H fun t55 H => ?_)
            refine vl_y rfl hb_2 ?_
            refine H_of_R (R_pickC (v := t55) false hb_3 rfl ?_)
            refine vl_n ?_
            refine H_of_R (R_pickC (v := t55) true hb_2 rfl ?_)
            refine vl_n ?_
            refine H_of_R (R_move (v := t55) rfl ?_)
            obtain ⟨b_4, hb_4, H1, H2⟩ := H
            cases b_4
            · have H := H2 rfl; clear H1 H2
              refine vl_s rfl (nbT hb_4) ?_
              refine vl_n ?_
              refine H_of_R (R_pickC (v := (.bool false)) false hb_4 rfl ?_)
              refine vl_n ?_
              refine H_of_R (R_assign (v := (.bool false)) rfl ?_)
              refine vl_e ?_
              refine WPc_ret ?_
              refine resH_of rfl ?_
              exact H
            · have H := H1 rfl; clear H1 H2
              refine vl_y rfl hb_4 ?_
              refine H_call HB_14 H fun t59 h H => ?_
              refine vl_n ?_
              refine H_of_R (R_pickC (v := t59) true hb_4 rfl ?_)
              refine vl_n ?_
              refine H_of_R (R_assign (v := t59) rfl ?_)
              refine vl_e ?_
              refine WPc_ret ?_
              refine resH_of rfl ?_
              exact H
          · have H := H2 rfl; clear H1 H2
            refine vl_s rfl (nbF hb_3) ?_
            refine vl_s rfl (nbF hb_3) ?_
            refine vl_y rfl hb_2 ?_
            refine H_of_R (R_pickC (v := (.bool true)) true hb_3 rfl ?_)
            refine vl_n ?_
            refine H_of_R (R_pickC (v := (.bool true)) true hb_2 rfl ?_)
            refine vl_n ?_
            refine H_of_R (R_move (v := (.bool true)) rfl ?_)
            refine vl_y rfl rfl ?_
            refine H_call HB_14 H fun t59_2 h H => ?_
            refine vl_n ?_
            refine H_of_R (R_pickC (v := t59_2) true rfl rfl ?_)
            refine vl_n ?_
            refine H_of_R (R_assign (v := t59_2) rfl ?_)
            refine vl_e ?_
            refine WPc_ret ?_
            refine resH_of rfl ?_
            exact H
    refine WPc_seq' ?_
    refine W_region (by kernel_rfl) ?_
    refine vl_n ?_
    refine H_of_R (R_move (v := (e 0)) rfl ?_)
    refine vl_n ?_
    refine H_of_R (R_loadN TN_25 H fun _ t16 _ _ H _ _ => ?_)
    refine vl_n ?_
    refine H_call HB_13 H fun t17 h H => ?_
    refine vl_n ?_
    refine H_of_R (R_not H fun t18 H => ?_)
    refine vl_e ?_
    obtain ⟨b, hc, H1, H2⟩ := H
    refine WPc_cond hc (fun hh => ?_) (fun hh => ?_)
    · have H := H1 hh; clear H1 H2
      refine WPc_seq' ?_
      refine W_region (by kernel_rfl) ?_
      refine vl_n ?_
      refine H_call HB_14 H fun t19 h H => ?_
      refine vl_n ?_
      refine H_of_R (R_assign (v := t19) rfl ?_)
      refine vl_e ?_
      refine WPc_ret ?_
      refine resH_of rfl ?_
      exact H
    · have H := H2 hh; clear H1 H2
      refine WPc_skip ?_
      exact H
  refine WPc_seq' ?_
  refine W_region (by kernel_rfl) ?_
  refine vl_n ?_
  refine H_of_R (R_loadN TN_25 H fun _ t12 _ _ H _ _ => ?_)
  refine vl_n ?_
  refine H_call HB_12 H fun t13 h H => ?_
  refine vl_n ?_
  refine H_of_R (R_not H fun t14 H => ?_)
  refine vl_e ?_
  obtain ⟨b, hc, H1, H2⟩ := H
  refine WPc_cond hc (fun hh => ?_) (fun hh => ?_)
  · have H := H1 hh; clear H1 H2
    refine WPc_seq' ?_
    refine W_region (by kernel_rfl) ?_
    refine vl_n ?_
    refine H_of_R (R_assign (v := (.bool true)) rfl ?_)
    refine vl_e ?_
    refine WPc_ret ?_
    refine resH_of rfl ?_
    exact H
  · have H := H2 hh; clear H1 H2
    refine WPc_skip ?_
    exact H
/-! ### impl.growMap -/
def i_growMap.j1 (s5 : Value) (h : Heap) (Q : Value → Heap → Prop) : Prop :=
    Q s5 h
def i_growMap.j4 (s5 : Value) (s10 : Value) (s11 : Value) (s12 : Value) (h : Heap) (K1 : List Value → Heap → Prop) (Q : Value → Heap → Prop) : Prop :=
    arith (· + ·) s12 (.int .i64 1) fun t22 =>
    K1 [t22] h
def i_growMap.j3 (s5 : Value) (s10 : Value) (s11 : Value) (s12 : Value) (h : Heap) (K1 : List Value → Heap → Prop) (Q : Value → Heap → Prop) : Prop :=
    idx 2 s10 s12 fun t14 =>
    loadN 2 t14 h fun t15 =>
    alloc [(.int .i64 0), (.int .i64 0)] 27 h fun t7 h =>
    storeN 2 t7 t15 h fun h =>
    fld 0 t7 fun t17 =>
    load1 t17 h fun t18 =>
    fld 1 t7 fun t19 =>
    load1 t19 h fun t20 =>
    Map_ii_Set.call #[s5, t18, t20] h fun t21 h =>
    i_growMap.j4 s5 s10 s11 s12 h K1 Q
def i_growMap.l2.b (c5 : Value) (c10 : Value) (c11 : Value) (s12 : Value) (h : Heap) (K1 : List Value → Heap → Prop) (Q : Value → Heap → Prop) : Prop :=
    cmpI (fun a b => decide (a < b)) s12 c11 fun t13 =>
    ifV t13
    (i_growMap.j3 c5 c10 c11 s12 h K1 Q)
    (i_growMap.j1 c5 h Q)
def i_growMap.sh (a0 : Value) (a1 : Value) (h : Heap) (Q : Value → Heap → Prop) : Prop :=
    NewMap_ii.call #[a0] h fun t9 h =>
    lenV a1 fun t11 =>
    loopC (fun c s h K1 => i_growMap.l2.b (c.getD 0 undef) (c.getD 1 undef) (c.getD 2 undef) (s.getD 0 undef) h K1 Q) [t9, a1, t11] [(.int .i64 0)] h
theorem i_growMap.body (a0 : Value) (a1 : Value) (h : Heap) (Q : Value → Heap → Prop) (H : i_growMap.sh a0 a1 h Q) : i_growMap.call #[a0, a1] h Q := by
  refine callsH_of (args := [a0, a1]) Try.func76 rfl rfl ?_
  unfold i_growMap.sh at H
  refine WPc_seq' ?_
  refine W_region (by kernel_rfl) ?_
  refine vl_n ?_
  refine H_of_R (R_assign (v := (.pointer none)) rfl ?_)
  refine vl_e ?_
  refine WPc_seq' ?_
  refine W_region (by kernel_rfl) ?_
  refine vl_n ?_
  refine H_of_R (R_move (v := a0) rfl ?_)
  refine vl_n ?_
  refine H_call HB_108 H fun t9 h H => ?_
  refine vl_n ?_
  refine H_of_R (R_assign (v := t9) rfl ?_)
  refine vl_e ?_
  refine WPc_seq (fun e h => i_growMap.j1 (e 5) h Q) ?_ (fun e h H => ?_)
  rotate_left
  · unfold i_growMap.j1 at H
    refine WPc_seq' ?_
    refine W_region (by kernel_rfl) ?_
    refine vl_n ?_
    refine H_of_R (R_move (v := (e 5)) rfl ?_)
    refine vl_n ?_
    refine H_of_R (R_assign (v := (e 5)) rfl ?_)
    refine vl_e ?_
    refine WPc_ret ?_
    refine resH_of rfl ?_
    exact H
  refine WPc_seq' ?_
  refine W_region (by kernel_rfl) ?_
  refine vl_n ?_
  refine H_of_R (R_move (v := a1) rfl ?_)
  refine vl_n ?_
  refine H_of_R (R_len Try.underlying22 H fun t11 H => ?_)
  refine vl_n ?_
  refine H_of_R (R_move (v := (.int .i64 0)) rfl ?_)
  refine vl_e ?_
  refine WPc_block ?_
  refine loop_at (fun e => [e 12]) (fun e => [e 5, e 10, e 11]) H rfl rfl ?_
  intro K1 e1 h H hin1
  replace H : i_growMap.l2.b (e1 5) (e1 10) (e1 11) (e1 12) h K1 Q := H
  unfold i_growMap.l2.b at H
  clear hin1
  refine WPc_seq' ?_
  refine W_region (by kernel_rfl) ?_
  refine vl_n ?_
  refine H_of_R (R_lss H fun t13 H => ?_)
  refine vl_e ?_
  refine WPc_seq (fun e h => i_growMap.j3 (e 5) (e 10) (e 11) (e 12) h K1 Q ∧ [e1 5, e1 10, e1 11] = [e 5, e 10, e 11]) ?_ (fun e h ⟨H, hq1⟩ => ?_)
  rotate_left
  · unfold i_growMap.j3 at H
    refine WPc_seq (fun e h => i_growMap.j4 (e 5) (e 10) (e 11) (e 12) h K1 Q ∧ [e1 5, e1 10, e1 11] = [e 5, e 10, e 11]) ?_ (fun e h ⟨H, hq1⟩ => ?_)
    rotate_left
    · unfold i_growMap.j4 at H
      refine W_region (by kernel_rfl) ?_
      refine vl_n ?_
      refine H_of_R (R_add H fun t22 H => ?_)
      refine vl_n ?_
      refine H_of_R (R_move (v := t22) rfl ?_)
      refine vl_e ?_
      exact ⟨H, hq1⟩
    refine WPc_block ?_
    refine WPc_seq' ?_
    refine W_region (by kernel_rfl) ?_
    refine vl_n ?_
    refine H_of_R (R_idx TE_22 H fun t14 H => ?_)
    refine vl_n ?_
    refine H_of_R (R_loadN TN_27 H fun _ t15 _ _ H _ _ => ?_)
    refine vl_n ?_
    refine H_alloc TV_27 H fun t7 h H => ?_
    refine vl_n ?_
    refine H_storeN TS_27 H fun h H => ?_
    refine vl_e ?_
    refine W_region (by kernel_rfl) ?_
    refine vl_n ?_
    refine H_of_R (R_move (v := (e 5)) rfl ?_)
    refine vl_n ?_
    refine H_of_R (R_fld TF_27_0 H fun t17 H => ?_)
    refine vl_n ?_
    refine H_of_R (R_load1 T1_3 H fun _ t18 _ _ H => ?_)
    refine vl_n ?_
    refine H_of_R (R_fld TF_27_1 H fun t19 H => ?_)
    refine vl_n ?_
    refine H_of_R (R_load1 T1_3 H fun _ t20 _ _ H => ?_)
    refine vl_n ?_
    refine H_call HB_59 H fun t21 h H => ?_
    refine vl_e ?_
    exact ⟨H, hq1⟩
  obtain ⟨b, hc, H1, H2⟩ := H
  refine WPc_cond hc (fun hh => ?_) (fun hh => ?_)
  · have H := H1 hh; clear H1 H2
    refine WPc_skip ?_
    exact ⟨H, rfl⟩
  · have H := H2 hh; clear H1 H2
    refine WPc_exit ?_
    exact H

end Go.Proofs.Ytlihjljdndbpdaa
end
