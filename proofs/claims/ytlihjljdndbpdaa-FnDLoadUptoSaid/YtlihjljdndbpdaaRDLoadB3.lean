/-
  Texts of this claim, laid together: S0 S9 Cg Hl Ch Ci S8 Cjf Ht Cku Da Hu Hv Hw Hx Hz HB Db Dc KzIi K0Ii.
  Conditions: as each of them tells.
-/
import Derived.Test.YtlihjljdndbpdaaRDLoadB2
section
namespace Go.Proofs.Ytlihjljdndbpdaa
open Go.Hp
set_option maxRecDepth 100000
set_option maxHeartbeats 8000000
set_option linter.unusedVariables false
set_option linter.unusedSimpArgs false

/-! ### laws.zzFits3 -/
def l_zzFits3.j2 (h : Heap) (Q : Value → Heap → Prop) : Prop :=
    Q (.bool true) h
def l_zzFits3.j1 (s1 : Value) (h : Heap) (Q : Value → Heap → Prop) : Prop :=
    fld 1 s1 fun t7 =>
    load1 t7 h fun t8 =>
    lenV t8 fun t9 =>
    cmpI (fun a b => decide (a > b)) t9 (.int .i64 2147483647) fun t10 =>
    ifV t10
    (Q (.bool false) h)
    (l_zzFits3.j2 h Q)
def l_zzFits3.sh (a0 : Value) (h : Heap) (Q : Value → Heap → Prop) : Prop :=
    box 25 a0 h fun t1 h =>
    fld 0 t1 fun t3 =>
    load1 t3 h fun t4 =>
    lenV t4 fun t5 =>
    cmpI (fun a b => decide (a > b)) t5 (.int .i64 2147483647) fun t6 =>
    ifV t6
    (Q (.bool false) h)
    (l_zzFits3.j1 t1 h Q)
theorem l_zzFits3.body (a0 : Value) (h : Heap) (Q : Value → Heap → Prop) (H : l_zzFits3.sh a0 h Q) : l_zzFits3.call #[a0] h Q := by
  refine callsH_of (args := [a0]) Try.func12 rfl rfl ?_
  unfold l_zzFits3.sh at H
  refine WPc_seq' ?_
  refine W_region (by kernel_rfl) ?_
  refine vl_n ?_
  refine H_box H fun t1 h H => ?_
  refine vl_n ?_
  refine H_of_R (R_assign (v := (.bool false)) rfl ?_)
  refine vl_e ?_
  refine WPc_seq (fun e h => l_zzFits3.j1 (e 1) h Q) ?_ (fun e h H => ?_)
  rotate_left
  · unfold l_zzFits3.j1 at H
    refine WPc_seq (fun e h => l_zzFits3.j2 h Q) ?_ (fun e h H => ?_)
    rotate_left
    · unfold l_zzFits3.j2 at H
      refine WPc_seq' ?_
      refine W_region (by kernel_rfl) ?_
      refine vl_n ?_
      refine H_of_R (R_assign (v := (.bool true)) rfl ?_)
      refine vl_e ?_
      refine WPc_ret ?_
      refine resH_of rfl ?_
      exact H
    refine WPc_seq' ?_
    refine W_region (by kernel_rfl) ?_
    refine vl_n ?_
    refine H_of_R (R_fld TF_25_1 H fun t7 H => ?_)
    refine vl_n ?_
    refine H_of_R (R_load1 T1_23 H fun _ t8 _ _ H => ?_)
    refine vl_n ?_
    refine H_of_R (R_len Try.underlying23 H fun t9 H => ?_)
    refine vl_n ?_
    refine H_of_R (R_gtr H fun t10 H => ?_)
    refine vl_e ?_
    obtain ⟨b, hc, H1, H2⟩ := H
    refine WPc_cond hc (fun hh => ?_) (fun hh => ?_)
    · have H := H1 hh; clear H1 H2
      refine WPc_seq' ?_
      refine W_region (by kernel_rfl) ?_
      refine vl_n ?_
      refine H_of_R (R_assign (v := (.bool false)) rfl ?_)
      refine vl_e ?_
      refine WPc_ret ?_
      refine resH_of rfl ?_
      exact H
    · have H := H2 hh; clear H1 H2
      refine WPc_skip ?_
      exact H
  refine WPc_seq' ?_
  refine W_region (by kernel_rfl) ?_
  refine vl_n ?_
  refine H_of_R (R_fld TF_25_0 H fun t3 H => ?_)
  refine vl_n ?_
  refine H_of_R (R_load1 T1_22 H fun _ t4 _ _ H => ?_)
  refine vl_n ?_
  refine H_of_R (R_len Try.underlying22 H fun t5 H => ?_)
  refine vl_n ?_
  refine H_of_R (R_gtr H fun t6 H => ?_)
  refine vl_e ?_
  obtain ⟨b, hc, H1, H2⟩ := H
  refine WPc_cond hc (fun hh => ?_) (fun hh => ?_)
  · have H := H1 hh; clear H1 H2
    refine WPc_seq' ?_
    refine W_region (by kernel_rfl) ?_
    refine vl_n ?_
    refine H_of_R (R_assign (v := (.bool false)) rfl ?_)
    refine vl_e ?_
    refine WPc_ret ?_
    refine resH_of rfl ?_
    exact H
  · have H := H2 hh; clear H1 H2
    refine WPc_skip ?_
    exact H
/-! ### spec.Fits -/
def s_Fits.sh (a0 : Value) (h : Heap) (Q : Value → Heap → Prop) : Prop :=
    cmpI (fun a b => a == b) a0 (.int .i64 0) fun t4 =>
    br t4 false (cmpI (fun a b => decide (a ≥ b)) a0 (.int .i64 2) fun t7 =>
    br t7 true (cmpI (fun a b => decide (a ≤ b)) a0 (.int .i64 128) fun t10 =>
    Q t10 h) (Q (.bool false) h)) (Q (.bool true) h)
theorem s_Fits.body (a0 : Value) (h : Heap) (Q : Value → Heap → Prop) (H : s_Fits.sh a0 h Q) : s_Fits.call #[a0] h Q := by
  refine callsH_of (args := [a0]) Try.func73 rfl rfl ?_
  unfold s_Fits.sh at H
  refine WPc_seq' ?_
  refine W_region (by kernel_rfl) ?_
  refine vl_n ?_
  refine H_of_R (R_assign (v := (.bool false)) rfl ?_)
  refine vl_e ?_
  refine WPc_seq' ?_
  refine W_region (by kernel_rfl) ?_
  refine vl_n ?_
  refine H_of_R (R_move (v := a0) rfl ?_)
  refine vl_n ?_
  refine H_of_R (R_eqI H fun t4 H => ?_)
  refine vl_n ?_
  refine H_of_R (R_move (v := t4) rfl ?_)
  obtain ⟨b, hb, H1, H2⟩ := H
  cases b
  · have H := H1 rfl; clear H1 H2
    refine vl_y rfl hb ?_
    refine H_of_R (R_move (v := a0) rfl ?_)
    refine vl_y rfl hb ?_
    refine H_of_R (R_geq H fun t7 H => ?_)
    refine vl_y rfl hb ?_
    refine H_of_R (R_move (v := t7) rfl ?_)
    obtain ⟨b_2, hb_2, H1, H2⟩ := H
    cases b_2
    · have H := H2 rfl; clear H1 H2
      refine vl_s rfl (nbT hb_2) ?_
      refine vl_s rfl (nbT hb_2) ?_
      refine vl_y rfl hb ?_
      refine H_of_R (R_pickC (v := (.bool false)) false hb_2 rfl ?_)
      refine vl_n ?_
      refine H_of_R (R_pickC (v := (.bool false)) false hb rfl ?_)
      refine vl_n ?_
      refine H_of_R (R_assign (v := (.bool false)) rfl ?_)
      refine vl_e ?_
      refine WPc_ret ?_
      refine resH_of rfl ?_
      exact H
    · have H := H1 rfl; clear H1 H2
      refine vl_y rfl hb_2 ?_
      refine H_of_R (R_move (v := a0) rfl ?_)
      refine vl_y rfl hb_2 ?_
      refine H_of_R (R_leq H fun t10 H => ?_)
      refine vl_y rfl hb ?_
      refine H_of_R (R_pickC (v := t10) true hb_2 rfl ?_)
      refine vl_n ?_
      refine H_of_R (R_pickC (v := t10) false hb rfl ?_)
      refine vl_n ?_
      refine H_of_R (R_assign (v := t10) rfl ?_)
      refine vl_e ?_
      refine WPc_ret ?_
      refine resH_of rfl ?_
      exact H
  · have H := H2 rfl; clear H1 H2
    refine vl_s rfl (nbF hb) ?_
    refine vl_s rfl (nbF hb) ?_
    refine vl_s rfl (nbF hb) ?_
    refine vl_s rfl nbU ?_
    refine vl_s rfl nbU ?_
    refine vl_s rfl (nbF hb) ?_
    refine vl_n ?_
    refine H_of_R (R_pickC (v := (.bool true)) true hb rfl ?_)
    refine vl_n ?_
    refine H_of_R (R_assign (v := (.bool true)) rfl ?_)
    refine vl_e ?_
    refine WPc_ret ?_
    refine resH_of rfl ?_
    exact H
/-! ### laws.fit -/
def l_fit.sh (a0 : Value) (h : Heap) (Q : Value → Heap → Prop) : Prop :=
    cmpI (fun a b => decide (a > b)) a0 (.int .i64 0) fun t4 =>
    br t4 true (s_Fits.call #[a0] h fun t7 h =>
    Q t7 h) (Q (.bool false) h)
theorem l_fit.body (a0 : Value) (h : Heap) (Q : Value → Heap → Prop) (H : l_fit.sh a0 h Q) : l_fit.call #[a0] h Q := by
  refine callsH_of (args := [a0]) Try.func25 rfl rfl ?_
  unfold l_fit.sh at H
  refine WPc_seq' ?_
  refine W_region (by kernel_rfl) ?_
  refine vl_n ?_
  refine H_of_R (R_assign (v := (.bool false)) rfl ?_)
  refine vl_e ?_
  refine WPc_seq' ?_
  refine W_region (by kernel_rfl) ?_
  refine vl_n ?_
  refine H_of_R (R_move (v := a0) rfl ?_)
  refine vl_n ?_
  refine H_of_R (R_gtr H fun t4 H => ?_)
  refine vl_n ?_
  refine H_of_R (R_move (v := t4) rfl ?_)
  obtain ⟨b, hb, H1, H2⟩ := H
  cases b
  · have H := H2 rfl; clear H1 H2
    refine vl_s rfl (nbT hb) ?_
    refine vl_s rfl (nbT hb) ?_
    refine vl_n ?_
    refine H_of_R (R_pickC (v := (.bool false)) false hb rfl ?_)
    refine vl_n ?_
    refine H_of_R (R_assign (v := (.bool false)) rfl ?_)
    refine vl_e ?_
    refine WPc_ret ?_
    refine resH_of rfl ?_
    exact H
  · have H := H1 rfl; clear H1 H2
    refine vl_y rfl hb ?_
    refine H_of_R (R_move (v := a0) rfl ?_)
    refine vl_y rfl hb ?_
    refine H_call HB_73 H fun t7 h H => ?_
    refine vl_n ?_
    refine H_of_R (R_pickC (v := t7) true hb rfl ?_)
    refine vl_n ?_
    refine H_of_R (R_assign (v := t7) rfl ?_)
    refine vl_e ?_
    refine WPc_ret ?_
    refine resH_of rfl ?_
    exact H
/-! ### spec.NodeItems -/
def s_NodeItems.j1 (s3 : Value) (h : Heap) (Q : Value → Heap → Prop) : Prop :=
    Q s3 h
def s_NodeItems.j4 (s1 : Value) (s3 : Value) (s11 : Value) (s12 : Value) (h : Heap) (K1 : List Value → Heap → Prop) (Q : Value → Heap → Prop) : Prop :=
    arith (· + ·) s12 (.int .i64 1) fun t41 =>
    K1 [s3, t41] h
def s_NodeItems.j5 (s1 : Value) (s3 : Value) (s4 : Value) (s11 : Value) (s12 : Value) (h : Heap) (K1 : List Value → Heap → Prop) (Q : Value → Heap → Prop) : Prop :=
    fld 0 s1 fun t29 =>
    load1 t29 h fun t30 =>
    lenV t30 fun t31 =>
    cmpI (fun a b => decide (a < b)) s4 t31 fun t32 =>
    ifV t32
    (fld 0 s1 fun t34 =>
    load1 t34 h fun t35 =>
    idx 2 t35 s4 fun t37 =>
    loadN 2 t37 h fun t38 =>
    mkSl (if 1 * 2 = 0 then [] else zeros [(.int .i64 0), (.int .i64 0)] 1) 1 [(0 * 2, 2, t38)] 27 h fun t39 h =>
    app 27 2 16 [(.int .i64 0), (.int .i64 0)] s3 t39 h fun t40 h =>
    s_NodeItems.j4 s1 t40 s11 s12 h K1 Q)
    (s_NodeItems.j4 s1 s3 s11 s12 h K1 Q)
def s_NodeItems.j3 (s1 : Value) (s3 : Value) (s11 : Value) (s12 : Value) (h : Heap) (K1 : List Value → Heap → Prop) (Q : Value → Heap → Prop) : Prop :=
    fld 1 s1 fun t16 =>
    load1 t16 h fun t17 =>
    lenV t17 fun t18 =>
    cmpI (fun a b => decide (a < b)) s12 t18 fun t19 =>
    ifV t19
    (fld 1 s1 fun t21 =>
    load1 t21 h fun t22 =>
    idx 3 t22 s12 fun t24 =>
    loadN 3 t24 h fun t25 =>
    s_NodeItems.call #[t25] h fun t26 h =>
    app 27 2 16 [(.int .i64 0), (.int .i64 0)] s3 t26 h fun t27 h =>
    s_NodeItems.j5 s1 t27 s12 s11 s12 h K1 Q)
    (s_NodeItems.j5 s1 s3 s12 s11 s12 h K1 Q)
def s_NodeItems.l2.b (c1 : Value) (c11 : Value) (s3 : Value) (s12 : Value) (h : Heap) (K1 : List Value → Heap → Prop) (Q : Value → Heap → Prop) : Prop :=
    cmpI (fun a b => decide (a < b)) s12 c11 fun t13 =>
    ifV t13
    (s_NodeItems.j3 c1 s3 c11 s12 h K1 Q)
    (s_NodeItems.j1 s3 h Q)
def s_NodeItems.sh (a0 : Value) (h : Heap) (Q : Value → Heap → Prop) : Prop :=
    box 25 a0 h fun t1 h =>
    fld 1 t1 fun t5 =>
    load1 t5 h fun t6 =>
    lenV t6 fun t7 =>
    fld 0 t1 fun t8 =>
    load1 t8 h fun t9 =>
    lenV t9 fun t10 =>
    max2V t7 t10 fun t11 =>
    loopC (fun c s h K1 => s_NodeItems.l2.b (c.getD 0 undef) (c.getD 1 undef) (s.getD 0 undef) (s.getD 1 undef) h K1 Q) [t1, t11] [(.slice none 0 0), (.int .i64 0)] h
theorem s_NodeItems.body (a0 : Value) (h : Heap) (Q : Value → Heap → Prop) (H : s_NodeItems.sh a0 h Q) : s_NodeItems.call #[a0] h Q := by
  refine callsH_of (args := [a0]) Try.func19 rfl rfl ?_
  unfold s_NodeItems.sh at H
  refine WPc_seq' ?_
  refine W_region (by kernel_rfl) ?_
  refine vl_n ?_
  refine H_box H fun t1 h H => ?_
  refine vl_n ?_
  refine H_of_R (R_assign (v := (.slice none 0 0)) rfl ?_)
  refine vl_e ?_
  refine WPc_seq' ?_
  refine W_region (by kernel_rfl) ?_
  refine vl_n ?_
  refine H_of_R (R_assign (v := (.slice none 0 0)) rfl ?_)
  refine vl_e ?_
  refine WPc_seq (fun e h => s_NodeItems.j1 (e 3) h Q) ?_ (fun e h H => ?_)
  rotate_left
  · unfold s_NodeItems.j1 at H
    refine WPc_seq' ?_
    refine W_region (by kernel_rfl) ?_
    refine vl_n ?_
    refine H_of_R (R_move (v := (e 3)) rfl ?_)
    refine vl_n ?_
    refine H_of_R (R_assign (v := (e 3)) rfl ?_)
    refine vl_e ?_
    refine WPc_ret ?_
    refine resH_of rfl ?_
    exact H
  refine WPc_seq' ?_
  refine W_region (by kernel_rfl) ?_
  refine vl_n ?_
  refine H_of_R (R_fld TF_25_1 H fun t5 H => ?_)
  refine vl_n ?_
  refine H_of_R (R_load1 T1_23 H fun _ t6 _ _ H => ?_)
  refine vl_n ?_
  refine H_of_R (R_len Try.underlying23 H fun t7 H => ?_)
  refine vl_n ?_
  refine H_of_R (R_fld TF_25_0 H fun t8 H => ?_)
  refine vl_n ?_
  refine H_of_R (R_load1 T1_22 H fun _ t9 _ _ H => ?_)
  refine vl_n ?_
  refine H_of_R (R_len Try.underlying22 H fun t10 H => ?_)
  refine vl_n ?_
  refine H_of_R (R_max H fun t11 H => ?_)
  refine vl_n ?_
  refine H_of_R (R_move (v := (.int .i64 0)) rfl ?_)
  refine vl_e ?_
  refine WPc_block ?_
  refine loop_at (fun e => [e 3, e 12]) (fun e => [e 1, e 11]) H rfl rfl ?_
  intro K1 e1 h H hin1
  replace H : s_NodeItems.l2.b (e1 1) (e1 11) (e1 3) (e1 12) h K1 Q := H
  unfold s_NodeItems.l2.b at H
  clear hin1
  refine WPc_seq' ?_
  refine W_region (by kernel_rfl) ?_
  refine vl_n ?_
  refine H_of_R (R_lss H fun t13 H => ?_)
  refine vl_e ?_
  refine WPc_seq (fun e h => s_NodeItems.j3 (e 1) (e 3) (e 11) (e 12) h K1 Q ∧ [e1 1, e1 11] = [e 1, e 11]) ?_ (fun e h ⟨H, hq1⟩ => ?_)
  rotate_left
  · unfold s_NodeItems.j3 at H
    refine WPc_seq (fun e h => s_NodeItems.j4 (e 1) (e 3) (e 11) (e 12) h K1 Q ∧ [e1 1, e1 11] = [e 1, e 11]) ?_ (fun e h ⟨H, hq1⟩ => ?_)
    rotate_left
    · unfold s_NodeItems.j4 at H
      refine W_region (by kernel_rfl) ?_
      refine vl_n ?_
      refine H_of_R (R_add H fun t41 H => ?_)
      refine vl_n ?_
      refine H_of_R (R_move (v := t41) rfl ?_)
      refine vl_e ?_
      exact ⟨H, hq1⟩
    refine WPc_block ?_
    refine WPc_seq' ?_
    refine W_region (by kernel_rfl) ?_
    refine vl_n ?_
    refine H_of_R (R_move (v := (e 12)) rfl ?_)
    refine vl_n ?_
    refine H_of_R (R_assign (v := (e 12)) rfl ?_)
    refine vl_e ?_
    refine WPc_seq (fun e h => s_NodeItems.j5 (e 1) (e 3) (e 4) (e 11) (e 12) h K1 Q ∧ [e1 1, e1 11] = [e 1, e 11]) ?_ (fun e h ⟨H, hq1⟩ => ?_)
    rotate_left
    · unfold s_NodeItems.j5 at H
      refine WPc_seq' ?_
      refine W_region (by kernel_rfl) ?_
      refine vl_n ?_
      refine H_of_R (R_move (v := (e 4)) rfl ?_)
      refine vl_n ?_
      refine H_of_R (R_fld TF_25_0 H fun t29 H => ?_)
      refine vl_n ?_
      refine H_of_R (R_load1 T1_22 H fun _ t30 _ _ H => ?_)
      refine vl_n ?_
      refine H_of_R (R_len Try.underlying22 H fun t31 H => ?_)
      refine vl_n ?_
      refine H_of_R (R_lss H fun t32 H => ?_)
      refine vl_e ?_
      obtain ⟨b, hc, H1, H2⟩ := H
      refine WPc_cond hc (fun hh => ?_) (fun hh => ?_)
      · have H := H1 hh; clear H1 H2
        refine W_region (by kernel_rfl) ?_
        refine vl_n ?_
        refine H_of_R (R_move (v := (e 3)) rfl ?_)
        refine vl_n ?_
        refine H_of_R (R_fld TF_25_0 H fun t34 H => ?_)
        refine vl_n ?_
        refine H_of_R (R_load1 T1_22 H fun _ t35 _ _ H => ?_)
        refine vl_n ?_
        refine H_of_R (R_move (v := (e 4)) rfl ?_)
        refine vl_n ?_
        refine H_of_R (R_idx TE_22 H fun t37 H => ?_)
        refine vl_n ?_
        refine H_of_R (R_loadN TN_27 H fun _ t38 _ _ H _ _ => ?_)
        refine vl_n ?_
        refine H_mkSl TZ_22 (by decide) rfl H rfl fun t39 h H => ?_
        refine vl_n ?_
        refine H_app TZ_22 TU_22 H fun t40 h H => ?_
        refine vl_n ?_
        refine H_of_R (R_assign (v := t40) rfl ?_)
        refine vl_e ?_
        exact ⟨H, hq1⟩
      · have H := H2 hh; clear H1 H2
        refine WPc_skip ?_
        exact ⟨H, hq1⟩
    refine WPc_seq' ?_
    refine W_region (by kernel_rfl) ?_
    refine vl_n ?_
    refine H_of_R (R_move (v := (e 12)) rfl ?_)
    refine vl_n ?_
    refine H_of_R (R_fld TF_25_1 H fun t16 H => ?_)
    refine vl_n ?_
    refine H_of_R (R_load1 T1_23 H fun _ t17 _ _ H => ?_)
    refine vl_n ?_
    refine H_of_R (R_len Try.underlying23 H fun t18 H => ?_)
    refine vl_n ?_
    refine H_of_R (R_lss H fun t19 H => ?_)
    refine vl_e ?_
    obtain ⟨b, hc, H1, H2⟩ := H
    refine WPc_cond hc (fun hh => ?_) (fun hh => ?_)
    · have H := H1 hh; clear H1 H2
      refine W_region (by kernel_rfl) ?_
      refine vl_n ?_
      refine H_of_R (R_move (v := (e 3)) rfl ?_)
      refine vl_n ?_
      refine H_of_R (R_fld TF_25_1 H fun t21 H => ?_)
      refine vl_n ?_
      refine H_of_R (R_load1 T1_23 H fun _ t22 _ _ H => ?_)
      refine vl_n ?_
      refine H_of_R (R_move (v := (e 12)) rfl ?_)
      refine vl_n ?_
      refine H_of_R (R_idx TE_23 H fun t24 H => ?_)
      refine vl_n ?_
      refine H_of_R (R_loadN TN_25 H fun _ t25 _ _ H _ _ => ?_)
      refine vl_n ?_
      refine H_call HB_19 H fun t26 h H => ?_
      refine vl_n ?_
      refine H_app TZ_22 TU_22 H fun t27 h H => ?_
      refine vl_n ?_
      refine H_of_R (R_assign (v := t27) rfl ?_)
      refine vl_e ?_
      exact ⟨H, hq1⟩
    · have H := H2 hh; clear H1 H2
      refine WPc_skip ?_
      exact ⟨H, hq1⟩
  obtain ⟨b, hc, H1, H2⟩ := H
  refine WPc_cond hc (fun hh => ?_) (fun hh => ?_)
  · have H := H1 hh; clear H1 H2
    refine WPc_skip ?_
    exact ⟨H, rfl⟩
  · have H := H2 hh; clear H1 H2
    refine WPc_exit ?_
    exact H
/-! ### spec.Width -/
def s_Width.j1 (s0 : Value) (h : Heap) (Q : Value → Heap → Prop) : Prop :=
    Q s0 h
def s_Width.sh (a0 : Value) (h : Heap) (Q : Value → Heap → Prop) : Prop :=
    cmpI (fun a b => a == b) a0 (.int .i64 0) fun t4 =>
    ifV t4
    (Q (.int .i64 32) h)
    (s_Width.j1 a0 h Q)
theorem s_Width.body (a0 : Value) (h : Heap) (Q : Value → Heap → Prop) (H : s_Width.sh a0 h Q) : s_Width.call #[a0] h Q := by
  refine callsH_of (args := [a0]) Try.func64 rfl rfl ?_
  unfold s_Width.sh at H
  refine WPc_seq' ?_
  refine W_region (by kernel_rfl) ?_
  refine vl_n ?_
  refine H_of_R (R_assign (v := (.int .i64 0)) rfl ?_)
  refine vl_e ?_
  refine WPc_seq (fun e h => s_Width.j1 (e 0) h Q) ?_ (fun e h H => ?_)
  rotate_left
  · unfold s_Width.j1 at H
    refine WPc_seq' ?_
    refine W_region (by kernel_rfl) ?_
    refine vl_n ?_
    refine H_of_R (R_move (v := (e 0)) rfl ?_)
    refine vl_n ?_
    refine H_of_R (R_assign (v := (e 0)) rfl ?_)
    refine vl_e ?_
    refine WPc_ret ?_
    refine resH_of rfl ?_
    exact H
  refine WPc_seq' ?_
  refine W_region (by kernel_rfl) ?_
  refine vl_n ?_
  refine H_of_R (R_move (v := a0) rfl ?_)
  refine vl_n ?_
  refine H_of_R (R_eqI H fun t4 H => ?_)
  refine vl_e ?_
  obtain ⟨b, hc, H1, H2⟩ := H
  refine WPc_cond hc (fun hh => ?_) (fun hh => ?_)
  · have H := H1 hh; clear H1 H2
    refine WPc_seq' ?_
    refine W_region (by kernel_rfl) ?_
    refine vl_n ?_
    refine H_of_R (R_assign (v := (.int .i64 32)) rfl ?_)
    refine vl_e ?_
    refine WPc_ret ?_
    refine resH_of rfl ?_
    exact H
  · have H := H2 hh; clear H1 H2
    refine WPc_skip ?_
    exact H
/-! ### spec.Levels -/
def s_Levels.j3 (s4 : Value) (s5 : Value) (h : Heap) (Q : Value → Heap → Prop) : Prop :=
    arith (· + ·) s4 (.int .i64 1) fun t54 =>
    Q (.tuple #[t54, s5]) h
def s_Levels.j6 (s4 : Value) (s5 : Value) (s32 : Value) (s33 : Value) (s34 : Value) (h : Heap) (K1 : List Value → Heap → Prop) (Q : Value → Heap → Prop) : Prop :=
    arith (· + ·) s34 (.int .i64 1) fun t52 =>
    K1 [s5, t52] h
def s_Levels.j5 (s4 : Value) (s5 : Value) (s32 : Value) (s33 : Value) (s34 : Value) (h : Heap) (K1 : List Value → Heap → Prop) (Q : Value → Heap → Prop) : Prop :=
    idx 3 s32 s34 fun t36 =>
    loadN 3 t36 h fun t37 =>
    alloc [(.slice none 0 0), (.slice none 0 0), (.int .i64 0)] 25 h fun t7 h =>
    storeN 3 t7 t37 h fun h =>
    loadN 3 t7 h fun t39 =>
    s_Levels.call #[t39] h fun t40 h =>
    extr 0 t40 fun t41 =>
    extr 1 t40 fun t42 =>
    br s5 true (br t42 true (cmpI (fun a b => a == b) t41 s4 fun t50 =>
    s_Levels.j6 s4 t50 s32 s33 s34 h K1 Q) (s_Levels.j6 s4 (.bool false) s32 s33 s34 h K1 Q)) (s_Levels.j6 s4 (.bool false) s32 s33 s34 h K1 Q)
def s_Levels.l4.b (c4 : Value) (c32 : Value) (c33 : Value) (s5 : Value) (s34 : Value) (h : Heap) (K1 : List Value → Heap → Prop) (Q : Value → Heap → Prop) : Prop :=
    cmpI (fun a b => decide (a < b)) s34 c33 fun t35 =>
    ifV t35
    (s_Levels.j5 c4 s5 c32 c33 s34 h K1 Q)
    (s_Levels.j3 c4 s5 h Q)
def s_Levels.j2 (s1 : Value) (h : Heap) (Q : Value → Heap → Prop) : Prop :=
    fld 1 s1 fun t23 =>
    load1 t23 h fun t24 =>
    idx 3 t24 (.int .i64 0) fun t25 =>
    loadN 3 t25 h fun t26 =>
    s_Levels.call #[t26] h fun t27 h =>
    extr 0 t27 fun t28 =>
    extr 1 t27 fun t29 =>
    fld 1 s1 fun t30 =>
    load1 t30 h fun t31 =>
    slc 3 t31 (some (.int .i64 1)) none none fun t32 =>
    lenV t32 fun t33 =>
    loopC (fun c s h K1 => s_Levels.l4.b (c.getD 0 undef) (c.getD 1 undef) (c.getD 2 undef) (s.getD 0 undef) (s.getD 1 undef) h K1 Q) [t28, t32, t33] [t29, (.int .i64 0)] h
def s_Levels.j1 (s1 : Value) (h : Heap) (Q : Value → Heap → Prop) : Prop :=
    fld 1 s1 fun t14 =>
    load1 t14 h fun t15 =>
    lenV t15 fun t16 =>
    fld 0 s1 fun t17 =>
    load1 t17 h fun t18 =>
    lenV t18 fun t19 =>
    arith (· + ·) t19 (.int .i64 1) fun t20 =>
    cmpI (fun a b => a != b) t16 t20 fun t21 =>
    ifV t21
    (Q (.tuple #[(.int .i64 0), (.bool false)]) h)
    (s_Levels.j2 s1 h Q)
def s_Levels.sh (a0 : Value) (h : Heap) (Q : Value → Heap → Prop) : Prop :=
    box 25 a0 h fun t1 h =>
    fld 1 t1 fun t10 =>
    load1 t10 h fun t11 =>
    lenV t11 fun t12 =>
    cmpI (fun a b => a == b) t12 (.int .i64 0) fun t13 =>
    ifV t13
    (Q (.tuple #[(.int .i64 1), (.bool true)]) h)
    (s_Levels.j1 t1 h Q)
theorem s_Levels.body (a0 : Value) (h : Heap) (Q : Value → Heap → Prop) (H : s_Levels.sh a0 h Q) : s_Levels.call #[a0] h Q := by
  refine callsH_of (args := [a0]) Try.func69 rfl rfl ?_
  unfold s_Levels.sh at H
  refine WPc_seq' ?_
  refine W_region (by kernel_rfl) ?_
  refine vl_n ?_
  refine H_box H fun t1 h H => ?_
  refine vl_n ?_
  refine H_of_R (R_assign (v := (.int .i64 0)) rfl ?_)
  refine vl_n ?_
  refine H_of_R (R_assign (v := (.bool false)) rfl ?_)
  refine vl_e ?_
  refine WPc_seq (fun e h => s_Levels.j1 (e 1) h Q) ?_ (fun e h H => ?_)
  rotate_left
  · unfold s_Levels.j1 at H
    refine WPc_seq (fun e h => s_Levels.j2 (e 1) h Q) ?_ (fun e h H => ?_)
    rotate_left
    · unfold s_Levels.j2 at H
      refine WPc_seq' ?_
      refine W_region (by kernel_rfl) ?_
      refine vl_n ?_
      refine H_of_R (R_fld TF_25_1 H fun t23 H => ?_)
      refine vl_n ?_
      refine H_of_R (R_load1 T1_23 H fun _ t24 _ _ H => ?_)
      refine vl_n ?_
      refine H_of_R (R_idx TE_23 H fun t25 H => ?_)
      refine vl_n ?_
      refine H_of_R (R_loadN TN_25 H fun _ t26 _ _ H _ _ => ?_)
      refine vl_n ?_
      refine H_call HB_69 H fun t27 h H => ?_
      refine vl_n ?_
      refine H_of_R (R_move (v := t27) rfl ?_)
      refine vl_n ?_
      refine H_of_R (R_ext H fun t28 H => ?_)
      refine vl_n ?_
      refine H_of_R (R_ext H fun t29 H => ?_)
      refine vl_n ?_
      refine H_of_R (R_assign (v := t28) rfl ?_)
      refine vl_n ?_
      refine H_of_R (R_assign (v := t29) rfl ?_)
      refine vl_e ?_
      refine WPc_seq (fun e h => s_Levels.j3 (e 4) (e 5) h Q) ?_ (fun e h H => ?_)
      rotate_left
      · unfold s_Levels.j3 at H
        refine WPc_seq' ?_
        refine W_region (by kernel_rfl) ?_
        refine vl_n ?_
        refine H_of_R (R_move (v := (e 4)) rfl ?_)
        refine vl_n ?_
        refine H_of_R (R_add H fun t54 H => ?_)
        refine vl_n ?_
        refine H_of_R (R_move (v := (e 5)) rfl ?_)
        refine vl_n ?_
        refine H_of_R (R_assign (v := t54) rfl ?_)
        refine vl_n ?_
        refine H_of_R (R_assign (v := (e 5)) rfl ?_)
        refine vl_e ?_
        refine WPc_ret ?_
        refine resH_of rfl ?_
        exact H
      refine WPc_seq' ?_
      refine W_region (by kernel_rfl) ?_
      refine vl_n ?_
      refine H_of_R (R_fld TF_25_1 H fun t30 H => ?_)
      refine vl_n ?_
      refine H_of_R (R_load1 T1_23 H fun _ t31 _ _ H => ?_)
      refine vl_n ?_
      refine H_of_R (R_slice TE_23 (by decide) H fun t32 H => ?_)
      refine vl_n ?_
      refine H_of_R (R_len Try.underlying23 H fun t33 H => ?_)
      refine vl_n ?_
      refine H_of_R (R_move (v := (.int .i64 0)) rfl ?_)
      refine vl_e ?_
      refine WPc_block ?_
      refine loop_at (fun e => [e 5, e 34]) (fun e => [e 4, e 32, e 33]) H rfl rfl ?_
      intro K1 e1 h H hin1
      replace H : s_Levels.l4.b (e1 4) (e1 32) (e1 33) (e1 5) (e1 34) h K1 Q := H
      unfold s_Levels.l4.b at H
      clear hin1
      refine WPc_seq' ?_
      refine W_region (by kernel_rfl) ?_
      refine vl_n ?_
      refine H_of_R (R_lss H fun t35 H => ?_)
      refine vl_e ?_
      refine WPc_seq (fun e h => s_Levels.j5 (e 4) (e 5) (e 32) (e 33) (e 34) h K1 Q ∧ [e1 4, e1 32, e1 33] = [e 4, e 32, e 33]) ?_ (fun e h ⟨H, hq1⟩ => ?_)
      rotate_left
      · unfold s_Levels.j5 at H
        refine WPc_seq (fun e h => s_Levels.j6 (e 4) (e 5) (e 32) (e 33) (e 34) h K1 Q ∧ [e1 4, e1 32, e1 33] = [e 4, e 32, e 33]) ?_ (fun e h ⟨H, hq1⟩ => ?_)
        rotate_left
        · unfold s_Levels.j6 at H
          refine W_region (by kernel_rfl) ?_
          refine vl_n ?_
          refine H_of_R (R_add H fun t52 H => ?_)
          refine vl_n ?_
          refine H_of_R (R_move (v := t52) rfl ?_)
          refine vl_e ?_
          exact ⟨H, hq1⟩
        refine WPc_block ?_
        refine WPc_seq' ?_
        refine W_region (by kernel_rfl) ?_
        refine vl_n ?_
        refine H_of_R (R_idx TE_23 H fun t36 H => ?_)
        refine vl_n ?_
        refine H_of_R (R_loadN TN_25 H fun _ t37 _ _ H _ _ => ?_)
        refine vl_n ?_
        refine H_alloc TV_25 H fun t7 h H => ?_
        refine vl_n ?_
        refine H_storeN TS_25 H fun h H => ?_
        refine vl_e ?_
        refine WPc_seq' ?_
        refine W_region (by kernel_rfl) ?_
        refine vl_n ?_
        refine H_of_R (R_loadN TN_25 H fun _ t39 _ _ H _ _ => ?_)
        refine vl_n ?_
        refine H_call HB_69 H fun t40 h H => ?_
        refine vl_n ?_
        refine H_of_R (R_move (v := t40) rfl ?_)
        refine vl_n ?_
        refine H_of_R (R_ext H fun t41 H => ?_)
        refine vl_n ?_
        refine H_of_R (R_ext H fun t42 H => ?_)
        refine vl_n ?_
        refine H_of_R (R_assign (v := t41) rfl ?_)
        refine vl_n ?_
        refine H_of_R (R_assign (v := t42) rfl ?_)
        refine vl_e ?_
        refine W_region (by kernel_rfl) ?_
        refine vl_n ?_
        refine H_of_R (R_move (v := (e 5)) rfl ?_)
        refine vl_n ?_
        refine H_of_R (R_move (v := (e 5)) rfl ?_)
        obtain ⟨b, hb, H1, H2⟩ := H
        cases b
        · have H := H2 rfl; clear H1 H2
          refine vl_s rfl (nbT hb) ?_
          refine vl_n ?_
          refine H_of_R (R_pickC (v := (.bool false)) false hb rfl ?_)
          refine vl_n ?_
          refine H_of_R (R_move (v := (.bool false)) rfl ?_)
          refine vl_s rfl (nbT rfl) ?_
          refine vl_s rfl (nbT rfl) ?_
          refine vl_s rfl (nbT rfl) ?_
          refine vl_n ?_
          refine H_of_R (R_pickC (v := (.bool false)) false rfl rfl ?_)
          refine vl_n ?_
          refine H_of_R (R_assign (v := (.bool false)) rfl ?_)
          refine vl_e ?_
          exact ⟨H, hq1⟩
        · have H := H1 rfl; clear H1 H2
          refine vl_y rfl hb ?_
          refine H_of_R (R_move (v := t42) rfl ?_)
          refine vl_n ?_
          refine H_of_R (R_pickC (v := t42) true hb rfl ?_)
          refine vl_n ?_
          refine H_of_R (R_move (v := t42) rfl ?_)
          obtain ⟨b_2, hb_2, H1, H2⟩ := H
          cases b_2
          · have H := H2 rfl; clear H1 H2
            refine vl_s rfl (nbT hb_2) ?_
            refine vl_s rfl (nbT hb_2) ?_
            refine vl_s rfl (nbT hb_2) ?_
            refine vl_n ?_
            refine H_of_R (R_pickC (v := (.bool false)) false hb_2 rfl ?_)
            refine vl_n ?_
            refine H_of_R (R_assign (v := (.bool false)) rfl ?_)
            refine vl_e ?_
            exact ⟨H, hq1⟩
          · have H := H1 rfl; clear H1 H2
            refine vl_y rfl hb_2 ?_
            refine H_of_R (R_move (v := t41) rfl ?_)
            refine vl_y rfl hb_2 ?_
            refine H_of_R (R_move (v := (e 4)) rfl ?_)
            refine vl_y rfl hb_2 ?_
            refine H_of_R (R_eqI H fun t50 H => ?_)
            refine vl_n ?_
            refine H_of_R (R_pickC (v := t50) true hb_2 rfl ?_)
            refine vl_n ?_
            refine H_of_R (R_assign (v := t50) rfl ?_)
            refine vl_e ?_
            exact ⟨H, hq1⟩
      obtain ⟨b, hc, H1, H2⟩ := H
      refine WPc_cond hc (fun hh => ?_) (fun hh => ?_)
      · have H := H1 hh; clear H1 H2
        refine WPc_skip ?_
        exact ⟨H, rfl⟩
      · have H := H2 hh; clear H1 H2
        refine WPc_exit ?_
        exact H
    refine WPc_seq' ?_
    refine W_region (by kernel_rfl) ?_
    refine vl_n ?_
    refine H_of_R (R_fld TF_25_1 H fun t14 H => ?_)
    refine vl_n ?_
    refine H_of_R (R_load1 T1_23 H fun _ t15 _ _ H => ?_)
    refine vl_n ?_
    refine H_of_R (R_len Try.underlying23 H fun t16 H => ?_)
    refine vl_n ?_
    refine H_of_R (R_fld TF_25_0 H fun t17 H => ?_)
    refine vl_n ?_
    refine H_of_R (R_load1 T1_22 H fun _ t18 _ _ H => ?_)
    refine vl_n ?_
    refine H_of_R (R_len Try.underlying22 H fun t19 H => ?_)
    refine vl_n ?_
    refine H_of_R (R_add H fun t20 H => ?_)
    refine vl_n ?_
    refine H_of_R (R_neI H fun t21 H => ?_)
    refine vl_e ?_
    obtain ⟨b, hc, H1, H2⟩ := H
    refine WPc_cond hc (fun hh => ?_) (fun hh => ?_)
    · have H := H1 hh; clear H1 H2
      refine WPc_seq' ?_
      refine W_region (by kernel_rfl) ?_
      refine vl_n ?_
      refine H_of_R (R_assign (v := (.int .i64 0)) rfl ?_)
      refine vl_n ?_
      refine H_of_R (R_assign (v := (.bool false)) rfl ?_)
      refine vl_e ?_
      refine WPc_ret ?_
      refine resH_of rfl ?_
      exact H
    · have H := H2 hh; clear H1 H2
      refine WPc_skip ?_
      exact H
  refine WPc_seq' ?_
  refine W_region (by kernel_rfl) ?_
  refine vl_n ?_
  refine H_of_R (R_fld TF_25_1 H fun t10 H => ?_)
  refine vl_n ?_
  refine H_of_R (R_load1 T1_23 H fun _ t11 _ _ H => ?_)
  refine vl_n ?_
  refine H_of_R (R_len Try.underlying23 H fun t12 H => ?_)
  refine vl_n ?_
  refine H_of_R (R_eqI H fun t13 H => ?_)
  refine vl_e ?_
  obtain ⟨b, hc, H1, H2⟩ := H
  refine WPc_cond hc (fun hh => ?_) (fun hh => ?_)
  · have H := H1 hh; clear H1 H2
    refine WPc_seq' ?_
    refine W_region (by kernel_rfl) ?_
    refine vl_n ?_
    refine H_of_R (R_assign (v := (.int .i64 1)) rfl ?_)
    refine vl_n ?_
    refine H_of_R (R_assign (v := (.bool true)) rfl ?_)
    refine vl_e ?_
    refine WPc_ret ?_
    refine resH_of rfl ?_
    exact H
  · have H := H2 hh; clear H1 H2
    refine WPc_skip ?_
    exact H
/-! ### spec.Filled -/
def s_Filled.j2 (h : Heap) (Q : Value → Heap → Prop) : Prop :=
    Q (.bool true) h
def s_Filled.j5 (s0 : Value) (s24 : Value) (s25 : Value) (s26 : Value) (h : Heap) (K1 : List Value → Heap → Prop) (Q : Value → Heap → Prop) : Prop :=
    arith (· + ·) s26 (.int .i64 1) fun t36 =>
    K1 [t36] h
def s_Filled.j4 (s0 : Value) (s24 : Value) (s25 : Value) (s26 : Value) (h : Heap) (K1 : List Value → Heap → Prop) (Q : Value → Heap → Prop) : Prop :=
    idx 3 s24 s26 fun t28 =>
    loadN 3 t28 h fun t29 =>
    alloc [(.slice none 0 0), (.slice none 0 0), (.int .i64 0)] 25 h fun t8 h =>
    storeN 3 t8 t29 h fun h =>
    arith (· - ·) s0 (.int .i64 1) fun t32 =>
    loadN 3 t8 h fun t33 =>
    s_Filled.call #[s0, t32, t33] h fun t34 h =>
    notV t34 fun t35 =>
    ifV t35
    (Q (.bool false) h)
    (s_Filled.j5 s0 s24 s25 s26 h K1 Q)
def s_Filled.l3.b (c0 : Value) (c24 : Value) (c25 : Value) (s26 : Value) (h : Heap) (K1 : List Value → Heap → Prop) (Q : Value → Heap → Prop) : Prop :=
    cmpI (fun a b => decide (a < b)) s26 c25 fun t27 =>
    ifV t27
    (s_Filled.j4 c0 c24 c25 s26 h K1 Q)
    (s_Filled.j2 h Q)
def s_Filled.j1 (s0 : Value) (s5 : Value) (h : Heap) (Q : Value → Heap → Prop) : Prop :=
    fld 1 s5 fun t23 =>
    load1 t23 h fun t24 =>
    lenV t24 fun t25 =>
    loopC (fun c s h K1 => s_Filled.l3.b (c.getD 0 undef) (c.getD 1 undef) (c.getD 2 undef) (s.getD 0 undef) h K1 Q) [s0, t24, t25] [(.int .i64 0)] h
def s_Filled.sh (a0 : Value) (a1 : Value) (a2 : Value) (h : Heap) (Q : Value → Heap → Prop) : Prop :=
    box 25 a2 h fun t5 h =>
    fld 0 t5 fun t9 =>
    load1 t9 h fun t10 =>
    lenV t10 fun t11 =>
    cmpI (fun a b => decide (a < b)) t11 a1 fun t13 =>
    br t13 false (fld 0 t5 fun t15 =>
    load1 t15 h fun t16 =>
    lenV t16 fun t17 =>
    arith (· * ·) (.int .i64 2) a0 fun t19 =>
    arith (· - ·) t19 (.int .i64 1) fun t20 =>
    cmpI (fun a b => decide (a > b)) t17 t20 fun t21 =>
    ifV t21
    (Q (.bool false) h)
    (s_Filled.j1 a0 t5 h Q)) (Q (.bool false) h)
theorem s_Filled.body (a0 : Value) (a1 : Value) (a2 : Value) (h : Heap) (Q : Value → Heap → Prop) (H : s_Filled.sh a0 a1 a2 h Q) : s_Filled.call #[a0, a1, a2] h Q := by
  refine callsH_of (args := [a0, a1, a2]) Try.func105 rfl rfl ?_
  unfold s_Filled.sh at H
  refine WPc_seq' ?_
  refine W_region (by kernel_rfl) ?_
  refine vl_n ?_
  refine H_box H fun t5 h H => ?_
  refine vl_n ?_
  refine H_of_R (R_assign (v := (.bool false)) rfl ?_)
  refine vl_e ?_
  refine WPc_seq (fun e h => s_Filled.j1 (e 0) (e 5) h Q) ?_ (fun e h H => ?_)
  rotate_left
  · unfold s_Filled.j1 at H
    refine WPc_seq (fun e h => s_Filled.j2 h Q) ?_ (fun e h H => ?_)
    rotate_left
    · unfold s_Filled.j2 at H
      refine WPc_seq' ?_
      refine W_region (by kernel_rfl) ?_
      refine vl_n ?_
      refine H_of_R (R_assign (v := (.bool true)) rfl ?_)
      refine vl_e ?_
      refine WPc_ret ?_
      refine resH_of rfl ?_
      exact H
    refine WPc_seq' ?_
    refine W_region (by kernel_rfl) ?_
    refine vl_n ?_
    refine H_of_R (R_fld TF_25_1 H fun t23 H => ?_)
    refine vl_n ?_
    refine H_of_R (R_load1 T1_23 H fun _ t24 _ _ H => ?_)
    refine vl_n ?_
    refine H_of_R (R_len Try.underlying23 H fun t25 H => ?_)
    refine vl_n ?_
    refine H_of_R (R_move (v := (.int .i64 0)) rfl ?_)
    refine vl_e ?_
    refine WPc_block ?_
    refine loop_at (fun e => [e 26]) (fun e => [e 0, e 24, e 25]) H rfl rfl ?_
    intro K1 e1 h H hin1
    replace H : s_Filled.l3.b (e1 0) (e1 24) (e1 25) (e1 26) h K1 Q := H
    unfold s_Filled.l3.b at H
    clear hin1
    refine WPc_seq' ?_
    refine W_region (by kernel_rfl) ?_
    refine vl_n ?_
    refine H_of_R (R_lss H fun t27 H => ?_)
    refine vl_e ?_
    refine WPc_seq (fun e h => s_Filled.j4 (e 0) (e 24) (e 25) (e 26) h K1 Q ∧ [e1 0, e1 24, e1 25] = [e 0, e 24, e 25]) ?_ (fun e h ⟨H, hq1⟩ => ?_)
    rotate_left
    · unfold s_Filled.j4 at H
      refine WPc_seq (fun e h => s_Filled.j5 (e 0) (e 24) (e 25) (e 26) h K1 Q ∧ [e1 0, e1 24, e1 25] = [e 0, e 24, e 25]) ?_ (fun e h ⟨H, hq1⟩ => ?_)
      rotate_left
      · unfold s_Filled.j5 at H
        refine W_region (by kernel_rfl) ?_
        refine vl_n ?_
        refine H_of_R (R_add H fun t36 H => ?_)
        refine vl_n ?_
        refine H_of_R (R_move (v := t36) rfl ?_)
        refine vl_e ?_
        exact ⟨H, hq1⟩
      refine WPc_block ?_
      refine WPc_seq' ?_
      refine W_region (by kernel_rfl) ?_
      refine vl_n ?_
      refine H_of_R (R_idx TE_23 H fun t28 H => ?_)
      refine vl_n ?_
      refine H_of_R (R_loadN TN_25 H fun _ t29 _ _ H _ _ => ?_)
      refine vl_n ?_
      refine H_alloc TV_25 H fun t8 h H => ?_
      refine vl_n ?_
      refine H_storeN TS_25 H fun h H => ?_
      refine vl_e ?_
      refine WPc_seq' ?_
      refine W_region (by kernel_rfl) ?_
      refine vl_n ?_
      refine H_of_R (R_move (v := (e 0)) rfl ?_)
      refine vl_n ?_
      refine H_of_R (R_move (v := (e 0)) rfl ?_)
      refine vl_n ?_
      refine H_of_R (R_sub H fun t32 H => ?_)
      refine vl_n ?_
      refine H_of_R (R_loadN TN_25 H fun _ t33 _ _ H _ _ => ?_)
      refine vl_n ?_
      refine H_call HB_105 H fun t34 h H => ?_
      refine vl_n ?_
      refine H_of_R (R_not H fun t35 H => ?_)
      refine vl_e ?_
      obtain ⟨b, hc, H1, H2⟩ := H
      refine WPc_cond hc (fun hh => ?_) (fun hh => ?_)
      · have H := H1 hh; clear H1 H2
        refine WPc_seq' ?_
        refine W_region (by kernel_rfl) ?_
        refine vl_n ?_
        refine H_of_R (R_assign (v := (.bool false)) rfl ?_)
        refine vl_e ?_
        refine WPc_ret ?_
        refine resH_of rfl ?_
        exact H
      · have H := H2 hh; clear H1 H2
        refine WPc_skip ?_
        exact ⟨H, hq1⟩
    obtain ⟨b, hc, H1, H2⟩ := H
    refine WPc_cond hc (fun hh => ?_) (fun hh => ?_)
    · have H := H1 hh; clear H1 H2
      refine WPc_skip ?_
      exact ⟨H, rfl⟩
    · have H := H2 hh; clear H1 H2
      refine WPc_exit ?_
      exact H
  refine WPc_seq' ?_
  refine W_region (by kernel_rfl) ?_
  refine vl_n ?_
  refine H_of_R (R_fld TF_25_0 H fun t9 H => ?_)
  refine vl_n ?_
  refine H_of_R (R_load1 T1_22 H fun _ t10 _ _ H => ?_)
  refine vl_n ?_
  refine H_of_R (R_len Try.underlying22 H fun t11 H => ?_)
  refine vl_n ?_
  refine H_of_R (R_move (v := a1) rfl ?_)
  refine vl_n ?_
  refine H_of_R (R_lss H fun t13 H => ?_)
  refine vl_n ?_
  refine H_of_R (R_move (v := t13) rfl ?_)
  obtain ⟨b, hb, H1, H2⟩ := H
  cases b
  · have H := H1 rfl; clear H1 H2
    refine vl_y rfl hb ?_
    refine H_of_R (R_fld TF_25_0 H fun t15 H => ?_)
    refine vl_y rfl hb ?_
    refine H_of_R (R_load1 T1_22 H fun _ t16 _ _ H => ?_)
    refine vl_y rfl hb ?_
    refine H_of_R (R_len Try.underlying22 H fun t17 H => ?_)
    refine vl_y rfl hb ?_
    refine H_of_R (R_move (v := a0) rfl ?_)
    refine vl_y rfl hb ?_
    refine H_of_R (R_mul H fun t19 H => ?_)
    refine vl_y rfl hb ?_
    refine H_of_R (R_sub H fun t20 H => ?_)
    refine vl_y rfl hb ?_
    refine H_of_R (R_gtr H fun t21 H => ?_)
    refine vl_n ?_
    refine H_of_R (R_pickC (v := t21) false hb rfl ?_)
    refine vl_e ?_
    obtain ⟨b_2, hc, H1, H2⟩ := H
    refine WPc_cond hc (fun hh => ?_) (fun hh => ?_)
    · have H := H1 hh; clear H1 H2
      refine WPc_seq' ?_
      refine W_region (by kernel_rfl) ?_
      refine vl_n ?_
      refine H_of_R (R_assign (v := (.bool false)) rfl ?_)
      refine vl_e ?_
      refine WPc_ret ?_
      refine resH_of rfl ?_
      exact H
    · have H := H2 hh; clear H1 H2
      refine WPc_skip ?_
      exact H
  · have H := H2 rfl; clear H1 H2
    refine vl_s rfl (nbF hb) ?_
    refine vl_s rfl (nbF hb) ?_
    refine vl_s rfl (nbF hb) ?_
    refine vl_s rfl (nbF hb) ?_
    refine vl_s rfl (nbF hb) ?_
    refine vl_s rfl (nbF hb) ?_
    refine vl_s rfl (nbF hb) ?_
    refine vl_n ?_
    refine H_of_R (R_pickC (v := (.bool true)) true hb rfl ?_)
    refine vl_e ?_
    refine WPc_cond (t := true) rfl (fun _ => ?_) (fun hh => by cases hh)
    refine WPc_seq' ?_
    refine W_region (by kernel_rfl) ?_
    refine vl_n ?_
    refine H_of_R (R_assign (v := (.bool false)) rfl ?_)
    refine vl_e ?_
    refine WPc_ret ?_
    refine resH_of rfl ?_
    exact H

end Go.Proofs.Ytlihjljdndbpdaa
end
section
namespace Go.Proofs.Ytlihjljdndbpdaa
open Go.Hp
set_option maxRecDepth 100000
set_option maxHeartbeats 8000000
set_option linter.unusedVariables false
set_option linter.unusedSimpArgs false

/-! ### spec.Place -/
def s_Place.j1 (s0 : Value) (s1 : Value) (s5 : Value) (s8 : Value) (h : Heap) (Q : Value → Heap → Prop) : Prop :=
    lenV s1 fun t27 =>
    cmpI (fun a b => decide (a < b)) s8 t27 fun t28 =>
    br t28 true (loadN 2 s5 h fun t31 =>
    idx 2 s1 s8 fun t34 =>
    loadN 2 t34 h fun t35 =>
    s_Before.call #[s0, t31, t35] h fun t36 h =>
    notV t36 fun t37 =>
    Q (.tuple #[s8, t37]) h) (Q (.tuple #[s8, (.bool false)]) h)
def s_Place.j3 (s0 : Value) (s1 : Value) (s5 : Value) (s8 : Value) (h : Heap) (K1 : List Value → Heap → Prop) (Q : Value → Heap → Prop) : Prop :=
    arith (· + ·) s8 (.int .i64 1) fun t23 =>
    K1 [t23] h
def s_Place.l2.b (c0 : Value) (c1 : Value) (c5 : Value) (s8 : Value) (h : Heap) (K1 : List Value → Heap → Prop) (Q : Value → Heap → Prop) : Prop :=
    lenV c1 fun t11 =>
    cmpI (fun a b => decide (a < b)) s8 t11 fun t12 =>
    br t12 true (idx 2 c1 s8 fun t17 =>
    loadN 2 t17 h fun t18 =>
    loadN 2 c5 h fun t19 =>
    s_Before.call #[c0, t18, t19] h fun t20 h =>
    ifV t20
    (s_Place.j3 c0 c1 c5 s8 h K1 Q)
    (s_Place.j1 c0 c1 c5 s8 h Q)) (s_Place.j1 c0 c1 c5 s8 h Q)
def s_Place.sh (a0 : Value) (a1 : Value) (a2 : Value) (h : Heap) (Q : Value → Heap → Prop) : Prop :=
    box 27 a2 h fun t5 h =>
    loopC (fun c s h K1 => s_Place.l2.b (c.getD 0 undef) (c.getD 1 undef) (c.getD 2 undef) (s.getD 0 undef) h K1 Q) [a0, a1, t5] [(.int .i64 0)] h
theorem s_Place.body (a0 : Value) (a1 : Value) (a2 : Value) (h : Heap) (Q : Value → Heap → Prop) (H : s_Place.sh a0 a1 a2 h Q) : s_Place.call #[a0, a1, a2] h Q := by
  refine callsH_of (args := [a0, a1, a2]) Try.func67 rfl rfl ?_
  unfold s_Place.sh at H
  refine WPc_seq' ?_
  refine W_region (by kernel_rfl) ?_
  refine vl_n ?_
  refine H_box H fun t5 h H => ?_
  refine vl_n ?_
  refine H_of_R (R_assign (v := (.int .i64 0)) rfl ?_)
  refine vl_n ?_
  refine H_of_R (R_assign (v := (.bool false)) rfl ?_)
  refine vl_e ?_
  refine WPc_seq' ?_
  refine W_region (by kernel_rfl) ?_
  refine vl_n ?_
  refine H_of_R (R_assign (v := (.int .i64 0)) rfl ?_)
  refine vl_e ?_
  refine WPc_seq (fun e h => s_Place.j1 (e 0) (e 1) (e 5) (e 8) h Q) ?_ (fun e h H => ?_)
  rotate_left
  · unfold s_Place.j1 at H
    refine WPc_seq' ?_
    refine W_drawn [0, 0, 0, 4, 14, 30, 62, 62, 62, 62, 830, 1854, 4094, 8190, 16382, 8191, 65535] (.take 0 (.take 1 (.take 2 (.take 3 (.take 4 (.take 5 (.take 6 (.take 7 (.take 8 (.take 9 (.take 10 (.take 11 (.alt 12 (.take 13 (.take 14 (.take 15 (.take 16 .done)))) .none))))))))))))) mixed (by kernel_rfl) ?_
    refine tkP rfl ?_
    refine R_move (v := (e 8)) rfl ⟨fun _ => trivial, ?_⟩
    refine tkP rfl ?_
    refine R_move (v := (e 8)) rfl ⟨fun _ => trivial, ?_⟩
    refine tkP rfl ?_
    refine R_move (v := (e 1)) rfl ⟨fun _ => trivial, ?_⟩
    refine tkP rfl ?_
    refine R_len Try.underlying22 H fun t27 H => ⟨fun _ => trivial, ?_⟩
    refine tkP rfl ?_
    refine R_lss H fun t28 H => ⟨fun _ => trivial, ?_⟩
    refine tkP rfl ?_
    refine R_move (v := t28) rfl ⟨fun _ => trivial, ?_⟩
    obtain ⟨b, hb, H1, H2⟩ := H
    cases b
    · have H := H2 rfl; clear H1 H2
      refine tk_s rfl rfl (nbT hb) ?_
      refine tk_s rfl rfl (nbT hb) ?_
      refine tk_s rfl rfl (nbT hb) ?_
      refine tk_s rfl rfl (nbT hb) ?_
      refine tk_s rfl rfl (nbT hb) ?_
      refine tk_s rfl rfl (nbT hb) ?_
      refine alt_s rfl rfl (nbT hb) ?_ vp_none
      refine tk_s rfl rfl (nbT hb) ?_
      refine tkP rfl ?_
      refine R_pickC (v := (.bool false)) false hb rfl ⟨fun _ => trivial, ?_⟩
      refine tkP rfl ?_
      refine R_assign (v := (e 8)) rfl ⟨fun _ => trivial, ?_⟩
      refine tkP rfl ?_
      refine R_assign (v := (.bool false)) rfl ⟨fun _ => trivial, ?_⟩
      refine vp_done ?_
      refine WPc_ret ?_
      refine resH_of rfl ?_
      exact H
    · have H := H1 rfl; clear H1 H2
      refine tkPy rfl rfl hb ?_
      refine R_move (v := (e 0)) rfl ⟨fun _ => trivial, ?_⟩
      refine tkLy rfl rfl hb ?_
      refine R_loadN TN_27 H fun at31 xt31 hat31 _ H St31 hSt31 => ?_
      refine tkPy rfl rfl hb ?_
      refine R_move (v := (e 1)) rfl ⟨fun _ => trivial, ?_⟩
      refine tkPy rfl rfl hb ?_
      refine R_move (v := (e 8)) rfl ⟨fun _ => trivial, ?_⟩
      refine tkPy rfl rfl hb ?_
      refine R_idx TE_22 H fun t34 H => ⟨fun _ => trivial, ?_⟩
      refine tkLy rfl rfl hb ?_
      refine R_loadN TN_27 H fun at35 xt35 hat35 _ H St35 hSt35 => ?_
      refine alt_y rfl rfl hb ?_ vp_none
      refine H_call HB_124 H fun t36 h H => ⟨(hskip rfl (hskip rfl hnil)), ?_⟩
      refine tkPy rfl rfl hb ?_
      refine R_not H fun t37 H => ⟨fun _ => trivial, ?_⟩
      refine tkP rfl ?_
      refine R_pickC (v := t37) true hb rfl ⟨fun _ => trivial, ?_⟩
      refine tkP rfl ?_
      refine R_assign (v := (e 8)) rfl ⟨fun _ => trivial, ?_⟩
      refine tkP rfl ?_
      refine R_assign (v := t37) rfl ⟨fun _ => trivial, ?_⟩
      refine vp_done ?_
      refine WPc_ret ?_
      refine resH_of rfl ?_
      exact H
  refine WPc_block ?_
  refine loop_at (fun e => [e 8]) (fun e => [e 0, e 1, e 5]) H rfl rfl ?_
  intro K1 e1 h H hin1
  replace H : s_Place.l2.b (e1 0) (e1 1) (e1 5) (e1 8) h K1 Q := H
  unfold s_Place.l2.b at H
  clear hin1
  refine WPc_seq (fun e h => s_Place.j3 (e 0) (e 1) (e 5) (e 8) h K1 Q ∧ [e1 0, e1 1, e1 5] = [e 0, e 1, e 5]) ?_ (fun e h ⟨H, hq1⟩ => ?_)
  rotate_left
  · unfold s_Place.j3 at H
    refine WPc_block ?_
    refine W_region (by kernel_rfl) ?_
    refine vl_n ?_
    refine H_of_R (R_move (v := (e 8)) rfl ?_)
    refine vl_n ?_
    refine H_of_R (R_add H fun t23 H => ?_)
    refine vl_n ?_
    refine H_of_R (R_assign (v := t23) rfl ?_)
    refine vl_e ?_
    exact ⟨H, hq1⟩
  refine WPc_seq' ?_
  refine W_drawn [0, 0, 2, 7, 15, 31, 31, 31, 223, 479, 31, 2047, 4095] (.take 0 (.take 1 (.take 2 (.take 3 (.take 4 (.take 5 (.take 6 (.take 7 (.take 8 (.take 9 (.take 10 (.alt 11 (.take 12 .done) .none)))))))))))) mixed (by kernel_rfl) ?_
  refine tkP rfl ?_
  refine R_move (v := (e1 8)) rfl ⟨fun _ => trivial, ?_⟩
  refine tkP rfl ?_
  refine R_move (v := (e1 1)) rfl ⟨fun _ => trivial, ?_⟩
  refine tkP rfl ?_
  refine R_len Try.underlying22 H fun t11 H => ⟨fun _ => trivial, ?_⟩
  refine tkP rfl ?_
  refine R_lss H fun t12 H => ⟨fun _ => trivial, ?_⟩
  refine tkP rfl ?_
  refine R_move (v := t12) rfl ⟨fun _ => trivial, ?_⟩
  obtain ⟨b, hb, H1, H2⟩ := H
  cases b
  · have H := H2 rfl; clear H1 H2
    refine tk_s rfl rfl (nbT hb) ?_
    refine tk_s rfl rfl (nbT hb) ?_
    refine tk_s rfl rfl (nbT hb) ?_
    refine tk_s rfl rfl (nbT hb) ?_
    refine tk_s rfl rfl (nbT hb) ?_
    refine tk_s rfl rfl (nbT hb) ?_
    refine alt_s rfl rfl (nbT hb) ?_ vp_none
    refine tkP rfl ?_
    refine R_pickC (v := (.bool false)) false hb rfl ⟨fun _ => trivial, ?_⟩
    refine vp_done ?_
    refine WPc_cond (t := false) rfl (fun hh => by cases hh) (fun _ => ?_)
    refine WPc_exit ?_
    exact H
  · have H := H1 rfl; clear H1 H2
    refine tkPy rfl rfl hb ?_
    refine R_move (v := (e1 0)) rfl ⟨fun _ => trivial, ?_⟩
    refine tkPy rfl rfl hb ?_
    refine R_move (v := (e1 1)) rfl ⟨fun _ => trivial, ?_⟩
    refine tkPy rfl rfl hb ?_
    refine R_move (v := (e1 8)) rfl ⟨fun _ => trivial, ?_⟩
    refine tkPy rfl rfl hb ?_
    refine R_idx TE_22 H fun t17 H => ⟨fun _ => trivial, ?_⟩
    refine tkLy rfl rfl hb ?_
    refine R_loadN TN_27 H fun at18 xt18 hat18 _ H St18 hSt18 => ?_
    refine tkLy rfl rfl hb ?_
    refine R_loadN TN_27 H fun at19 xt19 hat19 _ H St19 hSt19 => ?_
    refine alt_y rfl rfl hb ?_ vp_none
    refine H_call HB_124 H fun t20 h H => ⟨(hskip rfl (hskip rfl hnil)), ?_⟩
    refine tkP rfl ?_
    refine R_pickC (v := t20) true hb rfl ⟨fun _ => trivial, ?_⟩
    refine vp_done ?_
    obtain ⟨b_2, hc, H1, H2⟩ := H
    refine WPc_cond hc (fun hh => ?_) (fun hh => ?_)
    · have H := H1 hh; clear H1 H2
      refine WPc_skip ?_
      exact ⟨H, rfl⟩
    · have H := H2 hh; clear H1 H2
      refine WPc_exit ?_
      exact H
end Go.Proofs.Ytlihjljdndbpdaa
end
section
namespace Go.Proofs.Ytlihjljdndbpdaa
open Go.Hp
set_option linter.unusedVariables false
set_option linter.unusedSimpArgs false
variable {h0 h : Heap} {Z E : List Rg} {Q : Value → Heap → Prop}

theorem l_fit_ok {d : Int} (H : Q (.bool (decide (2 ≤ d ∧ d ≤ 128))) h) : l_fit.call #[.int .i64 d] h Q := by
  refine l_fit.body _ _ _ ?_
  unfold l_fit.sh
  refine r_cmpI ?_
  refine r_br (fun e => ?_) (fun e => ?_)
  · have e : 0 < d := by simpa using e
    refine s_Fits.body _ _ _ ?_
    unfold s_Fits.sh
    refine r_cmpI ?_
    refine r_br (fun _ => ?_) (fun e => absurd e (by simp; omega))
    refine r_cmpI ?_
    refine r_br (fun e => ?_) (fun e => ?_)
    · refine r_cmpI ?_
      have e : 2 ≤ d := by simpa using e
      simpa [e] using H
    · have e : ¬ 2 ≤ d := by simpa using e
      simpa [e] using H
  · have e : ¬ 2 ≤ d := (by have h : d ≤ 0 := (by simpa using e); omega)
    simpa [e] using H

theorem s_Rank_nil {k : Int} (H : Q (.int .i64 k) h) : s_Rank.call #[.slice none 0 0, .int .i64 k] h Q := by
  refine s_Rank.body _ _ _ _ ?_
  unfold s_Rank.sh
  refine r_len ?_
  refine r_cmpI ?_
  exact r_if (fun _ => H) (fun e => absurd e (by simp))

theorem s_Before_nil {p q : It} (H : ∀ E' h', St h [] E' h' → Q (.bool (decide (p.1 < q.1))) h') : s_Before.call #[.slice none 0 0, .agg (encA p).toArray, .agg (encA q).toArray] h Q := by
  refine s_Before.body _ _ _ _ _ ?_
  unfold s_Before.sh
  have s := St.start h
  refine s.r_box fun t4 h s => ?_
  refine s.r_box fun t5 h s => ?_
  refine r_fld ?_
  refine St.r_load0 s 1 rfl rfl ?_
  refine r_fld ?_
  refine St.r_load0 s 0 rfl rfl ?_
  refine s_Rank_nil ?_
  refine ⟨St.r_still0 s 0 rfl rfl, ?_⟩
  refine s_Rank_nil ?_
  refine r_cmpI ?_
  exact H _ _ s

/-- Keys that ascend strictly. -/
def Asc (l : List It) : Prop := ∀ i (h1 : i + 1 < l.length), l[i].1 < l[i + 1].1
theorem s_Rising_nil {l : List It} {v : Value} (hr : Rdl 2 h v l.length (l.flatMap encA)) (hl : l.length ≤ 4611686018427387903) (H : ∀ (b : Bool) E' h', (b = true ↔ Asc l) → St h [] E' h' → Q (.bool b) h') : s_Rising.call #[.slice none 0 0, v] h Q := by
  refine s_Rising.body _ _ _ _ ?_
  unfold s_Rising.sh
  have s := St.start h
  refine loop_intro (fun t h' => ∃ (j : Nat) (E' : List Rg), t = [.int .i64 ((j + 1 : Nat) : Int)] ∧ (j ≤ l.length) ∧ (∀ i (h1 : i + 1 < l.length), i < j → l[i].1 < l[i + 1].1) ∧ St h [] E' h') (fun t _ => l.length + 1 - (Hp.iv (t.getD 0 undef)).toNat) ⟨0, [], rfl, by omega, fun i h1 h2 => by omega, s⟩ ?_
  rintro t h' ⟨j, E', rfl, hj, hlt, s⟩
  unfold s_Rising.l2.b
  refine (hr.st s).lenV ?_
  refine r_cmpI ?_
  refine r_if (fun e => ?_) (fun e => ?_)
  · have e : j + 1 < l.length := by have := of_decide_eq_true e; simp at this; omega
    unfold s_Rising.j3
    refine r_sub (z := (j : Int)) (by rw [i64w (by omega) (by omega)]; omega) ?_
    refine (hr.st s).at rfl (fun _ => rfl) rfl rfl (show j < l.length by omega) fun b o hb => ?_
    refine hb.loadN rfl ?_
    refine (hr.st s).at rfl (fun _ => rfl) rfl rfl e fun b o hb => ?_
    refine hb.loadN rfl ?_
    refine s_Before_nil fun E2 h s2 => ?_
    have s := s.join s2
    refine r_not ?_
    refine r_if (fun e2 => ?_) (fun e2 => ?_)
    · refine H false _ _ ⟨fun e => (by cases e), fun ha => ?_⟩ s
      have h1 := ha j e
      simp at e2; omega
    · unfold s_Rising.j4
      refine r_add (z := ((j + 1 + 1 : Nat) : Int)) (by rw [i64w (by omega) (by omega)]; omega) ?_
      refine ⟨⟨j + 1, _, rfl, by omega, fun i h1 h2 => ?_, s⟩, by simp; omega⟩
      rcases Nat.lt_or_ge i j with h3 | h3
      · exact hlt i h1 h3
      · have : i = j := by omega
        subst this; simpa using e2
  · have e : ¬ j + 1 < l.length := by have := of_decide_eq_false e; simp at this; omega
    unfold s_Rising.j1
    exact H true _ _ ⟨fun _ i h1 => hlt i h1 (by omega), fun _ => rfl⟩ s

theorem Asc.lt {l : List It} (ha : Asc l) : ∀ i j (h1 : i < j) (h2 : j < l.length), l[i].1 < l[j].1 := fun i j h1 h2 => by
  induction j with
  | zero => omega
  | succ j ih =>
    have := ha j h2
    rcases Nat.lt_or_ge i j with h3 | h3
    · have := ih h3 (by omega); omega
    · have : i = j := by omega
      subst this; exact this
end Go.Proofs.Ytlihjljdndbpdaa
end
section
namespace Go.Hp
open Go.RowKit Go.ChangeShapes Go.WideShapes
set_option linter.unusedVariables false
set_option linter.unusedSimpArgs false

/-- Trees of any shape, of fewer than k levels. -/
def DT : Nat → Type
  | 0 => Empty
  | k + 1 => List (Int × Int) × List (DT k)
def DT.its : {k : Nat} → DT k → List (Int × Int)
  | 0, e => e.elim
  | _ + 1, t => t.1
def DT.bulk : {k : Nat} → DT k → Nat
  | 0, e => e.elim
  | _ + 1, t => 1 + t.1.length + (t.2.map DT.bulk).sum
def DT.items : {k : Nat} → DT k → List (Int × Int)
  | 0, e => e.elim
  | _ + 1, t => inter t.1 (t.2.map DT.items)
/-- The first i kids' items and the first i items, by turns. -/
def pre2 {α : Type} (its : List α) (ks : List (List α)) (i : Nat) : List α := (List.range i).flatMap fun j => ks[j]?.getD [] ++ its[j]?.toList
theorem pre2_succ {α : Type} (its : List α) (ks : List (List α)) (i : Nat) : pre2 its ks (i + 1) = pre2 its ks i ++ (ks[i]?.getD [] ++ its[i]?.toList) := by
  unfold pre2; rw [List.range_succ, List.flatMap_append]; simp
theorem inter_pre2 {α : Type} : ∀ (its : List α) (ks : List (List α)), inter its ks = pre2 its ks (max ks.length its.length)
  | [], [] => by simp [inter, pre2]
  | i :: r, [] => by
    have := inter_pre2 r []
    simp only [inter] at this ⊢
    simp only [pre2, List.length_nil, List.length_cons, Nat.zero_max, List.getElem?_nil, Option.getD_none, List.nil_append] at this ⊢
    rw [List.range_succ_eq_map, List.flatMap_cons, List.flatMap_map]
    simp only [List.getElem?_cons_zero, Option.toList_some, List.getElem?_cons_succ]
    rw [← this]; rfl
  | [], k :: ks => by
    have := inter_pre2 [] ks
    simp only [inter]
    rw [this]
    simp only [pre2, List.length_nil, List.length_cons, Nat.max_zero, List.getElem?_nil, Option.toList_none, List.append_nil]
    rw [List.range_succ_eq_map, List.flatMap_cons, List.flatMap_map]
    simp
  | i :: r, k :: ks => by
    have := inter_pre2 r ks
    simp only [inter]
    rw [this]
    simp only [pre2, List.length_cons, Nat.succ_max_succ]
    rw [List.range_succ_eq_map, List.flatMap_cons, List.flatMap_map]
    simp
theorem pre2_le {α : Type} {its : List α} {ks : List (List α)} {i j : Nat} (h : i ≤ j) : (pre2 its ks i).length ≤ (pre2 its ks j).length := by
  obtain ⟨d, rfl⟩ : ∃ d, j = i + d := ⟨j - i, by omega⟩
  unfold pre2
  rw [List.range_add, List.flatMap_append, List.length_append]; omega
theorem DT.items_le : ∀ {k : Nat} (t : DT k), t.items.length ≤ t.bulk
  | 0, e => e.elim
  | k + 1, t => by
    show (inter t.1 (t.2.map DT.items)).length ≤ 1 + t.1.length + (t.2.map DT.bulk).sum
    rw [inter_length]
    have : ∀ l : List (DT k), ((l.map DT.items).map List.length).sum ≤ (l.map DT.bulk).sum := fun l => by
      induction l with
      | nil => simp
      | cons a r ih => simp only [List.map_cons, List.sum_cons]; have := a.items_le; omega
    have := this t.2
    omega
theorem DT.bulk_pos : ∀ {k : Nat} (t : DT k), 1 ≤ t.bulk
  | 0, e => e.elim
  | k + 1, t => (by show 1 ≤ 1 + _ + _; omega)
theorem DT.kids_le {k : Nat} (t : DT (k + 1)) : 1 + t.1.length + t.2.length ≤ t.bulk := by
  have : ∀ l : List (DT k), l.length ≤ (l.map DT.bulk).sum := fun l => by
    induction l with
    | nil => simp
    | cons a r ih => simp only [List.length_cons, List.map_cons, List.sum_cons]; have := a.bulk_pos; omega
  show _ ≤ 1 + t.1.length + (t.2.map DT.bulk).sum
  have := this t.2
  omega
theorem DT.kid_le {k : Nat} (t : DT (k + 1)) {q : DT k} (hq : q ∈ t.2) : q.bulk + 1 ≤ t.bulk := by
  have : q.bulk ≤ (t.2.map DT.bulk).sum := mem_le_sum (List.mem_map.2 ⟨q, hq, rfl⟩)
  show _ ≤ 1 + t.1.length + (t.2.map DT.bulk).sum
  omega
/-- The levels, and whether all leaves lie equally deep and each node with kids has one kid more than items. -/
def DT.lv : {k : Nat} → DT k → Nat × Bool
  | 0, e => e.elim
  | _ + 1, t => match t.2 with
    | [] => (1, true)
    | q :: qs => if qs.length = t.1.length then ((DT.lv q).1 + 1, (DT.lv q).2 && qs.all fun x => (DT.lv x).2 && (DT.lv x).1 == (DT.lv q).1) else (0, false)
/-- Each node has at most 2 * d - 1 items, the first one at least least, those below at least d - 1. -/
def DT.fl (d : Int) : {k : Nat} → Int → DT k → Bool
  | 0, _, e => e.elim
  | _ + 1, least, t => decide (least ≤ t.1.length) && decide ((t.1.length : Int) ≤ 2 * d - 1) && t.2.all fun q => DT.fl d (d - 1) q
theorem DT.lv_le : ∀ {k : Nat} (t : DT k), t.lv.1 ≤ k
  | 0, e => e.elim
  | k + 1, t => by
    unfold DT.lv
    split
    · exact Nat.le_add_left 1 k
    · rename_i q qs _
      split
      · exact Nat.succ_le_succ q.lv_le
      · exact Nat.zero_le _
/-- A node as data in memory: the slices of its items and of its kids. -/
def ArgD (h : Heap) : {k : Nat} → DT k → Value → Value → Prop
  | 0, e, _, _ => e.elim
  | _ + 1, t, vi, vk => Rdl 2 h vi t.1.length (t.1.flatMap fun p => [.int .i64 p.1, .int .i64 p.2]) ∧ ∃ cs : List (Value × Value × Int), cs.length = t.2.length ∧ Rdl 3 h vk cs.length (cs.flatMap fun c => [c.1, c.2.1, .int .i64 c.2.2]) ∧
      ∀ j (h1 : j < t.2.length) (h2 : j < cs.length), ArgD h t.2[j] cs[j].1 cs[j].2.1
theorem ArgD.fr {h h' : Heap} (f : Fr (fun _ _ => False) h h') : ∀ {k : Nat} {x : DT k} {vi vk : Value}, ArgD h x vi vk → ArgD h' x vi vk
  | 0, e, _, _, _ => e.elim
  | k + 1, _, _, _, ⟨h1, cs, h3, h4, h5⟩ => ⟨h1.fr f (fun _ _ e => e), cs, h3, h4.fr f (fun _ _ e => e), fun j j1 j2 => ArgD.fr f (h5 j j1 j2)⟩
theorem ArgD.one {h : Heap} : ∀ {k : Nat} {x : DT k} {vi vk : Value}, ArgD h x vi vk → one1 vi = true ∧ one1 vk = true
  | 0, e, _, _, _ => e.elim
  | k + 1, _, _, _, ⟨h1, cs, h3, h4, h5⟩ => ⟨h1.one, h4.one⟩

section
variable {H : Type} {enc : TypeId × Value → H} {P : Program}
/-- What the program's types of nodes and items are. -/
structure NodeTy (P : Program) (tn ts tk ti tc : TypeId) (f0 f1 f2 g0 g1 : Field) : Prop where
  un : P.underlying tn = some (.struct #[f0, f1, f2])
  off : f0.offset = 0 ∧ f1.offset = 1 ∧ f2.offset = 2
  typ : f0.type = ts ∧ f1.type = tk ∧ f2.type = tc
  cn : P.cellsOf tn = 3
  c1 : P.cellsOf ts = 1 ∧ P.cellsOf tk = 1 ∧ P.cellsOf tc = 1
  us : P.underlying ts = some (.slice ti)
  uk : P.underlying tk = some (.slice tn)
  uc : P.underlying tc = some (.int .i64)
  ui : P.underlying ti = some (.struct #[g0, g1])
  ci : P.cellsOf ti = 2
  goff : g0.offset = 0 ∧ g1.offset = 1
  gc : P.cellsOf g0.type = 1 ∧ P.cellsOf g1.type = 1
  gu : P.underlying g0.type = some (.int .i64) ∧ P.underlying g1.type = some (.int .i64)

theorem sum_ge_length {α : Type} (f : α → Nat) (hf : ∀ a, 1 ≤ f a) (l : List α) : l.length ≤ (l.map f).sum := by
  induction l with
  | nil => simp
  | cons a r ih => simp only [List.length_cons, List.map_cons, List.sum_cons]; have := hf a; omega

theorem open_node {tn ts tk ti tc : TypeId} {f0 f1 f2 g0 g1 : Field} (N : NodeTy P tn ts tk ti tc f0 f1 f2 g0 g1) {bk : DataW H → Nat} (b1 : ∀ d, 1 ≤ bk d) (ba : ∀ l, bk (.agg l) = (l.map bk).sum + 1) (bs : ∀ e s, bk (.slice e s) = (e.map bk).sum + (s.map bk).sum + 1)
    {W : World} {base : Nat} : ∀ (n fuel : Nat) (cs : List Value) (x : DataW H × List MemPlace), DataW.trod enc P W base (fun _ => true) true fuel tn cs = some x → bk x.1 ≤ n →
      ∃ (t : DT n) (vi vk : Value) (c : Int), cs = [vi, vk, .int .i64 c] ∧ ArgD W.heap t vi vk ∧ t.bulk ≤ bk x.1
  | 0, _, _, x, _, h => absurd h (by have := b1 x.1; omega)
  | n + 1, fuel, cs, x, h, hb => by
    obtain ⟨xs, k, rfl, hx, hcl, hxl, hf⟩ := DataW.trod_struct N.un h
    have e0 := hf 0 f0 rfl
    have e1 := hf 1 f1 rfl
    have e2 := hf 2 f2 rfl
    rw [N.cn] at hcl
    match xs, hxl, cs, hcl with
    | [y0, y1, y2], _, [v0, v1, v2], _ =>
      simp [N.off, N.typ, N.c1] at e0 e1 e2
      obtain ⟨l, vi, hc0, hr, _, hk0⟩ := open_pairsC N.us N.ui N.ci N.goff.1 N.goff.2 N.gc.1 N.gc.2 N.gu.1 N.gu.2 e0
      obtain ⟨c, hc2, _, _⟩ := DataW.trod_int N.uc e2
      simp only [List.cons.injEq, and_true] at hc0 hc2
      subst hc0; subst hc2
      have hbx : bk x.1 = bk y0.1 + bk y1.1 + bk y2.1 + 1 := by
        rw [hx]; simp [ba]; omega
      have hl : l.length ≤ bk y0.1 := by
        rcases hk0 with ⟨rfl, _⟩ | ⟨es, ss, he, hel⟩
        · simp
        · rw [he, bs, ← hel]; have := sum_ge_length bk b1 es; omega
      rcases Go.Deep.open_slice N.uk e1 with ⟨hc, hy⟩ | ⟨a, len, cap, m, n', D, Pl, hc, _, hlc, hm, hmm, hy, hall⟩
      · simp only [List.cons.injEq, and_true] at hc
        subst hc
        refine ⟨(l, []), _, _, c, rfl, ⟨hr, [], rfl, Rdl.nil 3 _, fun j h1 _ => absurd h1 (Nat.not_lt_zero _)⟩, ?_⟩
        show 1 + l.length + 0 ≤ _
        have := b1 y1.1
        omega
      · simp only [List.cons.injEq, and_true] at hc
        subst hc
        have hm' : m = cap := by simpa using hmm
        subst hm'
        rw [N.cn] at hall hy
        have hby : bk y1.1 = (((List.range len).map D).map bk).sum + (((List.range (m - len)).map fun j => D (len + j)).map bk).sum + 1 := by rw [hy]; exact bs _ _
        have hbi : ∀ i, i < len → bk (D i) ≤ n := fun i hi => by
          have : bk (D i) ≤ (((List.range len).map D).map bk).sum := mem_le_sum (List.mem_map.2 ⟨D i, List.mem_map.2 ⟨i, List.mem_range.2 hi, rfl⟩, rfl⟩)
          omega
        have each : ∀ i, i < len → ∃ q : DT n × Value × Value × Int, ArgD W.heap q.1 q.2.1 q.2.2.1 ∧ q.1.bulk ≤ bk (D i) ∧ (∀ j, j < 3 → W.cell? ((a.add (i * 3)).add j) = [q.2.1, q.2.2.1, Value.int .i64 q.2.2.2][j]?) := fun i hi => by
          obtain ⟨cs', g1, g2⟩ := hall i (by omega)
          obtain ⟨t, vi, vk, c, rfl, h3, h4⟩ := open_node N b1 ba bs n n' cs' _ g2 (hbi i hi)
          exact ⟨(t, vi, vk, c), h3, h4, (World.cells?_some g1).2.2⟩
        rcases Nat.eq_zero_or_pos len with hz | hz
        · subst hz
          refine ⟨(l, []), _, _, c, rfl, ⟨hr, [], rfl, ⟨_, _, rfl, rfl, fun e => absurd rfl e, Nat.zero_le _⟩, fun j h1 _ => absurd h1 (Nat.not_lt_zero _)⟩, ?_⟩
          show 1 + l.length + 0 ≤ _
          omega
        obtain ⟨q0, _⟩ := each 0 hz
        haveI : Inhabited (DT n × Value × Value × Int) := ⟨q0⟩
        obtain ⟨q, hq⟩ := Go.Deep.choose_lt each
        refine ⟨(l, (List.range len).map fun i => (q i).1), _, _, c, rfl, ⟨hr, (List.range len).map fun i => (q i).2, by simp, ⟨some a, m, by rw [List.length_map, List.length_range], flat_len (sz := 3) (fun _ => rfl) _, fun hn => ?_, by rw [List.length_map, List.length_range]; exact hlc⟩, fun j h1 h2 => ?_⟩, ?_⟩
        · simp only [List.length_map, List.length_range] at hn
          have h0 := (hq 0 (by omega)).2.2 0 (by omega)
          obtain ⟨b, o, sp⟩ := a
          cases sp with
          | some s =>
            have h1 : W.cell? ⟨b, o, some s⟩ = some (q 0).2.1 := h0
            unfold World.cell? at h1
            split at h1
            · simp only [Option.isSome_some, if_true] at h1; cases h1
            · cases h1
          | none =>
            refine ⟨b, o, rfl, fun j hj => ?_⟩
            rw [flat_len (sz := 3) (fun _ => rfl)] at hj
            simp only [List.length_map, List.length_range] at hj
            have hi : j / 3 < len := by omega
            have hi' : j / 3 < ((List.range len).map fun i => (q i).2).length := by simpa using hi
            have h1 := (hq (j / 3) hi).2.2 (j % 3) (Nat.mod_lt _ (by omega))
            rw [add_mk, add_mk, Nat.add_assoc, show j / 3 * 3 + j % 3 = j by omega] at h1
            have h2 := flat_get (f := fun c : Value × Value × Int => [c.1, c.2.1, .int .i64 c.2.2]) (sz := 3) (fun _ => rfl) _ (j / 3) hi' (j % 3) (Nat.mod_lt _ (by omega))
            rw [show j / 3 * 3 + j % 3 = j by omega] at h2
            rw [h2]
            simp only [List.getElem_map, List.getElem_range]
            exact h1
        · simp only [List.getElem_map, List.getElem_range]
          exact (hq j (by simpa using h1)).1
        · show 1 + l.length + (((List.range len).map fun i => (q i).1).map DT.bulk).sum ≤ _
          have hsum : (((List.range len).map fun i => (q i).1).map DT.bulk).sum ≤ (((List.range len).map D).map bk).sum := by
            rw [List.map_map, List.map_map]
            have : ∀ L : List Nat, (∀ i, i ∈ L → i < len) → (L.map (DT.bulk ∘ fun i => (q i).1)).sum ≤ (L.map (bk ∘ D)).sum := fun L hL => by
              induction L with
              | nil => simp
              | cons i r ih =>
                simp only [List.map_cons, List.sum_cons, Function.comp]
                have h1 := (hq i (hL i (List.mem_cons_self ..))).2.1
                have h2 : (r.map (DT.bulk ∘ fun i => (q i).1)).sum ≤ (r.map (bk ∘ D)).sum := ih fun j hj => hL j (List.mem_cons_of_mem _ hj)
                omega
            exact this _ fun i hi => List.mem_range.1 hi
          omega
end
end Go.Hp
end
section
namespace Go.Proofs.Ytlihjljdndbpdaa
open Go.Hp
set_option linter.unusedVariables false
set_option linter.unusedSimpArgs false
variable {h0 h : Heap} {Z E : List Rg} {Q : Value → Heap → Prop}

theorem one_encA : ∀ (l : List It) (y : Value), y ∈ l.flatMap encA → one1 y = true := fun l y hy => by
  obtain ⟨p, _, hp⟩ := List.mem_flatMap.1 hy
  simp only [List.mem_cons, List.not_mem_nil, or_false] at hp
  rcases hp with rfl | rfl <;> rfl

theorem s_NodeItems_ok : ∀ {k : Nat} (t : DT k) {h : Heap} {vi vk vc : Value} {Q : Value → Heap → Prop}, ArgD h t vi vk → t.bulk ≤ 1073741824 → one1 vc = true →
    (∀ v E' h', St h [] E' h' → Rdl 2 h' v t.items.length (t.items.flatMap encA) → Q v h') → s_NodeItems.call #[.agg #[vi, vk, vc]] h Q
  | 0, e, _, _, _, _, _, _, _, _, _ => e.elim
  | k + 1, t, h, vi, vk, vc, Q, ⟨hr, cs, hcl, hrk, hks⟩, hb, hvc, H => by
    have hbulk : 1 + t.1.length + (t.2.map DT.bulk).sum ≤ 1073741824 := hb
    have hkl : t.2.length ≤ (t.2.map DT.bulk).sum := sum_ge_length DT.bulk (fun a => by
      cases k with
      | zero => exact a.elim
      | succ k => show 1 ≤ 1 + _ + _; omega) t.2
    have hit : t.items = inter t.1 (t.2.map DT.items) := rfl
    have hin := inter_pre2 t.1 (t.2.map DT.items)
    have hil := DT.items_le t
    rw [List.length_map] at hin
    refine s_NodeItems.body _ _ _ ?_
    unfold s_NodeItems.sh
    have s := St.start h
    refine St.r_box (cs := [vi, vk, vc]) s fun b h s => ?_
    refine r_fld ?_
    refine St.r_load0 s 0 rfl rfl ?_
    refine (hrk.st s).lenV ?_
    refine r_fld ?_
    refine St.r_load0 s 0 rfl rfl ?_
    refine (hr.st s).lenV ?_
    have hmax : (if (t.1.length : Int) > (cs.length : Int) then (t.1.length : Int) else (cs.length : Int)) = ((max t.2.length t.1.length : Nat) : Int) := by split <;> omega
    refine ⟨_, _, _, rfl, rfl, ?_⟩
    rw [hmax]
    refine loop_intro (fun l h' => ∃ (j : Nat) (v : Value) (rb ro : Nat) (sp : List Value) (E' : List Rg), j ≤ max t.2.length t.1.length ∧ l = [v, .int .i64 j] ∧ St _ [] ((b, 0, [vi, vk, vc]) :: (rb, ro, (pre2 t.1 (t.2.map DT.items) j).flatMap encA ++ sp) :: E') h' ∧
        Own 2 v (pre2 t.1 (t.2.map DT.items) j).length rb ro ((pre2 t.1 (t.2.map DT.items) j).flatMap encA) sp) (fun l _ => max t.2.length t.1.length - (Hp.iv (l.getD 1 undef)).toNat)
      ⟨0, _, 0, 0, [], [], by omega, rfl, (s.empty 0 0).perm (by simp only [pre2]; ((apply perm_rg; intro f; simp only [List.set_cons_zero, List.set_cons_succ, List.eraseIdx_cons_zero, List.eraseIdx_cons_succ, List.cons_append, List.nil_append, List.map_append, List.map_cons, List.map_nil, List.sum_append, List.sum_cons, List.sum_nil, List.map_flatMap, Nat.add_zero, Nat.zero_add]; ac_rfl))), Own.nil 2 0 0⟩ ?_
    rintro l h ⟨j, v, rb, ro, sp, E', hj, rfl, s, w⟩
    unfold s_NodeItems.l2.b
    refine r_cmpI ?_
    refine r_if (fun hlt => ?_) (fun hge => ?_)
    · have hlt : j < max t.2.length t.1.length := by have := of_decide_eq_true hlt; simp at this; omega
      have hps := pre2_succ t.1 (t.2.map DT.items) j
      have hpl := pre2_le (its := t.1) (ks := t.2.map DT.items) (show j + 1 ≤ max t.2.length t.1.length from hlt)
      rw [← hin, ← hit] at hpl
      have hpl' := congrArg List.length hps
      simp only [List.length_append] at hpl'
      -- behind the kid's items
      have step : ∀ (A : List It), A = pre2 t.1 (t.2.map DT.items) j ++ (t.2.map DT.items)[j]?.getD [] → ∀ (v : Value) (rb ro : Nat) (sp : List Value) (E' : List Rg) (h : Heap), St _ [] ((b, 0, [vi, vk, vc]) :: (rb, ro, A.flatMap encA ++ sp) :: E') h →
          Own 2 v A.length rb ro (A.flatMap encA) sp →
          s_NodeItems.j5 (ptr b 0) v (.int .i64 j) (.int .i64 ((max t.2.length t.1.length : Nat) : Int)) (.int .i64 j) h (fun l' h' => (∃ (j : Nat) (v : Value) (rb ro : Nat) (sp : List Value) (E' : List Rg), j ≤ max t.2.length t.1.length ∧ l' = [v, .int .i64 j] ∧ St _ [] ((b, 0, [vi, vk, vc]) :: (rb, ro, (pre2 t.1 (t.2.map DT.items) j).flatMap encA ++ sp) :: E') h' ∧
            Own 2 v (pre2 t.1 (t.2.map DT.items) j).length rb ro ((pre2 t.1 (t.2.map DT.items) j).flatMap encA) sp) ∧ max t.2.length t.1.length - (Hp.iv (l'.getD 1 undef)).toNat < max t.2.length t.1.length - j) Q := fun A hA v rb ro sp E' h s w => by
        have hAl := congrArg List.length hA
        rw [List.length_append] at hAl
        unfold s_NodeItems.j5
        refine r_fld ?_
        refine St.r_load0 s 0 rfl rfl ?_
        refine (hr.st s).lenV ?_
        refine r_cmpI ?_
        refine r_if (fun e => ?_) (fun e => ?_)
        · have e : j < t.1.length := by simpa using e
          refine r_fld ?_
          refine St.r_load0 s 0 rfl rfl ?_
          refine (hr.st s).at rfl (fun _ => rfl) rfl rfl e fun b' o' hb' => ?_
          refine hb'.loadN rfl ?_
          refine s.r_mkSl (sz := 2) (cs := encA t.1[j]) (by ((simp only [fillV, fill1, Value.cells, zeros_succ, zeros_zero, List.size_toArray, List.length_cons, List.length_nil, List.length_append, List.take_succ_cons, List.take_zero, List.take_nil, List.drop_succ_cons, List.drop_zero, List.drop_nil, List.cons_append, List.nil_append, List.append_nil, Nat.reduceAdd, Nat.reduceMul, Nat.reduceLeDiff, Nat.reduceEqDiff, and_self, and_true, true_and, if_true, Nat.le_refl, Nat.zero_add, Nat.add_zero, Nat.zero_mul, reduceIte, if_false] <;> rfl))) rfl fun q h s wq => ?_
          refine s.r_app 2 (sz := 2) (n := 1) (new := encA t.1[j]) rfl w rfl (wq.rdl s 0 rfl) (by simp [one1]) (by omega) (by omega) fun v' b' o' sp' h s w' => ?_
          unfold s_NodeItems.j4
          refine r_add (z := ((j + 1 : Nat) : Int)) (by rw [i64w (by omega) (by omega)]; omega) ?_
          have hx : pre2 t.1 (t.2.map DT.items) (j + 1) = A ++ [t.1[j]] := by rw [hps, hA, List.getElem?_eq_getElem e, List.append_assoc]; rfl
          refine ⟨⟨j + 1, v', b', o', sp', E', hlt, rfl, ?_, ?_⟩, by simp; omega⟩
          · rw [hx, List.flatMap_append]
            have hsing : [t.1[j]].flatMap encA = encA t.1[j] := by simp
            rw [hsing]
            exact s.drop 1
          · rw [hx, List.flatMap_append, List.length_append]
            have hsing : [t.1[j]].flatMap encA = encA t.1[j] := by simp
            rw [hsing]
            exact w'
        · have e : ¬ j < t.1.length := by simpa using e
          unfold s_NodeItems.j4
          refine r_add (z := ((j + 1 : Nat) : Int)) (by rw [i64w (by omega) (by omega)]; omega) ?_
          have hx : pre2 t.1 (t.2.map DT.items) (j + 1) = A := by rw [hps, hA, List.getElem?_eq_none (by omega : t.1.length ≤ j)]; simp
          refine ⟨⟨j + 1, v, rb, ro, sp, E', hlt, rfl, ?_, ?_⟩, by simp; omega⟩
          · rw [hx]; exact s
          · rw [hx]; exact w
      unfold s_NodeItems.j3
      refine r_fld ?_
      refine St.r_load0 s 0 rfl rfl ?_
      refine (hrk.st s).lenV ?_
      refine r_cmpI ?_
      refine r_if (fun e => ?_) (fun e => ?_)
      · have e : j < t.2.length := by have := of_decide_eq_true e; omega
        refine r_fld ?_
        refine St.r_load0 s 0 rfl rfl ?_
        refine (hrk.st s).at (n := j) rfl (fun _ => rfl) rfl rfl (by omega) fun b' o' hb' => ?_
        refine hb'.loadN rfl ?_
        have hkb : t.2[j].bulk ≤ (t.2.map DT.bulk).sum := mem_le_sum (List.mem_map.2 ⟨_, List.getElem_mem e, rfl⟩)
        refine s_NodeItems_ok t.2[j] ((hks j e (by omega)).fr s.fr) (by omega) rfl fun v' E2 h s2 hv => ?_
        have s := (s.join s2).perm List.perm_append_comm
        have hg : (t.2.map DT.items)[j]?.getD [] = t.2[j].items := by simp [e]
        refine s.r_app 1 (sz := 2) (n := t.2[j].items.length) (new := t.2[j].items.flatMap encA) rfl w rfl hv (one_encA _) (by rw [hg] at hpl'; omega) (by rw [hg] at hpl'; omega) fun v' b' o' sp' h s w' => ?_
        refine step _ rfl v' b' o' sp' (E' ++ E2) h ?_ ?_
        · rw [hg, List.flatMap_append]; exact s
        · rw [hg, List.flatMap_append, List.length_append]; exact w'
      · have e : ¬ j < t.2.length := by have := of_decide_eq_false e; omega
        have hg : (t.2.map DT.items)[j]?.getD [] = [] := by simp [List.getElem?_eq_none (show t.2.length ≤ j by omega)]
        refine step _ rfl v rb ro sp E' h ?_ ?_
        · rw [hg, List.append_nil]; exact s
        · rw [hg, List.append_nil]; exact w
    · have hge : j = max t.2.length t.1.length := by have := of_decide_eq_false hge; simp at this; omega
      subst hge
      unfold s_NodeItems.j1
      rw [← hin, ← hit] at s w
      exact H v _ h s (w.rdl s 1 rfl)
end Go.Proofs.Ytlihjljdndbpdaa
end
section
namespace Go.Proofs.Ytlihjljdndbpdaa
open Go.Hp
set_option linter.unusedVariables false
set_option linter.unusedSimpArgs false
variable {h0 h : Heap} {Z E : List Rg} {Q : Value → Heap → Prop}

abbrev encN (c : Value × Value × Int) : List Value := [c.1, c.2.1, .int .i64 c.2.2]
theorem s_Levels_ok : ∀ {k : Nat} (t : DT k) {g : Heap} {vi vk vc : Value} {Q : Value → Heap → Prop}, ArgD g t vi vk → t.bulk ≤ 1073741824 → k ≤ 1099511627776 → one1 vc = true →
    (∀ E' h', St g [] E' h' → Q (.tuple #[.int .i64 t.lv.1, .bool t.lv.2]) h') → s_Levels.call #[.agg #[vi, vk, vc]] g Q
  | 0, e, _, _, _, _, _, _, _, _, _, _ => e.elim
  | k + 1, t, g, vi, vk, vc, Q, ⟨hr, cs, hcl, hrk, hks⟩, hb, hkb, hvc, H => by
    have hbulk := t.kids_le
    refine s_Levels.body _ _ _ ?_
    unfold s_Levels.sh
    have s := St.start g
    refine St.r_box (cs := [vi, vk, vc]) s fun b h s => ?_
    refine r_fld ?_
    refine St.r_load0 s 0 rfl rfl ?_
    refine (hrk.st s).lenV ?_
    refine r_cmpI ?_
    have hkb2 : ∀ j (hj : j < t.2.length), t.2[j].bulk ≤ 1073741824 := fun j hj => by
      have := t.kid_le (List.getElem_mem hj)
      omega
    match ht : t.2 with
    | [] =>
      have hlv : t.lv = (1, true) := by unfold DT.lv; rw [ht]
      rw [ht] at hcl
      refine r_if (fun _ => ?_) (fun e => absurd e (by simp at hcl; simp [hcl]))
      have := H _ _ s
      rw [hlv] at this
      exact this
    | q :: qs =>
      have htl : t.2.length = qs.length + 1 := by rw [ht]; rfl
      refine r_if (fun e => absurd (eq_of_beq e) (by omega)) (fun _ => ?_)
      unfold s_Levels.j1
      refine r_fld ?_
      refine St.r_load0 s 0 rfl rfl ?_
      refine (hrk.st s).lenV ?_
      refine r_fld ?_
      refine St.r_load0 s 0 rfl rfl ?_
      refine (hr.st s).lenV ?_
      refine r_add (z := ((t.1.length + 1 : Nat) : Int)) (by rw [i64w (by omega) (by omega)]; omega) ?_
      refine r_cmpI ?_
      refine r_if (fun e => ?_) (fun e => ?_)
      · have e : qs.length ≠ t.1.length := by simp at e; omega
        have hlv : t.lv = (0, false) := by unfold DT.lv; rw [ht]; simp only [if_neg e]
        have := H _ _ s
        rw [hlv] at this
        exact this
      · have e : qs.length = t.1.length := by simp at e; omega
        have hlv : t.lv = (q.lv.1 + 1, q.lv.2 && qs.all fun x => x.lv.2 && x.lv.1 == q.lv.1) := by
          conv => lhs; unfold DT.lv
          rw [ht]; simp only [if_pos e]
        unfold s_Levels.j2
        refine r_fld ?_
        refine St.r_load0 s 0 rfl rfl ?_
        refine (hrk.st s).at (n := 0) rfl (fun _ => rfl) rfl rfl (by omega) fun b' o' hb' => ?_
        refine hb'.loadN rfl ?_
        have hgg : ∀ j (hj : j < t.2.length), t.2[j] = (q :: qs)[j]'(by rw [← ht]; exact hj) := fun j hj => List.getElem_of_eq ht hj
        have hkq : ArgD g q cs[0].1 cs[0].2.1 := by have := hks 0 (by rw [ht]; simp) (by omega); rw [hgg] at this; exact this
        have hqb : q.bulk ≤ 1073741824 := by have := hkb2 0 (by rw [ht]; simp); rw [hgg] at this; exact this
        have hql := q.lv_le
        refine s_Levels_ok q (hkq.fr s.fr) hqb (by omega) rfl fun E2 h s2 => ?_
        have s := (s.join s2).perm List.perm_append_comm
        refine r_ext rfl ?_
        refine r_ext rfl ?_
        refine r_fld ?_
        refine St.r_load0 s 0 rfl rfl ?_
        refine hrk.slc (l := 1) (m := cs.length) ⟨_, _, rfl, by omega, by omega, rfl⟩ rfl (by omega) (Nat.le_refl _) fun vt hvt => ?_
        rw [show 1 * 3 = 1 * 3 from rfl, flat_drop (f := encN) (sz := 3) (fun _ => rfl), List.take_of_length_le (by rw [flat_len (f := encN) (sz := 3) (fun _ => rfl)]; simp)] at hvt
        refine (hvt.st s).lenV ?_
        refine loop_intro (fun l h' => ∃ (j : Nat) (bb : Bool) (E' : List Rg), j ≤ qs.length ∧ l = [.bool bb, .int .i64 j] ∧ bb = (q.lv.2 && (qs.take j).all fun x => x.lv.2 && x.lv.1 == q.lv.1) ∧ St g [] E' h') (fun l _ => qs.length - (Hp.iv (l.getD 1 undef)).toNat)
          ⟨0, _, _, by omega, rfl, by simp, s⟩ ?_
        rintro l h2 ⟨j, bb, E', hj, rfl, hbb, s⟩
        unfold s_Levels.l4.b
        refine r_cmpI ?_
        refine r_if (fun hlt => ?_) (fun hge => ?_)
        · have hlt : j < qs.length := by have := of_decide_eq_true hlt; simp at this; omega
          unfold s_Levels.j5
          have hdl : j < (cs.drop 1).length := by simp; omega
          have hvt2 : Rdl 3 h2 vt (cs.drop 1).length ((cs.drop 1).flatMap encN) := by rw [List.length_drop]; exact hvt.st s
          refine hvt2.at (n := j) rfl (fun _ => rfl) rfl rfl hdl fun b' o' hb' => ?_
          refine hb'.loadN rfl ?_
          refine s.r_alloc fun t7 h s => ?_
          have hkj : ArgD g qs[j] (cs.drop 1)[j].1 (cs.drop 1)[j].2.1 := by
            have := hks (j + 1) (by rw [ht]; simp; omega) (by omega)
            rw [hgg] at this
            simpa [Nat.add_comm] using this
          have hjb : qs[j].bulk ≤ 1073741824 := by have := hkb2 (j + 1) (by rw [ht]; simp; omega); rw [hgg] at this; exact this
          refine St.r_storeN0 s 0 rfl rfl (by simp) (by simp only [List.mem_cons, List.not_mem_nil, or_false]; intro y hy; rcases hy with rfl | rfl | rfl; exact hkj.one.1; exact hkj.one.2; rfl) ?_; intro h s
          refine St.r_loadN0 s 0 rfl (by simp) ?_
          have hjl := qs[j].lv_le
          refine s_Levels_ok qs[j] (hkj.fr s.fr) hjb (by omega) rfl fun E3 h s3 => ?_
          have s := s.join s3
          refine r_ext rfl ?_
          refine r_ext rfl ?_
          have fin : ∀ (b2 : Bool), b2 = (bb && (qs[j].lv.2 && qs[j].lv.1 == q.lv.1)) → s_Levels.j6 (.int .i64 q.lv.1) (.bool b2) vt (.int .i64 ((cs.length - 1 : Nat) : Int)) (.int .i64 j) h (fun l' h' => (∃ (j : Nat) (bb : Bool) (E' : List Rg), j ≤ qs.length ∧ l' = [.bool bb, .int .i64 j] ∧ bb = (q.lv.2 && (qs.take j).all fun x => x.lv.2 && x.lv.1 == q.lv.1) ∧ St g [] E' h') ∧
              qs.length - (Hp.iv (l'.getD 1 undef)).toNat < qs.length - j) Q := fun b2 hb2 => by
            unfold s_Levels.j6
            refine r_add (z := ((j + 1 : Nat) : Int)) (by rw [i64w (by omega) (by omega)]; omega) ?_
            refine ⟨⟨j + 1, b2, _, hlt, rfl, ?_, s⟩, by simp; omega⟩
            rw [hb2, hbb, List.take_succ_eq_append_getElem hlt, List.all_append]
            simp [Bool.and_assoc]
          refine r_br (fun e1 => ?_) (fun e1 => fin _ (by simp at e1; simp [e1]))
          refine r_br (fun e2 => ?_) (fun e2 => fin _ (by simp at e2; simp [e2]))
          refine r_cmpI ?_
          exact fin _ (by simp [e1, e2]; rw [Bool.eq_iff_iff]; simp; omega)
        · have hge : j = qs.length := by have := of_decide_eq_false hge; simp at this; omega
          subst hge
          unfold s_Levels.j3
          refine r_add (z := ((q.lv.1 + 1 : Nat) : Int)) (by rw [i64w (by omega) (by omega)]; omega) ?_
          have := H _ _ s
          rw [hlv] at this
          rw [hbb, List.take_length]
          exact this

theorem s_Filled_ok : ∀ {k : Nat} (t : DT k) {g : Heap} {vi vk vc : Value} {d least : Int} {Q : Value → Heap → Prop}, ArgD g t vi vk → t.bulk ≤ 1073741824 → 0 ≤ d → d ≤ 1073741824 → one1 vc = true →
    (∀ E' h', St g [] E' h' → Q (.bool (t.fl d least)) h') → s_Filled.call #[.int .i64 d, .int .i64 least, .agg #[vi, vk, vc]] g Q
  | 0, e, _, _, _, _, _, _, _, _, _, _, _, _, _ => e.elim
  | k + 1, t, g, vi, vk, vc, d, least, Q, ⟨hr, cs, hcl, hrk, hks⟩, hb, hd0, hd, hvc, H => by
    have hbulk := t.kids_le
    have hfl : t.fl d least = (decide (least ≤ t.1.length) && decide ((t.1.length : Int) ≤ 2 * d - 1) && t.2.all fun q => q.fl d (d - 1)) := rfl
    have no : ∀ {E' h'}, St g [] E' h' → t.fl d least = false → Q (.bool false) h' := fun s e => by have := H _ _ s; rwa [e] at this
    refine s_Filled.body _ _ _ _ _ ?_
    unfold s_Filled.sh
    have s := St.start g
    refine St.r_box (cs := [vi, vk, vc]) s fun b h s => ?_
    refine r_fld ?_
    refine St.r_load0 s 0 rfl rfl ?_
    refine (hr.st s).lenV ?_
    refine r_cmpI ?_
    refine r_br (fun e1 => ?_) (fun e1 => no s (by have := of_decide_eq_true (show decide ((t.1.length : Int) < least) = true from e1); rw [hfl]; simp; omega))
    have e1 := of_decide_eq_false (show decide ((t.1.length : Int) < least) = false from e1)
    refine r_fld ?_
    refine St.r_load0 s 0 rfl rfl ?_
    refine (hr.st s).lenV ?_
    refine ⟨_, _, _, rfl, rfl, ?_⟩
    rw [i64w (n := 2 * d) (by omega) (by omega)]
    refine r_sub (z := 2 * d - 1) (by rw [i64w (by omega) (by omega)]) ?_
    refine r_cmpI ?_
    refine r_if (fun e2 => no s (by have := of_decide_eq_true e2; rw [hfl]; simp; omega)) (fun e2 => ?_)
    have e2 := of_decide_eq_false e2
    unfold s_Filled.j1
    refine r_fld ?_
    refine St.r_load0 s 0 rfl rfl ?_
    refine (hrk.st s).lenV ?_
    refine loop_intro (fun l h' => ∃ (j : Nat) (E' : List Rg), j ≤ t.2.length ∧ l = [.int .i64 j] ∧ ((t.2.take j).all fun x => x.fl d (d - 1)) = true ∧ St g [] E' h') (fun l _ => t.2.length - (Hp.iv (l.getD 0 undef)).toNat)
      ⟨0, _, by omega, rfl, by simp, s⟩ ?_
    rintro l h2 ⟨j, E', hj, rfl, hall, s⟩
    unfold s_Filled.l3.b
    refine r_cmpI ?_
    refine r_if (fun hlt => ?_) (fun hge => ?_)
    · have hlt : j < t.2.length := by have := of_decide_eq_true hlt; simp at this; omega
      unfold s_Filled.j4
      refine (hrk.st s).at (n := j) rfl (fun _ => rfl) rfl rfl (by omega) fun b' o' hb' => ?_
      refine hb'.loadN rfl ?_
      refine s.r_alloc fun t8 h s => ?_
      have hkj := hks j hlt (by omega)
      have hjb : t.2[j].bulk ≤ 1073741824 := by have := t.kid_le (List.getElem_mem hlt); omega
      refine St.r_storeN0 s 0 rfl rfl (by simp) (by simp only [List.mem_cons, List.not_mem_nil, or_false]; intro y hy; rcases hy with rfl | rfl | rfl; exact hkj.one.1; exact hkj.one.2; rfl) ?_; intro h s
      refine r_sub (z := d - 1) (by rw [i64w (by omega) (by omega)]) ?_
      refine St.r_loadN0 s 0 rfl (by simp) ?_
      refine s_Filled_ok t.2[j] (hkj.fr s.fr) hjb hd0 hd rfl fun E3 h s3 => ?_
      have s := s.join s3
      refine r_not ?_
      refine r_if (fun e3 => no s ?_) (fun e3 => ?_)
      · have e3 : t.2[j].fl d (d - 1) = false := by simpa using e3
        have : (t.2.all fun q => q.fl d (d - 1)) = false := by
          rw [List.all_eq_false]
          exact ⟨_, List.getElem_mem hlt, by rw [e3]; decide⟩
        rw [hfl, this]; simp
      · unfold s_Filled.j5
        refine r_add (z := ((j + 1 : Nat) : Int)) (by rw [i64w (by omega) (by omega)]; omega) ?_
        refine ⟨⟨j + 1, _, hlt, rfl, ?_, s⟩, by simp; omega⟩
        have e3 : t.2[j].fl d (d - 1) = true := by simpa using e3
        rw [List.take_succ_eq_append_getElem hlt, List.all_append, hall]
        simp [e3]
    · have hge : j = t.2.length := by have := of_decide_eq_false hge; simp at this; omega
      subst hge
      rw [List.take_length] at hall
      unfold s_Filled.j2
      have := H _ _ s
      rw [hfl, hall] at this
      have h1 : least ≤ (t.1.length : Int) := by omega
      have h2 : (t.1.length : Int) ≤ 2 * d - 1 := by omega
      simpa [h1, h2] using this

/-- Whether a node is the root of a valid tree of a degree. -/
def validB (d : Int) {k : Nat} (t : DT k) : Prop := match k, t with
  | 0, e => e.elim
  | _ + 1, t => (t.1 = [] ∧ t.2 = []) ∨ (t.lv.2 = true ∧ t.fl (if d = 0 then 32 else d) 1 = true ∧ Asc t.items)

theorem s_Valid_ok {k : Nat} (t : DT (k + 1)) {g : Heap} {vi vk vc v2 : Value} {d : Int} {Q : Value → Heap → Prop} (ha : ArgD g t vi vk) (hb : t.bulk ≤ 1073741824) (hk : k ≤ 1099511627775) (hd0 : 0 ≤ d) (hd : d ≤ 1073741824) (hvc : one1 vc = true) (hv2 : one1 v2 = true)
    (H : ∀ (b : Bool) E' h', (b = true ↔ validB d t) → St g [] E' h' → Q (.bool b) h') : s_Valid.call #[.agg #[.slice none 0 0, .int .i64 d, v2], .agg #[vi, vk, vc]] g Q := by
  have ha' := ha
  obtain ⟨hr, cs, hcl, hrk, hks⟩ := ha
  have hbulk := t.kids_le
  refine s_Valid.body _ _ _ _ ?_
  unfold s_Valid.sh
  have s := St.start g
  refine St.r_box (cs := [.slice none 0 0, .int .i64 d, v2]) s fun b2 h s => ?_
  refine St.r_box (cs := [vi, vk, vc]) s fun b3 h s => ?_
  refine r_fld ?_
  refine St.r_load0 s 0 rfl rfl ?_
  refine (hr.st s).lenV ?_
  refine r_cmpI ?_
  have main : ¬ (t.1 = [] ∧ t.2 = []) → s_Valid.j1 (ptr b2 0) (ptr b3 0) h Q := fun hne => by
    unfold s_Valid.j1
    refine St.r_loadN0 s 0 rfl (by simp) ?_
    refine s_Levels_ok t (ha'.fr s.fr) hb (by omega) hvc fun E1 h s1 => ?_
    have s := (s.join s1).perm List.perm_append_comm
    refine r_ext rfl ?_
    refine r_ext rfl ?_
    refine r_br (fun e1 => ?_) (fun e1 => H false _ _ ⟨fun e => (by cases e), fun hv => ?_⟩ s)
    · refine r_fld ?_
      refine St.r_load0 s 1 rfl rfl ?_
      refine St.r_loadN0 s 0 rfl (by simp) ?_
      refine s_Width.body _ _ _ ?_
      unfold s_Width.sh
      refine r_cmpI ?_
      have rest : ∀ (w : Int), w = (if d = 0 then 32 else d) → stillN 3 (ptr b3 0) (.agg #[vi, vk, vc]) h ∧ s_Filled.call #[.int .i64 w, .int .i64 1, .agg #[vi, vk, vc]] h fun t28 h => br t28 true (fld 0 (ptr b2 0) fun t31 =>
          load1 t31 h fun t32 => loadN 3 (ptr b3 0) h fun t33 => s_NodeItems.call #[t33] h fun t34 h => still1 t31 t32 h ∧ s_Rising.call #[t32, t34] h fun t35 h => Q t35 h) (Q (.bool false) h) := fun w hw => by
        refine ⟨St.r_stillN0 s 0 (j := 0) (n := 3) rfl (by simp) rfl, ?_⟩
        refine s_Filled_ok t (ha'.fr s.fr) hb (by rw [hw]; split <;> omega) (by rw [hw]; split <;> omega) hvc fun E2 h s2 => ?_
        have s := (s.join s2).perm List.perm_append_comm
        rw [hw]
        refine r_br (fun e2 => ?_) (fun e2 => H false _ _ ⟨fun e => (by cases e), fun hv => ?_⟩ s)
        · refine r_fld ?_
          refine St.r_load0 s 1 rfl rfl ?_
          refine St.r_loadN0 s 0 rfl (by simp) ?_
          refine s_NodeItems_ok t (ha'.fr s.fr) hb hvc fun v E3 h s3 hv => ?_
          have hil := t.items_le
          have s := (s.join s3).perm List.perm_append_comm
          refine ⟨St.r_still0 s 1 rfl rfl, ?_⟩
          refine s_Rising_nil hv (by omega) fun bb E4 h hbb s4 => ?_
          refine H bb _ _ ⟨fun e => .inr ⟨e1, e2, hbb.1 e⟩, fun hv => ?_⟩ (s.join s4)
          rcases hv with hv | hv
          · exact absurd hv hne
          · exact hbb.2 hv.2.2
        · rcases hv with hv | hv
          · exact absurd hv hne
          · rw [hv.2.1] at e2; cases e2
      refine r_if (fun e => rest 32 (by have := eq_of_beq e; rw [if_pos this])) (fun e => ?_)
      unfold s_Width.j1
      exact rest d (by have : d ≠ 0 := by simpa using e
                       rw [if_neg this])
    · rcases hv with hv | hv
      · exact absurd hv hne
      · rw [hv.1] at e1; cases e1
  refine r_br (fun e => ?_) (fun e => main fun hh => ?_)
  · have e : t.1 = [] := List.length_eq_zero_iff.1 (by have := eq_of_beq e; omega)
    refine r_fld ?_
    refine St.r_load0 s 0 rfl rfl ?_
    refine (hrk.st s).lenV ?_
    refine r_cmpI ?_
    refine r_if (fun e2 => ?_) (fun e2 => main fun hh => ?_)
    · have e2 : t.2 = [] := List.length_eq_zero_iff.1 (by have := eq_of_beq e2; omega)
      exact H true _ _ ⟨fun _ => .inl ⟨e, e2⟩, fun _ => rfl⟩ s
    · rw [hh.2] at hcl
      simp at hcl
      rw [hcl] at e2
      simp at e2
  · rw [hh.1] at e
    simp at e

theorem l_validD_ok {k : Nat} (t : DT (k + 1)) {g : Heap} {vi vk vc : Value} {d : Int} {Q : Value → Heap → Prop} (ha : ArgD g t vi vk) (hb : t.bulk ≤ 1073741824) (hk : k ≤ 1099511627775) (hvc : one1 vc = true)
    (H : ∀ (b : Bool) E' h', (b = true ↔ 2 ≤ d ∧ d ≤ 128 ∧ validB d t) → St g [] E' h' → Q (.bool b) h') : l_validD.call #[.int .i64 d, .agg #[vi, vk, vc]] g Q := by
  refine l_validD.body _ _ _ _ ?_
  unfold l_validD.sh
  have s := St.start g
  refine St.r_box (cs := [vi, vk, vc]) s fun b3 h s => ?_
  refine l_fit_ok ?_
  refine r_br (fun e => ?_) (fun e => H false _ _ ⟨fun e => (by cases e), fun hv => ?_⟩ s)
  · have e : 2 ≤ d ∧ d ≤ 128 := of_decide_eq_true e
    ((apply r_build; ((simp only [fillV, fill1, Value.cells, zeros_succ, zeros_zero, List.size_toArray, List.length_cons, List.length_nil, List.length_append, List.take_succ_cons, List.take_zero, List.take_nil, List.drop_succ_cons, List.drop_zero, List.drop_nil, List.cons_append, List.nil_append, List.append_nil, Nat.reduceAdd, Nat.reduceMul, Nat.reduceLeDiff, Nat.reduceEqDiff, and_self, and_true, true_and, if_true, Nat.le_refl, Nat.zero_add, Nat.add_zero, Nat.zero_mul, reduceIte, if_false] <;> rfl))))
    refine St.r_loadN0 s 0 rfl (by simp) ?_
    refine s_Valid_ok t (ha.fr s.fr) hb hk (by omega) (by omega) hvc rfl fun b E' h hbb s2 => ?_
    exact H b _ _ ⟨fun e2 => ⟨e.1, e.2, hbb.1 e2⟩, fun hv => hbb.2 hv.2.2⟩ (s.join s2)
  · simp at e
    have := hv.2.1
    have := e hv.1
    omega
end Go.Proofs.Ytlihjljdndbpdaa
end
section
namespace Go.Proofs.Ytlihjljdndbpdaa
open Go.Hp
set_option maxRecDepth 100000
set_option maxHeartbeats 8000000
set_option linter.unusedVariables false
set_option linter.unusedSimpArgs false

/-! ### impl.found -/
def i_found.j1 (s2 : Value) (s4 : Value) (h : Heap) (Q : Value → Heap → Prop) : Prop :=
    loadN 2 s2 h fun t8 =>
    buildV [(.int .i64 0), (.int .i64 0), (.bool false)] [(0, 2, t8), (2, 1, (.bool true))] fun t9 =>
    storeN 3 s4 t9 h fun h =>
    loadN 3 s4 h fun r4 =>
    Q r4 h
def i_found.sh (a0 : Value) (a1 : Value) (h : Heap) (Q : Value → Heap → Prop) : Prop :=
    box 27 a0 h fun t2 h =>
    alloc [(.int .i64 0), (.int .i64 0), (.bool false)] 32 h fun t4 h =>
    notV a1 fun t6 =>
    ifV t6
    (buildV [(.int .i64 0), (.int .i64 0), (.bool false)] [] fun t7 =>
    storeN 3 t4 t7 h fun h =>
    loadN 3 t4 h fun r4 =>
    Q r4 h)
    (i_found.j1 t2 t4 h Q)
theorem i_found.body (a0 : Value) (a1 : Value) (h : Heap) (Q : Value → Heap → Prop) (H : i_found.sh a0 a1 h Q) : i_found.call #[a0, a1] h Q := by
  refine callsH_of (args := [a0, a1]) Try.func116 rfl rfl ?_
  unfold i_found.sh at H
  refine WPc_seq' ?_
  refine W_region (by kernel_rfl) ?_
  refine vl_n ?_
  refine H_box H fun t2 h H => ?_
  refine vl_n ?_
  refine H_alloc TV_32 H fun t4 h H => ?_
  refine vl_e ?_
  refine WPc_seq (fun e h => i_found.j1 (e 2) (e 4) h Q) ?_ (fun e h H => ?_)
  rotate_left
  · unfold i_found.j1 at H
    refine WPc_seq' ?_
    refine W_region (by kernel_rfl) ?_
    refine vl_n ?_
    refine H_of_R (R_loadN TN_27 H fun _ t8 _ _ H _ _ => ?_)
    refine vl_n ?_
    refine H_of_R (R_build TB_32 rfl (by decide) H fun t9 H => ?_)
    refine vl_n ?_
    refine H_storeN TS_32 H fun h H => ?_
    refine vl_e ?_
    refine WPc_ret ?_
    refine resH_of rfl ?_
    refine resL_N TN_32 ?_
    refine loadN_imp H fun r4 H => ?_
    exact H
  refine WPc_seq' ?_
  refine W_region (by kernel_rfl) ?_
  refine vl_n ?_
  refine H_of_R (R_move (v := a1) rfl ?_)
  refine vl_n ?_
  refine H_of_R (R_not H fun t6 H => ?_)
  refine vl_e ?_
  obtain ⟨b, hc, H1, H2⟩ := H
  refine WPc_cond hc (fun hh => ?_) (fun hh => ?_)
  · have H := H1 hh; clear H1 H2
    refine WPc_seq' ?_
    refine W_region (by kernel_rfl) ?_
    refine vl_n ?_
    refine H_of_R (R_build TB_32 rfl (by decide) H fun t7 H => ?_)
    refine vl_n ?_
    refine H_storeN TS_32 H fun h H => ?_
    refine vl_e ?_
    refine WPc_ret ?_
    refine resH_of rfl ?_
    refine resL_N TN_32 ?_
    refine loadN_imp H fun r4 H => ?_
    exact H
  · have H := H2 hh; clear H1 H2
    refine WPc_skip ?_
    exact H
/-! ### impl.pair -/
def i_pair.sh (a0 : Value) (a1 : Value) (a2 : Value) (h : Heap) (Q : Value → Heap → Prop) : Prop :=
    alloc [(.int .i64 0), (.int .i64 0), (.bool false)] 32 h fun t6 h =>
    buildV [(.int .i64 0), (.int .i64 0)] [(0, 1, a0), (1, 1, a1)] fun t9 =>
    i_found.call #[t9, a2] h fun t11 h =>
    storeN 3 t6 t11 h fun h =>
    loadN 3 t6 h fun r6 =>
    Q r6 h
theorem i_pair.body (a0 : Value) (a1 : Value) (a2 : Value) (h : Heap) (Q : Value → Heap → Prop) (H : i_pair.sh a0 a1 a2 h Q) : i_pair.call #[a0, a1, a2] h Q := by
  refine callsH_of (args := [a0, a1, a2]) Try.func60 rfl rfl ?_
  unfold i_pair.sh at H
  refine WPc_seq' ?_
  refine W_region (by kernel_rfl) ?_
  refine vl_n ?_
  refine H_alloc TV_32 H fun t6 h H => ?_
  refine vl_e ?_
  refine WPc_seq' ?_
  refine W_region (by kernel_rfl) ?_
  refine vl_n ?_
  refine H_of_R (R_move (v := a0) rfl ?_)
  refine vl_n ?_
  refine H_of_R (R_move (v := a1) rfl ?_)
  refine vl_n ?_
  refine H_of_R (R_build TB_27 rfl (by decide) H fun t9 H => ?_)
  refine vl_n ?_
  refine H_of_R (R_move (v := a2) rfl ?_)
  refine vl_n ?_
  refine H_call HB_116 H fun t11 h H => ?_
  refine vl_n ?_
  refine H_storeN TS_32 H fun h H => ?_
  refine vl_e ?_
  refine WPc_ret ?_
  refine resH_of rfl ?_
  refine resL_N TN_32 ?_
  refine loadN_imp H fun r6 H => ?_
  exact H
/-! ### (*pub/tidwallbtree.Map[int, int]).DoorRoot -/
def Map_ii_DoorRoot.sh (a0 : Value) (h : Heap) (Q : Value → Heap → Prop) : Prop :=
    alloc [(.pointer none)] 175 h fun t2 h =>
    nilck a0 fun t5 =>
    fld 2 t5 fun t6 =>
    load1 t6 h fun t7 =>
    buildV [(.pointer none)] [(0, 1, t7)] fun t8 =>
    nilck a0 fun t10 =>
    fld 2 t10 fun t11 =>
    load1 t11 h fun t12 =>
    neNilP t12 fun t13 =>
    storeN 1 t2 t8 h fun h =>
    still1 t11 t12 h ∧ loadN 1 t2 h fun r2 =>
    Q (.tuple #[r2, t13]) h
theorem Map_ii_DoorRoot.body (a0 : Value) (h : Heap) (Q : Value → Heap → Prop) (H : Map_ii_DoorRoot.sh a0 h Q) : Map_ii_DoorRoot.call #[a0] h Q := by
  refine callsH_of (args := [a0]) Try.func117 rfl rfl ?_
  unfold Map_ii_DoorRoot.sh at H
  refine WPc_seq' ?_
  refine W_region (by kernel_rfl) ?_
  refine vl_n ?_
  refine H_alloc TV_175 H fun t2 h H => ?_
  refine vl_n ?_
  refine H_of_R (R_assign (v := (.bool false)) rfl ?_)
  refine vl_e ?_
  refine WPc_seq' ?_
  refine W_drawn [0, 1, 3, 7, 15, 0, 32, 96, 224, 480, 31, 2047] (.take 0 (.take 1 (.take 2 (.take 3 (.take 4 (.take 5 (.take 6 (.take 7 (.take 8 (.take 9 (.alt 10 (.take 11 .done) .none))))))))))) mixed (by kernel_rfl) ?_
  refine tkP rfl ?_
  refine R_move (v := a0) rfl ⟨fun _ => trivial, ?_⟩
  refine tkP rfl ?_
  refine R_nil H fun t5 H => ⟨fun _ => trivial, ?_⟩
  refine tkP rfl ?_
  refine R_fld TF_182_2 H fun t6 H => ⟨fun _ => trivial, ?_⟩
  refine tkL rfl ?_
  refine R_load1 T1_173 H fun at7 t7 hat7 _ H => ?_
  refine tkP rfl ?_
  refine R_build TB_175 rfl (by decide) H fun t8 H => ⟨fun _ => trivial, ?_⟩
  refine tkP rfl ?_
  refine R_move (v := a0) rfl ⟨fun _ => trivial, ?_⟩
  refine tkP rfl ?_
  refine R_nil H fun t10 H => ⟨fun _ => trivial, ?_⟩
  refine tkP rfl ?_
  refine R_fld TF_182_2 H fun t11 H => ⟨fun _ => trivial, ?_⟩
  refine tkL rfl ?_
  refine R_load1 T1_173 H fun at12 t12 hat12 _ H => ?_
  refine tkP rfl ?_
  refine R_neNilP Try.underlying173 rfl H fun t13 H => ⟨fun _ => trivial, ?_⟩
  refine alt_n rfl ?_ vp_none
  refine H_storeN TS_175 H fun h ⟨S, H⟩ => ⟨(hcons rfl (still_1 S hat12) (hskip rfl hnil)), ?_⟩
  refine tkP rfl ?_
  refine R_assign (v := t13) rfl ⟨fun _ => trivial, ?_⟩
  refine vp_done ?_
  refine WPc_ret ?_
  refine resH_of rfl ?_
  refine resL_N TN_175 ?_
  refine loadN_imp H fun r2 H => ?_
  refine resL_t ?_
  exact H
/-! ### (pub/tidwallbtree.DoorMapNode[int, int]).DoorCount -/
def DoorMapNode_ii_DoorCount.sh (a0 : Value) (h : Heap) (Q : Value → Heap → Prop) : Prop :=
    box 175 a0 h fun t1 h =>
    fld 0 t1 fun t3 =>
    load1 t3 h fun t4 =>
    nilck t4 fun t5 =>
    fld 1 t5 fun t6 =>
    load1 t6 h fun t7 =>
    Q t7 h
theorem DoorMapNode_ii_DoorCount.body (a0 : Value) (h : Heap) (Q : Value → Heap → Prop) (H : DoorMapNode_ii_DoorCount.sh a0 h Q) : DoorMapNode_ii_DoorCount.call #[a0] h Q := by
  refine callsH_of (args := [a0]) Try.func157 rfl rfl ?_
  unfold DoorMapNode_ii_DoorCount.sh at H
  refine WPc_seq' ?_
  refine W_region (by kernel_rfl) ?_
  refine vl_n ?_
  refine H_box H fun t1 h H => ?_
  refine vl_n ?_
  refine H_of_R (R_assign (v := (.int .i64 0)) rfl ?_)
  refine vl_e ?_
  refine WPc_seq' ?_
  refine W_region (by kernel_rfl) ?_
  refine vl_n ?_
  refine H_of_R (R_fld TF_175_0 H fun t3 H => ?_)
  refine vl_n ?_
  refine H_of_R (R_load1 T1_173 H fun _ t4 _ _ H => ?_)
  refine vl_n ?_
  refine H_of_R (R_nil H fun t5 H => ?_)
  refine vl_n ?_
  refine H_of_R (R_fld TF_188_1 H fun t6 H => ?_)
  refine vl_n ?_
  refine H_of_R (R_load1 T1_3 H fun _ t7 _ _ H => ?_)
  refine vl_n ?_
  refine H_of_R (R_assign (v := t7) rfl ?_)
  refine vl_e ?_
  refine WPc_ret ?_
  refine resH_of rfl ?_
  exact H
/-! ### (pub/tidwallbtree.DoorMapNode[int, int]).DoorLen -/
def DoorMapNode_ii_DoorLen.sh (a0 : Value) (h : Heap) (Q : Value → Heap → Prop) : Prop :=
    box 175 a0 h fun t1 h =>
    fld 0 t1 fun t3 =>
    load1 t3 h fun t4 =>
    nilck t4 fun t5 =>
    fld 2 t5 fun t6 =>
    load1 t6 h fun t7 =>
    lenV t7 fun t8 =>
    Q t8 h
theorem DoorMapNode_ii_DoorLen.body (a0 : Value) (h : Heap) (Q : Value → Heap → Prop) (H : DoorMapNode_ii_DoorLen.sh a0 h Q) : DoorMapNode_ii_DoorLen.call #[a0] h Q := by
  refine callsH_of (args := [a0]) Try.func158 rfl rfl ?_
  unfold DoorMapNode_ii_DoorLen.sh at H
  refine WPc_seq' ?_
  refine W_region (by kernel_rfl) ?_
  refine vl_n ?_
  refine H_box H fun t1 h H => ?_
  refine vl_n ?_
  refine H_of_R (R_assign (v := (.int .i64 0)) rfl ?_)
  refine vl_e ?_
  refine WPc_seq' ?_
  refine W_region (by kernel_rfl) ?_
  refine vl_n ?_
  refine H_of_R (R_fld TF_175_0 H fun t3 H => ?_)
  refine vl_n ?_
  refine H_of_R (R_load1 T1_173 H fun _ t4 _ _ H => ?_)
  refine vl_n ?_
  refine H_of_R (R_nil H fun t5 H => ?_)
  refine vl_n ?_
  refine H_of_R (R_fld TF_188_2 H fun t6 H => ?_)
  refine vl_n ?_
  refine H_of_R (R_load1 T1_185 H fun _ t7 _ _ H => ?_)
  refine vl_n ?_
  refine H_of_R (R_len Try.underlying185 H fun t8 H => ?_)
  refine vl_n ?_
  refine H_of_R (R_assign (v := t8) rfl ?_)
  refine vl_e ?_
  refine WPc_ret ?_
  refine resH_of rfl ?_
  exact H
/-! ### (pub/tidwallbtree.DoorMapNode[int, int]).DoorAt -/
def DoorMapNode_ii_DoorAt.sh (a0 : Value) (a1 : Value) (h : Heap) (Q : Value → Heap → Prop) : Prop :=
    box 175 a0 h fun t2 h =>
    fld 0 t2 fun t6 =>
    load1 t6 h fun t7 =>
    nilck t7 fun t8 =>
    fld 2 t8 fun t9 =>
    load1 t9 h fun t10 =>
    idx 2 t10 a1 fun t12 =>
    fld 1 t12 fun t13 =>
    load1 t13 h fun t14 =>
    fld 0 t2 fun t15 =>
    load1 t15 h fun t16 =>
    nilck t16 fun t17 =>
    fld 2 t17 fun t18 =>
    load1 t18 h fun t19 =>
    idx 2 t19 a1 fun t21 =>
    fld 0 t21 fun t22 =>
    load1 t22 h fun t23 =>
    Q (.tuple #[t14, t23]) h
theorem DoorMapNode_ii_DoorAt.body (a0 : Value) (a1 : Value) (h : Heap) (Q : Value → Heap → Prop) (H : DoorMapNode_ii_DoorAt.sh a0 a1 h Q) : DoorMapNode_ii_DoorAt.call #[a0, a1] h Q := by
  refine callsH_of (args := [a0, a1]) Try.func159 rfl rfl ?_
  unfold DoorMapNode_ii_DoorAt.sh at H
  refine WPc_seq' ?_
  refine W_region (by kernel_rfl) ?_
  refine vl_n ?_
  refine H_box H fun t2 h H => ?_
  refine vl_n ?_
  refine H_of_R (R_assign (v := (.int .i64 0)) rfl ?_)
  refine vl_n ?_
  refine H_of_R (R_assign (v := (.int .i64 0)) rfl ?_)
  refine vl_e ?_
  refine WPc_seq' ?_
  refine W_drawn [0, 1, 3, 7, 15, 0, 63, 127, 255, 0, 512, 1536, 3584, 7680, 0, 32256, 65024, 130560, 511, 524287] (.take 0 (.take 1 (.take 2 (.take 3 (.take 4 (.take 5 (.take 6 (.take 7 (.take 8 (.take 9 (.take 10 (.take 11 (.take 12 (.take 13 (.take 14 (.take 15 (.take 16 (.take 17 (.take 18 (.take 19 .done)))))))))))))))))))) mixed (by kernel_rfl) ?_
  refine tkP rfl ?_
  refine R_fld TF_175_0 H fun t6 H => ⟨fun _ => trivial, ?_⟩
  refine tkL rfl ?_
  refine R_load1 T1_173 H fun at7 t7 hat7 _ H => ?_
  refine tkP rfl ?_
  refine R_nil H fun t8 H => ⟨fun _ => trivial, ?_⟩
  refine tkP rfl ?_
  refine R_fld TF_188_2 H fun t9 H => ⟨fun _ => trivial, ?_⟩
  refine tkL rfl ?_
  refine R_load1 T1_185 H fun at10 t10 hat10 _ H => ?_
  refine tkP rfl ?_
  refine R_move (v := a1) rfl ⟨fun _ => trivial, ?_⟩
  refine tkP rfl ?_
  refine R_idx TE_185 H fun t12 H => ⟨fun _ => trivial, ?_⟩
  refine tkP rfl ?_
  refine R_fld TF_178_1 H fun t13 H => ⟨fun _ => trivial, ?_⟩
  refine tkL rfl ?_
  refine R_load1 T1_3 H fun at14 t14 hat14 _ H => ?_
  refine tkP rfl ?_
  refine R_fld TF_175_0 H fun t15 H => ⟨fun _ => trivial, ?_⟩
  refine tkL rfl ?_
  refine R_load1 T1_173 H fun at16 t16 hat16 _ H => ?_
  refine tkP rfl ?_
  refine R_nil H fun t17 H => ⟨fun _ => trivial, ?_⟩
  refine tkP rfl ?_
  refine R_fld TF_188_2 H fun t18 H => ⟨fun _ => trivial, ?_⟩
  refine tkL rfl ?_
  refine R_load1 T1_185 H fun at19 t19 hat19 _ H => ?_
  refine tkP rfl ?_
  refine R_move (v := a1) rfl ⟨fun _ => trivial, ?_⟩
  refine tkP rfl ?_
  refine R_idx TE_185 H fun t21 H => ⟨fun _ => trivial, ?_⟩
  refine tkP rfl ?_
  refine R_fld TF_178_0 H fun t22 H => ⟨fun _ => trivial, ?_⟩
  refine tkL rfl ?_
  refine R_load1 T1_3 H fun at23 t23 hat23 _ H => ?_
  refine tkP rfl ?_
  refine R_assign (v := t14) rfl ⟨fun _ => trivial, ?_⟩
  refine tkP rfl ?_
  refine R_assign (v := t23) rfl ⟨fun _ => trivial, ?_⟩
  refine vp_done ?_
  refine WPc_ret ?_
  refine resH_of rfl ?_
  exact H
/-! ### (pub/tidwallbtree.DoorMapNode[int, int]).DoorIsLeaf -/
def DoorMapNode_ii_DoorIsLeaf.sh (a0 : Value) (h : Heap) (Q : Value → Heap → Prop) : Prop :=
    box 175 a0 h fun t1 h =>
    fld 0 t1 fun t3 =>
    load1 t3 h fun t4 =>
    mapNode_ii_leaf.call #[t4] h fun t5 h =>
    Q t5 h
theorem DoorMapNode_ii_DoorIsLeaf.body (a0 : Value) (h : Heap) (Q : Value → Heap → Prop) (H : DoorMapNode_ii_DoorIsLeaf.sh a0 h Q) : DoorMapNode_ii_DoorIsLeaf.call #[a0] h Q := by
  refine callsH_of (args := [a0]) Try.func160 rfl rfl ?_
  unfold DoorMapNode_ii_DoorIsLeaf.sh at H
  refine WPc_seq' ?_
  refine W_region (by kernel_rfl) ?_
  refine vl_n ?_
  refine H_box H fun t1 h H => ?_
  refine vl_n ?_
  refine H_of_R (R_assign (v := (.bool false)) rfl ?_)
  refine vl_e ?_
  refine WPc_seq' ?_
  refine W_region (by kernel_rfl) ?_
  refine vl_n ?_
  refine H_of_R (R_fld TF_175_0 H fun t3 H => ?_)
  refine vl_n ?_
  refine H_of_R (R_load1 T1_173 H fun _ t4 _ _ H => ?_)
  refine vl_n ?_
  refine H_call HB_126 H fun t5 h H => ?_
  refine vl_n ?_
  refine H_of_R (R_assign (v := t5) rfl ?_)
  refine vl_e ?_
  refine WPc_ret ?_
  refine resH_of rfl ?_
  exact H
/-! ### (pub/tidwallbtree.DoorMapNode[int, int]).DoorKids -/
def DoorMapNode_ii_DoorKids.sh (a0 : Value) (h : Heap) (Q : Value → Heap → Prop) : Prop :=
    box 175 a0 h fun t1 h =>
    fld 0 t1 fun t3 =>
    load1 t3 h fun t4 =>
    nilck t4 fun t5 =>
    fld 3 t5 fun t6 =>
    load1 t6 h fun t7 =>
    nilck t7 fun t8 =>
    load1 t8 h fun t9 =>
    lenV t9 fun t10 =>
    Q t10 h
theorem DoorMapNode_ii_DoorKids.body (a0 : Value) (h : Heap) (Q : Value → Heap → Prop) (H : DoorMapNode_ii_DoorKids.sh a0 h Q) : DoorMapNode_ii_DoorKids.call #[a0] h Q := by
  refine callsH_of (args := [a0]) Try.func161 rfl rfl ?_
  unfold DoorMapNode_ii_DoorKids.sh at H
  refine WPc_seq' ?_
  refine W_region (by kernel_rfl) ?_
  refine vl_n ?_
  refine H_box H fun t1 h H => ?_
  refine vl_n ?_
  refine H_of_R (R_assign (v := (.int .i64 0)) rfl ?_)
  refine vl_e ?_
  refine WPc_seq' ?_
  refine W_region (by kernel_rfl) ?_
  refine vl_n ?_
  refine H_of_R (R_fld TF_175_0 H fun t3 H => ?_)
  refine vl_n ?_
  refine H_of_R (R_load1 T1_173 H fun _ t4 _ _ H => ?_)
  refine vl_n ?_
  refine H_of_R (R_nil H fun t5 H => ?_)
  refine vl_n ?_
  refine H_of_R (R_fld TF_188_3 H fun t6 H => ?_)
  refine vl_n ?_
  refine H_of_R (R_load1 T1_186 H fun _ t7 _ _ H => ?_)
  refine vl_n ?_
  refine H_of_R (R_nil H fun t8 H => ?_)
  refine vl_n ?_
  refine H_of_R (R_load1 T1_194 H fun _ t9 _ _ H => ?_)
  refine vl_n ?_
  refine H_of_R (R_len Try.underlying194 H fun t10 H => ?_)
  refine vl_n ?_
  refine H_of_R (R_assign (v := t10) rfl ?_)
  refine vl_e ?_
  refine WPc_ret ?_
  refine resH_of rfl ?_
  exact H
/-! ### (pub/tidwallbtree.DoorMapNode[int, int]).DoorKid -/
def DoorMapNode_ii_DoorKid.sh (a0 : Value) (a1 : Value) (h : Heap) (Q : Value → Heap → Prop) : Prop :=
    box 175 a0 h fun t2 h =>
    alloc [(.pointer none)] 175 h fun t4 h =>
    fld 0 t2 fun t5 =>
    load1 t5 h fun t6 =>
    nilck t6 fun t7 =>
    fld 3 t7 fun t8 =>
    load1 t8 h fun t9 =>
    nilck t9 fun t10 =>
    load1 t10 h fun t11 =>
    idx 1 t11 a1 fun t13 =>
    load1 t13 h fun t14 =>
    buildV [(.pointer none)] [(0, 1, t14)] fun t15 =>
    storeN 1 t4 t15 h fun h =>
    loadN 1 t4 h fun r4 =>
    Q r4 h
theorem DoorMapNode_ii_DoorKid.body (a0 : Value) (a1 : Value) (h : Heap) (Q : Value → Heap → Prop) (H : DoorMapNode_ii_DoorKid.sh a0 a1 h Q) : DoorMapNode_ii_DoorKid.call #[a0, a1] h Q := by
  refine callsH_of (args := [a0, a1]) Try.func162 rfl rfl ?_
  unfold DoorMapNode_ii_DoorKid.sh at H
  refine WPc_seq' ?_
  refine W_region (by kernel_rfl) ?_
  refine vl_n ?_
  refine H_box H fun t2 h H => ?_
  refine vl_n ?_
  refine H_alloc TV_175 H fun t4 h H => ?_
  refine vl_e ?_
  refine WPc_seq' ?_
  refine W_region (by kernel_rfl) ?_
  refine vl_n ?_
  refine H_of_R (R_fld TF_175_0 H fun t5 H => ?_)
  refine vl_n ?_
  refine H_of_R (R_load1 T1_173 H fun _ t6 _ _ H => ?_)
  refine vl_n ?_
  refine H_of_R (R_nil H fun t7 H => ?_)
  refine vl_n ?_
  refine H_of_R (R_fld TF_188_3 H fun t8 H => ?_)
  refine vl_n ?_
  refine H_of_R (R_load1 T1_186 H fun _ t9 _ _ H => ?_)
  refine vl_n ?_
  refine H_of_R (R_nil H fun t10 H => ?_)
  refine vl_n ?_
  refine H_of_R (R_load1 T1_194 H fun _ t11 _ _ H => ?_)
  refine vl_n ?_
  refine H_of_R (R_move (v := a1) rfl ?_)
  refine vl_n ?_
  refine H_of_R (R_idx TE_194 H fun t13 H => ?_)
  refine vl_n ?_
  refine H_of_R (R_load1 T1_173 H fun _ t14 _ _ H => ?_)
  refine vl_n ?_
  refine H_of_R (R_build TB_175 rfl (by decide) H fun t15 H => ?_)
  refine vl_n ?_
  refine H_storeN TS_175 H fun h H => ?_
  refine vl_e ?_
  refine WPc_ret ?_
  refine resH_of rfl ?_
  refine resL_N TN_175 ?_
  refine loadN_imp H fun r4 H => ?_
  exact H
/-! ### impl.liftedMap -/
def i_liftedMap.j2 (s2 : Value) (s3 : Value) (h : Heap) (Q : Value → Heap → Prop) : Prop :=
    loadN 3 s3 h fun t49 =>
    storeN 3 s2 t49 h fun h =>
    loadN 3 s2 h fun r2 =>
    Q r2 h
def i_liftedMap.j5 (s1 : Value) (s2 : Value) (s3 : Value) (s35 : Value) (s36 : Value) (h : Heap) (K1 : List Value → Heap → Prop) (Q : Value → Heap → Prop) : Prop :=
    arith (· + ·) s36 (.int .i64 1) fun t48 =>
    K1 [t48] h
def i_liftedMap.j4 (s1 : Value) (s2 : Value) (s3 : Value) (s35 : Value) (s36 : Value) (h : Heap) (K1 : List Value → Heap → Prop) (Q : Value → Heap → Prop) : Prop :=
    fld 1 s3 fun t39 =>
    load1 t39 h fun t40 =>
    loadN 1 s1 h fun t41 =>
    DoorMapNode_ii_DoorKid.call #[t41, s36] h fun t43 h =>
    still1 t39 t40 h ∧ i_liftedMap.call #[t43] h fun t44 h =>
    still1 t39 t40 h ∧ mkSl (if 1 * 3 = 0 then [] else zeros [(.slice none 0 0), (.slice none 0 0), (.int .i64 0)] 1) 1 [(0 * 3, 3, t44)] 25 h fun t45 h =>
    still1 t39 t40 h ∧ app 25 3 56 [(.slice none 0 0), (.slice none 0 0), (.int .i64 0)] t40 t45 h fun t46 h =>
    fld 1 s3 fun t47 =>
    store1 t47 t46 h fun h =>
    i_liftedMap.j5 s1 s2 s3 s35 s36 h K1 Q
def i_liftedMap.l3.b (c1 : Value) (c2 : Value) (c3 : Value) (c35 : Value) (s36 : Value) (h : Heap) (K1 : List Value → Heap → Prop) (Q : Value → Heap → Prop) : Prop :=
    cmpI (fun a b => decide (a < b)) s36 c35 fun t37 =>
    ifV t37
    (i_liftedMap.j4 c1 c2 c3 c35 s36 h K1 Q)
    (i_liftedMap.j2 c2 c3 h Q)
def i_liftedMap.j1 (s1 : Value) (s2 : Value) (s3 : Value) (h : Heap) (Q : Value → Heap → Prop) : Prop :=
    loadN 1 s1 h fun t31 =>
    DoorMapNode_ii_DoorIsLeaf.call #[t31] h fun t32 h =>
    notV t32 fun t33 =>
    ifV t33
    (loadN 1 s1 h fun t34 =>
    DoorMapNode_ii_DoorKids.call #[t34] h fun t35 h =>
    loopC (fun c s h K1 => i_liftedMap.l3.b (c.getD 0 undef) (c.getD 1 undef) (c.getD 2 undef) (c.getD 3 undef) (s.getD 0 undef) h K1 Q) [s1, s2, s3, t35] [(.int .i64 0)] h)
    (i_liftedMap.j2 s2 s3 h Q)
def i_liftedMap.j8 (s1 : Value) (s2 : Value) (s3 : Value) (s12 : Value) (s13 : Value) (h : Heap) (K1 : List Value → Heap → Prop) (Q : Value → Heap → Prop) : Prop :=
    arith (· + ·) s13 (.int .i64 1) fun t30 =>
    K1 [t30] h
def i_liftedMap.j7 (s1 : Value) (s2 : Value) (s3 : Value) (s12 : Value) (s13 : Value) (h : Heap) (K1 : List Value → Heap → Prop) (Q : Value → Heap → Prop) : Prop :=
    loadN 1 s1 h fun t17 =>
    DoorMapNode_ii_DoorAt.call #[t17, s13] h fun t19 h =>
    extr 0 t19 fun t20 =>
    extr 1 t19 fun t21 =>
    fld 0 s3 fun t22 =>
    load1 t22 h fun t23 =>
    buildV [(.int .i64 0), (.int .i64 0)] [(0, 1, t20), (1, 1, t21)] fun t26 =>
    mkSl (if 1 * 2 = 0 then [] else zeros [(.int .i64 0), (.int .i64 0)] 1) 1 [(0 * 2, 2, t26)] 27 h fun t27 h =>
    app 27 2 16 [(.int .i64 0), (.int .i64 0)] t23 t27 h fun t28 h =>
    fld 0 s3 fun t29 =>
    store1 t29 t28 h fun h =>
    i_liftedMap.j8 s1 s2 s3 s12 s13 h K1 Q
def i_liftedMap.l6.b (c1 : Value) (c2 : Value) (c3 : Value) (c12 : Value) (s13 : Value) (h : Heap) (K1 : List Value → Heap → Prop) (Q : Value → Heap → Prop) : Prop :=
    cmpI (fun a b => decide (a < b)) s13 c12 fun t14 =>
    ifV t14
    (i_liftedMap.j7 c1 c2 c3 c12 s13 h K1 Q)
    (i_liftedMap.j1 c1 c2 c3 h Q)
def i_liftedMap.sh (a0 : Value) (h : Heap) (Q : Value → Heap → Prop) : Prop :=
    box 175 a0 h fun t1 h =>
    alloc [(.slice none 0 0), (.slice none 0 0), (.int .i64 0)] 25 h fun t2 h =>
    loadN 1 t1 h fun t8 =>
    DoorMapNode_ii_DoorCount.call #[t8] h fun t9 h =>
    buildV [(.slice none 0 0), (.slice none 0 0), (.int .i64 0)] [(2, 1, t9)] fun t10 =>
    alloc [(.slice none 0 0), (.slice none 0 0), (.int .i64 0)] 25 h fun t3 h =>
    storeN 3 t3 t10 h fun h =>
    loadN 1 t1 h fun t11 =>
    DoorMapNode_ii_DoorLen.call #[t11] h fun t12 h =>
    loopC (fun c s h K1 => i_liftedMap.l6.b (c.getD 0 undef) (c.getD 1 undef) (c.getD 2 undef) (c.getD 3 undef) (s.getD 0 undef) h K1 Q) [t1, t2, t3, t12] [(.int .i64 0)] h
theorem i_liftedMap.body (a0 : Value) (h : Heap) (Q : Value → Heap → Prop) (H : i_liftedMap.sh a0 h Q) : i_liftedMap.call #[a0] h Q := by
  refine callsH_of (args := [a0]) Try.func118 rfl rfl ?_
  unfold i_liftedMap.sh at H
  refine WPc_seq' ?_
  refine W_region (by kernel_rfl) ?_
  refine vl_n ?_
  refine H_box H fun t1 h H => ?_
  refine vl_n ?_
  refine H_alloc TV_25 H fun t2 h H => ?_
  refine vl_e ?_
  refine WPc_seq' ?_
  refine W_region (by kernel_rfl) ?_
  refine vl_n ?_
  refine H_of_R (R_loadN TN_175 H fun _ t8 _ _ H _ _ => ?_)
  refine vl_n ?_
  refine H_call HB_157 H fun t9 h H => ?_
  refine vl_n ?_
  refine H_of_R (R_build TB_25 rfl (by decide) H fun t10 H => ?_)
  refine vl_n ?_
  refine H_alloc TV_25 H fun t3 h H => ?_
  refine vl_n ?_
  refine H_storeN TS_25 H fun h H => ?_
  refine vl_e ?_
  refine WPc_seq (fun e h => i_liftedMap.j1 (e 1) (e 2) (e 3) h Q) ?_ (fun e h H => ?_)
  rotate_left
  · unfold i_liftedMap.j1 at H
    refine WPc_seq (fun e h => i_liftedMap.j2 (e 2) (e 3) h Q) ?_ (fun e h H => ?_)
    rotate_left
    · unfold i_liftedMap.j2 at H
      refine WPc_seq' ?_
      refine W_region (by kernel_rfl) ?_
      refine vl_n ?_
      refine H_of_R (R_loadN TN_25 H fun _ t49 _ _ H _ _ => ?_)
      refine vl_n ?_
      refine H_storeN TS_25 H fun h H => ?_
      refine vl_e ?_
      refine WPc_ret ?_
      refine resH_of rfl ?_
      refine resL_N TN_25 ?_
      refine loadN_imp H fun r2 H => ?_
      exact H
    refine WPc_seq' ?_
    refine W_region (by kernel_rfl) ?_
    refine vl_n ?_
    refine H_of_R (R_loadN TN_175 H fun _ t31 _ _ H _ _ => ?_)
    refine vl_n ?_
    refine H_call HB_160 H fun t32 h H => ?_
    refine vl_n ?_
    refine H_of_R (R_not H fun t33 H => ?_)
    refine vl_e ?_
    obtain ⟨b, hc, H1, H2⟩ := H
    refine WPc_cond hc (fun hh => ?_) (fun hh => ?_)
    · have H := H1 hh; clear H1 H2
      refine WPc_seq' ?_
      refine W_region (by kernel_rfl) ?_
      refine vl_n ?_
      refine H_of_R (R_loadN TN_175 H fun _ t34 _ _ H _ _ => ?_)
      refine vl_n ?_
      refine H_call HB_161 H fun t35 h H => ?_
      refine vl_n ?_
      refine H_of_R (R_move (v := (.int .i64 0)) rfl ?_)
      refine vl_e ?_
      refine WPc_block ?_
      refine loop_at (fun e => [e 36]) (fun e => [e 1, e 2, e 3, e 35]) H rfl rfl ?_
      intro K1 e1 h H hin1
      replace H : i_liftedMap.l3.b (e1 1) (e1 2) (e1 3) (e1 35) (e1 36) h K1 Q := H
      unfold i_liftedMap.l3.b at H
      clear hin1
      refine WPc_seq' ?_
      refine W_region (by kernel_rfl) ?_
      refine vl_n ?_
      refine H_of_R (R_lss H fun t37 H => ?_)
      refine vl_e ?_
      refine WPc_seq (fun e h => i_liftedMap.j4 (e 1) (e 2) (e 3) (e 35) (e 36) h K1 Q ∧ [e1 1, e1 2, e1 3, e1 35] = [e 1, e 2, e 3, e 35]) ?_ (fun e h ⟨H, hq1⟩ => ?_)
      rotate_left
      · unfold i_liftedMap.j4 at H
        refine WPc_seq (fun e h => i_liftedMap.j5 (e 1) (e 2) (e 3) (e 35) (e 36) h K1 Q ∧ [e1 1, e1 2, e1 3, e1 35] = [e 1, e 2, e 3, e 35]) ?_ (fun e h ⟨H, hq1⟩ => ?_)
        rotate_left
        · unfold i_liftedMap.j5 at H
          refine W_region (by kernel_rfl) ?_
          refine vl_n ?_
          refine H_of_R (R_add H fun t48 H => ?_)
          refine vl_n ?_
          refine H_of_R (R_move (v := t48) rfl ?_)
          refine vl_e ?_
          exact ⟨H, hq1⟩
        refine WPc_block ?_
        refine WPc_seq' ?_
        refine W_region (by kernel_rfl) ?_
        refine vl_n ?_
        refine H_of_R (R_move (v := (e 36)) rfl ?_)
        refine vl_n ?_
        refine H_of_R (R_assign (v := (e 36)) rfl ?_)
        refine vl_e ?_
        refine W_drawn [0, 1, 0, 0, 12, 28, 60, 127, 255, 511] (.take 0 (.take 1 (.take 2 (.take 3 (.alt 4 (.alt 5 (.alt 6 (.alt 7 (.take 8 (.alt 9 .done .none)) .none) .none) .none) .none))))) mixed (by kernel_rfl) ?_
        refine tkP rfl ?_
        refine R_fld TF_25_1 H fun t39 H => ⟨fun _ => trivial, ?_⟩
        refine tkL rfl ?_
        refine R_load1 T1_23 H fun at40 t40 hat40 _ H => ?_
        refine tkL rfl ?_
        refine R_loadN TN_175 H fun at41 xt41 hat41 _ H St41 hSt41 => ?_
        refine tkP rfl ?_
        refine R_move (v := (e 36)) rfl ⟨fun _ => trivial, ?_⟩
        refine alt_n rfl ?_ vp_none
        refine H_call HB_162 H fun t43 h ⟨S, H⟩ => ⟨(hskip rfl (hcons rfl (still_1 S hat40) hnil)), ?_⟩
        refine alt_n rfl ?_ vp_none
        refine H_call HB_118 H fun t44 h ⟨S_2, H⟩ => ⟨(hcons rfl (still_1 S_2 hat40) hnil), ?_⟩
        refine alt_n rfl ?_ vp_none
        refine H_mkSl TZ_23 (by decide) rfl H rfl fun t45 h ⟨S_3, H⟩ => ⟨(hcons rfl (still_1 S_3 hat40) hnil), ?_⟩
        refine alt_n rfl ?_ vp_none
        refine H_app TZ_23 TU_23 H fun t46 h H => ⟨(hskip rfl hnil), ?_⟩
        refine tkP rfl ?_
        refine R_fld TF_25_1 H fun t47 H => ⟨fun _ => trivial, ?_⟩
        refine alt_n rfl ?_ vp_none
        refine H_store1 TS_23 H fun h H => ⟨hnil, ?_⟩
        refine vp_done ?_
        exact ⟨H, hq1⟩
      obtain ⟨b, hc, H1, H2⟩ := H
      refine WPc_cond hc (fun hh => ?_) (fun hh => ?_)
      · have H := H1 hh; clear H1 H2
        refine WPc_skip ?_
        exact ⟨H, rfl⟩
      · have H := H2 hh; clear H1 H2
        refine WPc_exit ?_
        exact H
    · have H := H2 hh; clear H1 H2
      refine WPc_skip ?_
      exact H
  refine WPc_seq' ?_
  refine W_region (by kernel_rfl) ?_
  refine vl_n ?_
  refine H_of_R (R_loadN TN_175 H fun _ t11 _ _ H _ _ => ?_)
  refine vl_n ?_
  refine H_call HB_158 H fun t12 h H => ?_
  refine vl_n ?_
  refine H_of_R (R_move (v := (.int .i64 0)) rfl ?_)
  refine vl_e ?_
  refine WPc_block ?_
  refine loop_at (fun e => [e 13]) (fun e => [e 1, e 2, e 3, e 12]) H rfl rfl ?_
  intro K1 e1 h H hin1
  replace H : i_liftedMap.l6.b (e1 1) (e1 2) (e1 3) (e1 12) (e1 13) h K1 Q := H
  unfold i_liftedMap.l6.b at H
  clear hin1
  refine WPc_seq' ?_
  refine W_region (by kernel_rfl) ?_
  refine vl_n ?_
  refine H_of_R (R_lss H fun t14 H => ?_)
  refine vl_e ?_
  refine WPc_seq (fun e h => i_liftedMap.j7 (e 1) (e 2) (e 3) (e 12) (e 13) h K1 Q ∧ [e1 1, e1 2, e1 3, e1 12] = [e 1, e 2, e 3, e 12]) ?_ (fun e h ⟨H, hq1⟩ => ?_)
  rotate_left
  · unfold i_liftedMap.j7 at H
    refine WPc_seq (fun e h => i_liftedMap.j8 (e 1) (e 2) (e 3) (e 12) (e 13) h K1 Q ∧ [e1 1, e1 2, e1 3, e1 12] = [e 1, e 2, e 3, e 12]) ?_ (fun e h ⟨H, hq1⟩ => ?_)
    rotate_left
    · unfold i_liftedMap.j8 at H
      refine W_region (by kernel_rfl) ?_
      refine vl_n ?_
      refine H_of_R (R_add H fun t30 H => ?_)
      refine vl_n ?_
      refine H_of_R (R_move (v := t30) rfl ?_)
      refine vl_e ?_
      exact ⟨H, hq1⟩
    refine WPc_block ?_
    refine WPc_seq' ?_
    refine W_region (by kernel_rfl) ?_
    refine vl_n ?_
    refine H_of_R (R_move (v := (e 13)) rfl ?_)
    refine vl_n ?_
    refine H_of_R (R_assign (v := (e 13)) rfl ?_)
    refine vl_e ?_
    refine WPc_seq' ?_
    refine W_region (by kernel_rfl) ?_
    refine vl_n ?_
    refine H_of_R (R_loadN TN_175 H fun _ t17 _ _ H _ _ => ?_)
    refine vl_n ?_
    refine H_of_R (R_move (v := (e 13)) rfl ?_)
    refine vl_n ?_
    refine H_call HB_159 H fun t19 h H => ?_
    refine vl_n ?_
    refine H_of_R (R_move (v := t19) rfl ?_)
    refine vl_n ?_
    refine H_of_R (R_ext H fun t20 H => ?_)
    refine vl_n ?_
    refine H_of_R (R_ext H fun t21 H => ?_)
    refine vl_n ?_
    refine H_of_R (R_assign (v := t20) rfl ?_)
    refine vl_n ?_
    refine H_of_R (R_assign (v := t21) rfl ?_)
    refine vl_e ?_
    refine W_region (by kernel_rfl) ?_
    refine vl_n ?_
    refine H_of_R (R_fld TF_25_0 H fun t22 H => ?_)
    refine vl_n ?_
    refine H_of_R (R_load1 T1_22 H fun _ t23 _ _ H => ?_)
    refine vl_n ?_
    refine H_of_R (R_move (v := t20) rfl ?_)
    refine vl_n ?_
    refine H_of_R (R_move (v := t21) rfl ?_)
    refine vl_n ?_
    refine H_of_R (R_build TB_27 rfl (by decide) H fun t26 H => ?_)
    refine vl_n ?_
    refine H_mkSl TZ_22 (by decide) rfl H rfl fun t27 h H => ?_
    refine vl_n ?_
    refine H_app TZ_22 TU_22 H fun t28 h H => ?_
    refine vl_n ?_
    refine H_of_R (R_fld TF_25_0 H fun t29 H => ?_)
    refine vl_n ?_
    refine H_store1 TS_22 H fun h H => ?_
    refine vl_e ?_
    exact ⟨H, hq1⟩
  obtain ⟨b, hc, H1, H2⟩ := H
  refine WPc_cond hc (fun hh => ?_) (fun hh => ?_)
  · have H := H1 hh; clear H1 H2
    refine WPc_skip ?_
    exact ⟨H, rfl⟩
  · have H := H2 hh; clear H1 H2
    refine WPc_exit ?_
    exact H
/-! ### impl.fellMap -/
def i_fellMap.j1 (s2 : Value) (s3 : Value) (h : Heap) (Q : Value → Heap → Prop) : Prop :=
    loadN 1 s3 h fun t13 =>
    i_liftedMap.call #[t13] h fun t14 h =>
    storeN 3 s2 t14 h fun h =>
    loadN 3 s2 h fun r2 =>
    Q r2 h
def i_fellMap.sh (a0 : Value) (h : Heap) (Q : Value → Heap → Prop) : Prop :=
    alloc [(.slice none 0 0), (.slice none 0 0), (.int .i64 0)] 25 h fun t2 h =>
    Map_ii_DoorRoot.call #[a0] h fun t7 h =>
    extr 0 t7 fun t8 =>
    extr 1 t7 fun t9 =>
    alloc [(.pointer none)] 175 h fun t3 h =>
    storeN 1 t3 t8 h fun h =>
    notV t9 fun t11 =>
    ifV t11
    (buildV [(.slice none 0 0), (.slice none 0 0), (.int .i64 0)] [] fun t12 =>
    storeN 3 t2 t12 h fun h =>
    loadN 3 t2 h fun r2 =>
    Q r2 h)
    (i_fellMap.j1 t2 t3 h Q)
theorem i_fellMap.body (a0 : Value) (h : Heap) (Q : Value → Heap → Prop) (H : i_fellMap.sh a0 h Q) : i_fellMap.call #[a0] h Q := by
  refine callsH_of (args := [a0]) Try.func61 rfl rfl ?_
  unfold i_fellMap.sh at H
  refine WPc_seq' ?_
  refine W_region (by kernel_rfl) ?_
  refine vl_n ?_
  refine H_alloc TV_25 H fun t2 h H => ?_
  refine vl_e ?_
  refine WPc_seq' ?_
  refine W_region (by kernel_rfl) ?_
  refine vl_n ?_
  refine H_of_R (R_move (v := a0) rfl ?_)
  refine vl_n ?_
  refine H_call HB_117 H fun t7 h H => ?_
  refine vl_n ?_
  refine H_of_R (R_move (v := t7) rfl ?_)
  refine vl_n ?_
  refine H_of_R (R_ext H fun t8 H => ?_)
  refine vl_n ?_
  refine H_of_R (R_ext H fun t9 H => ?_)
  refine vl_n ?_
  refine H_alloc TV_175 H fun t3 h H => ?_
  refine vl_n ?_
  refine H_storeN TS_175 H fun h H => ?_
  refine vl_n ?_
  refine H_of_R (R_assign (v := t9) rfl ?_)
  refine vl_e ?_
  refine WPc_seq (fun e h => i_fellMap.j1 (e 2) (e 3) h Q) ?_ (fun e h H => ?_)
  rotate_left
  · unfold i_fellMap.j1 at H
    refine WPc_seq' ?_
    refine W_region (by kernel_rfl) ?_
    refine vl_n ?_
    refine H_of_R (R_loadN TN_175 H fun _ t13 _ _ H _ _ => ?_)
    refine vl_n ?_
    refine H_call HB_118 H fun t14 h H => ?_
    refine vl_n ?_
    refine H_storeN TS_25 H fun h H => ?_
    refine vl_e ?_
    refine WPc_ret ?_
    refine resH_of rfl ?_
    refine resL_N TN_25 ?_
    refine loadN_imp H fun r2 H => ?_
    exact H
  refine WPc_seq' ?_
  refine W_region (by kernel_rfl) ?_
  refine vl_n ?_
  refine H_of_R (R_move (v := t9) rfl ?_)
  refine vl_n ?_
  refine H_of_R (R_not H fun t11 H => ?_)
  refine vl_e ?_
  obtain ⟨b, hc, H1, H2⟩ := H
  refine WPc_cond hc (fun hh => ?_) (fun hh => ?_)
  · have H := H1 hh; clear H1 H2
    refine WPc_seq' ?_
    refine W_region (by kernel_rfl) ?_
    refine vl_n ?_
    refine H_of_R (R_build TB_25 rfl (by decide) H fun t12 H => ?_)
    refine vl_n ?_
    refine H_storeN TS_25 H fun h H => ?_
    refine vl_e ?_
    refine WPc_ret ?_
    refine resH_of rfl ?_
    refine resL_N TN_25 ?_
    refine loadN_imp H fun r2 H => ?_
    exact H
  · have H := H2 hh; clear H1 H2
    refine WPc_skip ?_
    exact H
end Go.Proofs.Ytlihjljdndbpdaa
end
section
namespace Go.Proofs.Ytlihjljdndbpdaa
open Go.Hp
set_option linter.unusedVariables false
set_option linter.unusedSimpArgs false
variable {h0 h : Heap} {Z E : List Rg} {Q : Value → Heap → Prop}

/-- What is found, as the laws have it. -/
abbrev foundV (o : Option It) : Value := match o with
  | some p => .agg #[I p.1, I p.2, .bool true]
  | none => .agg #[I 0, I 0, .bool false]
end Go.Proofs.Ytlihjljdndbpdaa
end
section
namespace Go.Hp
set_option linter.unusedVariables false
set_option linter.unusedSimpArgs false

/-- An order up to equals. -/
structure Swo {α : Type} (lt : α → α → Bool) : Prop where
  irr : ∀ a, lt a a = false
  tr : ∀ a b c, lt a b = true → lt b c = true → lt a c = true
  ntr : ∀ a b c, lt a b = false → lt b c = false → lt a c = false
namespace Swo
variable {α : Type} {lt : α → α → Bool} (o : Swo lt)
include o
theorem asym {a b : α} (h : lt a b = true) : lt b a = false := by
  cases e : lt b a with
  | false => rfl
  | true => have := o.tr _ _ _ h e; rw [o.irr] at this; cases this
theorem tr1 {a b c : α} (h : lt a b = true) (k : lt c b = false) : lt a c = true := by
  cases e : lt a c with
  | true => rfl
  | false => have := o.ntr _ _ _ e k; rw [h] at this; cases this
theorem tr2 {a b c : α} (h : lt b a = false) (k : lt b c = true) : lt a c = true := by
  cases e : lt a c with
  | true => rfl
  | false => have := o.ntr _ _ _ h e; rw [k] at this; cases this
end Swo
def Asc {α : Type} (lt : α → α → Bool) (l : List α) : Prop := l.Pairwise fun a b => lt a b = true

section
variable {α : Type} (lt : α → α → Bool)
/-- How many come before x, at the beginning. -/
def pos (l : List α) (x : α) : Nat := (l.takeWhile fun y => lt y x).length
def lget (l : List α) (x : α) : Option α := (l[pos lt l x]?).bind fun y => if lt x y then none else some y
def lput (l : List α) (x : α) : List α := l.take (pos lt l x) ++ x :: l.drop (pos lt l x + if (lget lt l x).isSome then 1 else 0)
def ins (l : List α) (i : Nat) (x : α) : List α := l.take i ++ x :: l.drop i
variable {lt}
theorem pos_le (l : List α) (x : α) : pos lt l x ≤ l.length := (List.takeWhile_sublist _).length_le
theorem pos_lt {l : List α} {x : α} : ∀ {j : Nat} (h : j < pos lt l x), lt (l[j]'(Nat.lt_of_lt_of_le h (pos_le l x))) x = true := by
  induction l with
  | nil => intro j h; exact absurd h (Nat.not_lt_zero _)
  | cons y r ih =>
    intro j h
    unfold pos at h
    cases e : lt y x with
    | false => rw [List.takeWhile_cons_of_neg (by simp [e])] at h; exact absurd h (Nat.not_lt_zero _)
    | true =>
      rw [List.takeWhile_cons_of_pos (by simp [e])] at h
      cases j with
      | zero => exact e
      | succ j => exact ih (by simpa [pos] using h)
theorem pos_at {l : List α} {x : α} (h : pos lt l x < l.length) : lt l[pos lt l x] x = false := by
  induction l with
  | nil => exact absurd h (Nat.not_lt_zero _)
  | cons y r ih =>
    cases e : lt y x with
    | false =>
      have : pos lt (y :: r) x = 0 := by unfold pos; rw [List.takeWhile_cons_of_neg (by simp [e])]; rfl
      simp only [this, List.getElem_cons_zero]; exact e
    | true =>
      have : pos lt (y :: r) x = pos lt r x + 1 := by unfold pos; rw [List.takeWhile_cons_of_pos (by simp [e])]; rfl
      simp only [this, List.getElem_cons_succ]
      exact ih (by rw [this] at h; simpa using h)
theorem pos_uni {l : List α} {x : α} {i : Nat} (hi : i ≤ l.length) (h1 : ∀ j (h : j < l.length), j < i → lt l[j] x = true) (h2 : ∀ h : i < l.length, lt l[i] x = false) : pos lt l x = i := by
  rcases Nat.lt_trichotomy (pos lt l x) i with h | h | h
  · have := h1 _ (by omega) h; rw [pos_at (lt := lt) (l := l) (x := x) (by omega)] at this; cases this
  · exact h
  · have hl := pos_le (lt := lt) l x
    have := h2 (by omega); rw [pos_lt h] at this; cases this
theorem pos_app {p l : List α} {x : α} (hp : ∀ y ∈ p, lt y x = true) : pos lt (p ++ l) x = p.length + pos lt l x := by
  unfold pos
  rw [List.takeWhile_append_of_pos hp, List.length_append]
theorem pos_zero {s : List α} {x : α} (hs : ∀ y, s.head? = some y → lt y x = false) : pos lt s x = 0 := by
  cases s with
  | nil => rfl
  | cons y r => unfold pos; rw [List.takeWhile_cons_of_neg (by simp [hs y rfl])]; rfl
theorem pos_app2 {k s : List α} {x : α} (hs : ∀ y, s.head? = some y → lt y x = false) : pos lt (k ++ s) x = pos lt k x := by
  induction k with
  | nil => simpa [pos] using pos_zero hs
  | cons y r ih =>
    unfold pos at ih ⊢
    rw [List.cons_append]
    cases e : lt y x with
    | false => rw [List.takeWhile_cons_of_neg (by simp [e]), List.takeWhile_cons_of_neg (by simp [e])]
    | true => rw [List.takeWhile_cons_of_pos (by simp [e]), List.takeWhile_cons_of_pos (by simp [e]), List.length_cons, List.length_cons, ih]
variable (o : Swo lt)
include o
theorem lget_mid {p k s : List α} {x : α} (hp : ∀ y ∈ p, lt y x = true) (hs : ∀ y, s.head? = some y → lt x y = true) : lget lt (p ++ (k ++ s)) x = lget lt k x := by
  unfold lget
  rw [pos_app hp, List.getElem?_append_right (by omega), Nat.add_sub_cancel_left, pos_app2 (fun y hy => o.asym (hs y hy))]
  rcases Nat.lt_or_ge (pos lt k x) k.length with h | h
  · rw [List.getElem?_append_left h]
  · have e : pos lt k x = k.length := Nat.le_antisymm (pos_le k x) h
    rw [e, List.getElem?_append_right (Nat.le_refl _), Nat.sub_self, List.getElem?_eq_none (Nat.le_refl _)]
    cases s with
    | nil => rfl
    | cons y r => simp [hs y rfl]
theorem lput_mid {p k s : List α} {x : α} (hp : ∀ y ∈ p, lt y x = true) (hs : ∀ y, s.head? = some y → lt x y = true) : lput lt (p ++ (k ++ s)) x = p ++ (lput lt k x ++ s) := by
  unfold lput
  rw [lget_mid o hp hs, pos_app hp, pos_app2 (fun y hy => o.asym (hs y hy))]
  have hk := pos_le (lt := lt) k x
  rw [List.take_length_add_append, Nat.add_assoc, List.drop_length_add_append, List.take_append_of_le_length hk]
  have : pos lt k x + (if (lget lt k x).isSome = true then 1 else 0) ≤ k.length := by
    split
    · rename_i h
      unfold lget at h
      rcases Nat.lt_or_ge (pos lt k x) k.length with h' | h'
      · omega
      · rw [List.getElem?_eq_none h'] at h; simp at h
    · omega
  rw [List.drop_append_of_le_length this]
  simp
omit o in
theorem lget_at {p s : List α} {x y : α} (hp : ∀ y ∈ p, lt y x = true) (h1 : lt y x = false) (h2 : lt x y = false) : lget lt (p ++ y :: s) x = some y := by
  unfold lget
  rw [pos_app hp, pos_zero (s := y :: s) (fun z hz => by simp at hz; subst hz; exact h1), List.getElem?_append_right (by omega)]
  simp [h2]
omit o in
theorem lput_at {p s : List α} {x y : α} (hp : ∀ y ∈ p, lt y x = true) (h1 : lt y x = false) (h2 : lt x y = false) : lput lt (p ++ y :: s) x = p ++ x :: s := by
  unfold lput
  rw [lget_at hp h1 h2, pos_app hp, pos_zero (s := y :: s) (fun z hz => by simp at hz; subst hz; exact h1)]
  simp
omit o in
theorem lget_some {l : List α} {x y : α} (h : lget lt l x = some y) : ∃ hp : pos lt l x < l.length, l[pos lt l x] = y ∧ lt y x = false ∧ lt x y = false := by
  unfold lget at h
  rcases Nat.lt_or_ge (pos lt l x) l.length with hp | hp
  · refine ⟨hp, ?_⟩
    rw [List.getElem?_eq_getElem hp, Option.bind_some] at h
    split at h
    · cases h
    · rename_i h2
      cases h
      exact ⟨rfl, pos_at hp, by simpa using h2⟩
  · rw [List.getElem?_eq_none hp] at h; cases h
omit o in
theorem lget_none {l : List α} {x : α} (h : lget lt l x = none) (hp : pos lt l x < l.length) : lt x l[pos lt l x] = true := by
  unfold lget at h
  rw [List.getElem?_eq_getElem hp, Option.bind_some] at h
  split at h
  · assumption
  · cases h
omit o in
theorem asc_app {l r : List α} (h : Asc lt (l ++ r)) : Asc lt l ∧ Asc lt r ∧ ∀ a ∈ l, ∀ b ∈ r, lt a b = true := List.pairwise_append.1 h
omit o in
theorem asc_app' {l r : List α} (h1 : Asc lt l) (h2 : Asc lt r) (h3 : ∀ a ∈ l, ∀ b ∈ r, lt a b = true) : Asc lt (l ++ r) := List.pairwise_append.2 ⟨h1, h2, h3⟩
/-- What comes before x, and the rest, of a list that ascends. -/
theorem asc_pos {l : List α} {x : α} (h : Asc lt l) : (∀ y ∈ l.take (pos lt l x), lt y x = true) ∧ ∀ y ∈ l.drop (pos lt l x), lt y x = false := by
  constructor
  · intro y hy
    obtain ⟨i, hi, rfl⟩ := List.getElem_of_mem hy
    simp only [List.length_take] at hi
    rw [List.getElem_take]; exact pos_lt (by omega)
  · intro y hy
    obtain ⟨i, hi, rfl⟩ := List.getElem_of_mem hy
    simp only [List.length_drop] at hi
    rw [List.getElem_drop]
    rcases Nat.eq_zero_or_pos i with e | e
    · subst e; exact pos_at (by omega)
    · have h1 := pos_at (lt := lt) (l := l) (x := x) (by omega)
      have h2 := List.pairwise_iff_getElem.1 h (pos lt l x) (pos lt l x + i) (by omega) (by omega) (by omega)
      cases e2 : lt l[pos lt l x + i] x with
      | false => rfl
      | true => have := o.tr _ _ _ h2 e2; rw [h1] at this; cases this
theorem asc_lput {l : List α} {x : α} (h : Asc lt l) : Asc lt (lput lt l x) := by
  obtain ⟨h1, h2⟩ := asc_pos (x := x) o h
  unfold lput
  have hd : ∀ y ∈ l.drop (pos lt l x + if (lget lt l x).isSome then 1 else 0), lt x y = true := by
    intro y hy
    cases e : lget lt l x with
    | none =>
      rw [e] at hy
      simp only [Option.isSome_none, Bool.false_eq_true, if_false, Nat.add_zero] at hy
      obtain ⟨i, hi, rfl⟩ := List.getElem_of_mem hy
      simp only [List.length_drop] at hi
      rw [List.getElem_drop]
      have h0 := lget_none e (by omega)
      rcases Nat.eq_zero_or_pos i with ei | ei
      · subst ei; exact h0
      · exact o.tr _ _ _ h0 (List.pairwise_iff_getElem.1 h _ _ (by omega) (by omega) (by omega))
    | some z =>
      rw [e] at hy
      obtain ⟨hp, hz, h3, h4⟩ := lget_some e
      simp only [Option.isSome_some, if_true] at hy
      obtain ⟨i, hi, rfl⟩ := List.getElem_of_mem hy
      simp only [List.length_drop] at hi
      rw [List.getElem_drop]
      have := List.pairwise_iff_getElem.1 h (pos lt l x) (pos lt l x + 1 + i) (by omega) (by omega) (by omega)
      rw [hz] at this
      exact o.tr2 h3 this
  refine asc_app' (h.sublist (List.take_sublist _ _)) (List.pairwise_cons.2 ⟨hd, h.sublist (List.drop_sublist _ _)⟩) fun a ha b hb => ?_
  rcases List.mem_cons.1 hb with e | e
  · subst e; exact h1 a ha
  · exact o.tr _ _ _ (h1 a ha) (hd b e)
omit o in
theorem lput_length {l : List α} {x : α} : (lput lt l x).length = l.length + if (lget lt l x).isSome then 0 else 1 := by
  have hk := pos_le (lt := lt) l x
  unfold lput
  cases e : lget lt l x with
  | none => simp; omega
  | some y => obtain ⟨hp, _⟩ := lget_some e; simp; omega
end

/-! ### trees -/
section
variable {α : Type} (lt : α → α → Bool) (m : Nat)
def PT.get : {h : Nat} → PT α h → α → Option α
  | 0, l, x => lget lt l x
  | _ + 1, t, x => match lget lt t.1 x with
    | some y => some y
    | none => match t.2[pos lt t.1 x]? with
      | some c => PT.get c x
      | none => none
/-- Whether there is no room for x. -/
def PT.splits : {h : Nat} → PT α h → α → Bool
  | 0, l, x => (lget lt l x).isNone && List.length l == m
  | _ + 1, t, x => (lget lt t.1 x).isNone && t.1.length == m && match t.2[pos lt t.1 x]? with
      | some c => PT.splits c x
      | none => false
def PT.lo (i : Nat) : {h : Nat} → PT α h → PT α h
  | 0, l => List.take i l
  | _ + 1, t => (t.1.take i, t.2.take (i + 1))
def PT.hi (i : Nat) : {h : Nat} → PT α h → PT α h
  | 0, l => List.drop (i + 1) l
  | _ + 1, t => (t.1.drop (i + 1), t.2.drop (i + 1))
def PT.set : {h : Nat} → PT α h → α → PT α h
  | 0, l, x => lput lt l x
  | _ + 1, t, x => match lget lt t.1 x with
    | some _ => (lput lt t.1 x, t.2)
    | none => match t.2[pos lt t.1 x]? with
      | none => t
      | some c => if PT.splits lt m c x then
          match c.its[m / 2]? with
          | none => t
          | some md => if lt md x then (ins t.1 (pos lt t.1 x) md, t.2.take (pos lt t.1 x) ++ c.lo (m / 2) :: PT.set (c.hi (m / 2)) x :: t.2.drop (pos lt t.1 x + 1))
            else (ins t.1 (pos lt t.1 x) md, t.2.take (pos lt t.1 x) ++ PT.set (c.lo (m / 2)) x :: c.hi (m / 2) :: t.2.drop (pos lt t.1 x + 1))
        else (t.1, t.2.set (pos lt t.1 x) (PT.set c x))
end
section
variable {α : Type}
def lz (a : List α) (ka : List (List α)) : List α := (ka.zip a).flatMap fun p => p.1 ++ [p.2]
def rz (b : List α) (kb : List (List α)) : List α := (b.zip kb).flatMap fun p => p.1 :: p.2
theorem inter_r : ∀ (b : List α) (k : List α) (kb : List (List α)), kb.length = b.length → inter b (k :: kb) = k ++ rz b kb
  | [], k, [], _ => by simp [inter, rz]
  | y :: b, k, k2 :: kb, h => by
    have := inter_r b k2 kb (by simpa using h)
    simp only [inter, rz, List.zip_cons_cons, List.flatMap_cons] at this ⊢
    rw [this]; rfl
theorem inter_lr : ∀ (a b : List α) (ka : List (List α)) (k : List α) (kb : List (List α)), ka.length = a.length → kb.length = b.length → inter (a ++ b) (ka ++ k :: kb) = lz a ka ++ (k ++ rz b kb)
  | [], b, [], k, kb, _, h => by simpa [lz] using inter_r b k kb h
  | y :: a, b, k1 :: ka, k, kb, h1, h2 => by
    have := inter_lr a b ka k kb (by simpa using h1) h2
    simp only [List.cons_append, inter, this, lz, List.zip_cons_cons, List.flatMap_cons]
    simp
theorem lz_snoc (a : List α) (y : α) (ka : List (List α)) (k : List α) (h : ka.length = a.length) : lz (a ++ [y]) (ka ++ [k]) = lz a ka ++ (k ++ [y]) := by
  unfold lz; rw [List.zip_append h]; simp
theorem rz_cons (b : List α) (y : α) (kb : List (List α)) (k : List α) : rz (y :: b) (k :: kb) = y :: (k ++ rz b kb) := rfl
theorem inter_sub : ∀ (its : List α) (ks : List (List α)), its.Sublist (inter its ks)
  | its, [] => List.Sublist.refl _
  | [], k :: ks => List.nil_sublist _
  | y :: r, k :: ks => (List.Sublist.cons_cons y (inter_sub r ks)).trans (List.sublist_append_right _ _)
theorem PT.its_sub : ∀ {h : Nat} (t : PT α h), t.its.Sublist t.items
  | 0, _ => List.Sublist.refl _
  | _ + 1, t => inter_sub _ _
/-- Shapes: at least lo items and at most m; below at least m / 2. -/
def PT.Fl (m : Nat) : {h : Nat} → (lo : Nat) → PT α h → Prop
  | 0, lo, l => lo ≤ List.length l ∧ List.length l ≤ m
  | _ + 1, lo, t => lo ≤ t.1.length ∧ t.1.length ≤ m ∧ t.2.length = t.1.length + 1 ∧ ∀ k, k ∈ t.2 → PT.Fl m (m / 2) k
theorem PT.Fl.le {m : Nat} : ∀ {h lo : Nat} {t : PT α h}, t.Fl m lo → lo ≤ t.its.length ∧ t.its.length ≤ m
  | 0, _, _, f => f
  | _ + 1, _, _, f => ⟨f.1, f.2.1⟩
theorem PT.Fl.mono {m : Nat} : ∀ {h lo lo' : Nat} {t : PT α h}, t.Fl m lo → lo' ≤ lo → t.Fl m lo'
  | 0, _, _, _, f, e => ⟨Nat.le_trans e f.1, f.2⟩
  | _ + 1, _, _, _, f, e => ⟨Nat.le_trans e f.1, f.2⟩
theorem PT.Fl.sh {m : Nat} : ∀ {h lo : Nat} {t : PT α h}, t.Fl m lo → t.Sh m
  | 0, _, _, f => f.2
  | _ + 1, _, _, f => ⟨f.2.1, f.2.2.1, fun k hk => (f.2.2.2 k hk).sh⟩
theorem PT.Fl.lo {m i : Nat} (hi : m / 2 ≤ i) : ∀ {h l : Nat} {t : PT α h}, t.Fl m l → i ≤ t.its.length → (t.lo i).Fl m (m / 2)
  | 0, _, t, f, hl => by
    have key : ∀ l : List α, i ≤ l.length → l.length ≤ m → m / 2 ≤ (l.take i).length ∧ (l.take i).length ≤ m := fun l h1 h2 => by
      rw [List.length_take]; omega
    exact key t hl f.2
  | _ + 1, _, t, f, hl => by
    have hl : i ≤ t.1.length := hl
    have h1 := f.2.1; have h2 := f.2.2.1
    refine ⟨?_, ?_, ?_, fun k hk => f.2.2.2 k (List.mem_of_mem_take hk)⟩
    · show m / 2 ≤ (t.1.take i).length; rw [List.length_take]; omega
    · show (t.1.take i).length ≤ m; rw [List.length_take]; omega
    · show (t.2.take (i + 1)).length = (t.1.take i).length + 1; rw [List.length_take, List.length_take]; omega
theorem PT.Fl.hi {m i : Nat} : ∀ {h l : Nat} {t : PT α h}, t.Fl m l → m / 2 + i + 1 ≤ t.its.length → (t.hi i).Fl m (m / 2)
  | 0, _, t, f, hl => by
    have key : ∀ l : List α, m / 2 + i + 1 ≤ l.length → l.length ≤ m → m / 2 ≤ (l.drop (i + 1)).length ∧ (l.drop (i + 1)).length ≤ m := fun l h1 h2 => by
      rw [List.length_drop]; omega
    exact key t hl f.2
  | _ + 1, _, t, f, hl => by
    have hl : m / 2 + i + 1 ≤ t.1.length := hl
    have h1 := f.2.1; have h2 := f.2.2.1
    refine ⟨?_, ?_, ?_, fun k hk => f.2.2.2 k (List.mem_of_mem_drop hk)⟩
    · show m / 2 ≤ (t.1.drop (i + 1)).length; rw [List.length_drop]; omega
    · show (t.1.drop (i + 1)).length ≤ m; rw [List.length_drop]; omega
    · show (t.2.drop (i + 1)).length = (t.1.drop (i + 1)).length + 1; rw [List.length_drop, List.length_drop]; omega
theorem PT.lo_its : ∀ {h i : Nat} (t : PT α h), (t.lo i).its = t.its.take i
  | 0, _, _ => rfl
  | _ + 1, _, _ => rfl
theorem PT.hi_its : ∀ {h i : Nat} (t : PT α h), (t.hi i).its = t.its.drop (i + 1)
  | 0, _, _ => rfl
  | _ + 1, _, _ => rfl
theorem take_at {β : Type} {l : List β} {i : Nat} {y : β} (h : l[i]? = some y) : l = l.take i ++ y :: l.drop (i + 1) := by
  obtain ⟨hi, rfl⟩ := List.getElem?_eq_some_iff.1 h
  rw [← List.drop_eq_getElem_cons hi, List.take_append_drop]
/-- A node's items around its kid i. -/
theorem PT.around {m h lo : Nat} {t : PT α (h + 1)} (f : t.Fl m lo) {i : Nat} (hi : i ≤ t.1.length) : ∃ c, t.2[i]? = some c ∧ c ∈ t.2 ∧ t.items = lz (t.1.take i) ((t.2.take i).map PT.items) ++ (c.items ++ rz (t.1.drop i) ((t.2.drop (i + 1)).map PT.items)) := by
  have h2 := f.2.2.1
  have hi2 : i < t.2.length := by omega
  refine ⟨t.2[i], List.getElem?_eq_getElem hi2, List.getElem_mem hi2, ?_⟩
  show inter t.1 (t.2.map PT.items) = _
  conv => lhs; rw [take_at (List.getElem?_eq_getElem hi2), ← List.take_append_drop i t.1, List.map_append, List.map_cons]
  exact inter_lr _ _ _ _ _ (by simp; omega) (by simp; omega)
theorem PT.cut_items {m : Nat} : ∀ {h lo i : Nat} {t : PT α h} {md : α}, t.Fl m lo → t.its[i]? = some md → t.items = (t.lo i).items ++ md :: (t.hi i).items
  | 0, _, _, _, _, _, h => take_at h
  | h + 1, lo, i, t, md, f, hm => by
    have hm : t.1[i]? = some md := hm
    obtain ⟨hi, _⟩ := List.getElem?_eq_some_iff.1 hm
    have h2 := f.2.2.1
    obtain ⟨c, hc, _, e⟩ := PT.around f (Nat.le_of_lt hi)
    obtain ⟨d, hd⟩ : ∃ d, t.2[i + 1]? = some d := ⟨t.2[i + 1], List.getElem?_eq_getElem (by omega)⟩
    rw [e]
    have ed : t.1.drop i = md :: t.1.drop (i + 1) := by
      obtain ⟨h', e'⟩ := List.getElem?_eq_some_iff.1 hm
      rw [← e']; exact List.drop_eq_getElem_cons h'
    have ek : t.2.drop (i + 1) = d :: t.2.drop (i + 2) := by
      obtain ⟨h', e'⟩ := List.getElem?_eq_some_iff.1 hd
      rw [← e']; exact List.drop_eq_getElem_cons h'
    have et : t.2.take (i + 1) = t.2.take i ++ [c] := by rw [List.take_add_one, hc]; rfl
    have l1 : (PT.lo i t).items = lz (t.1.take i) ((t.2.take i).map PT.items) ++ c.items := by
      show inter (t.1.take i) ((t.2.take (i + 1)).map PT.items) = _
      have := inter_lr (t.1.take i) [] ((t.2.take i).map PT.items) c.items [] (by simp; omega) rfl
      rw [et, List.map_append, List.map_cons, List.map_nil]
      simpa [rz] using this
    have l2 : (PT.hi i t).items = d.items ++ rz (t.1.drop (i + 1)) ((t.2.drop (i + 2)).map PT.items) := by
      show inter (t.1.drop (i + 1)) ((t.2.drop (i + 1)).map PT.items) = _
      rw [ek, List.map_cons]
      exact inter_r _ _ _ (by simp; omega)
    rw [l1, l2, ed, ek, List.map_cons, rz_cons]
    simp
end
end Go.Hp
end
section
namespace Go.Proofs.Ytlihjljdndbpdaa
open Go.Hp
set_option linter.unusedVariables false
set_option linter.unusedSimpArgs false
variable {h0 h : Heap} {Z E : List Rg} {Q : Value → Heap → Prop}

theorem exists_list {α β : Type} {R : α → β → Prop} : ∀ (l : List α), (∀ a, a ∈ l → ∃ b, R a b) → ∃ l' : List β, l'.length = l.length ∧ ∀ i (h1 : i < l.length) (h2 : i < l'.length), R l[i] l'[i]
  | [], _ => ⟨[], rfl, fun i h1 => absurd h1 (Nat.not_lt_zero _)⟩
  | a :: r, h => by
    obtain ⟨b, hb⟩ := h a (List.mem_cons_self ..)
    obtain ⟨l', h1, h2⟩ := exists_list r fun x hx => h x (List.mem_cons_of_mem _ hx)
    refine ⟨b :: l', by simp [h1], fun i i1 i2 => ?_⟩
    cases i with
    | zero => exact hb
    | succ i => exact h2 i (by simpa using i1) (by simpa using i2)

theorem lv_pos : ∀ {k : Nat} (t : DT k), t.lv.2 = true → 1 ≤ t.lv.1
  | 0, e => e.elim
  | k + 1, t => by
    unfold DT.lv
    split
    · intro _; exact Nat.le_refl _
    · split
      · intro _; exact Nat.succ_le_succ (Nat.zero_le _)
      · intro h; cases h

/-- What a tree takes from a node as data. -/
structure Uni {k n : Nat} (t : DT k) (x : PT It n) : Prop where
  its : x.its = t.its
  items : x.items = t.items
  sh : ∀ m, t.bulk ≤ m → x.Sh m
  arg : ∀ h vi vk, ArgD h t vi vk → ArgT h x vi vk
  fl : ∀ d lo : Nat, 1 ≤ d → t.fl d lo = true → x.Fl (2 * d - 1) lo

theorem uni_of : ∀ {k : Nat} (t : DT k) (n : Nat), t.lv = (n + 1, true) → ∃ x : PT It n, Uni t x
  | 0, e, _, _ => e.elim
  | k + 1, t, n, h => by
    match ht : t.2 with
    | [] =>
      have hl : t.lv = (1, true) := by unfold DT.lv; rw [ht]
      rw [hl] at h
      have hn : n = 0 := by have := congrArg Prod.fst h; simp at this; omega
      subst hn
      refine ⟨t.1, rfl, ?_, fun m hm => ?_, fun h vi vk ⟨hr, cs, hcl, hrk, _⟩ => ⟨hr, ?_⟩, fun d lo h1 hf => ?_⟩
      · show t.1 = inter t.1 (t.2.map DT.items); rw [ht]; rfl
      · have := t.kids_le; show t.1.length ≤ m; omega
      · rw [ht] at hcl
        have hc0 : cs.length = 0 := hcl
        obtain ⟨a, cap, e, _⟩ := hrk
        rw [hc0] at e
        exact ⟨a, cap, e⟩
      · have : t.fl d lo = (decide ((lo : Int) ≤ t.1.length) && decide ((t.1.length : Int) ≤ 2 * d - 1) && t.2.all fun q => DT.fl d (d - 1) q) := rfl
        rw [this] at hf
        simp only [Bool.and_eq_true, decide_eq_true_eq] at hf
        show lo ≤ t.1.length ∧ t.1.length ≤ 2 * d - 1
        omega
    | q :: qs =>
      by_cases e : qs.length = t.1.length
      · have hl : t.lv = (q.lv.1 + 1, q.lv.2 && qs.all fun x => x.lv.2 && x.lv.1 == q.lv.1) := by
          conv => lhs; unfold DT.lv
          rw [ht]; simp only [if_pos e]
        rw [hl] at h
        have hn := congrArg Prod.fst h
        have hb := congrArg Prod.snd h
        simp only at hn hb
        have hq : q.lv.2 = true := by cases hh : q.lv.2 <;> simp_all
        have hp := lv_pos q hq
        obtain ⟨n, rfl⟩ : ∃ m, n = m + 1 := ⟨n - 1, by omega⟩
        have hall : ∀ x, x ∈ t.2 → x.lv = (n + 1, true) := fun x hx => by
          rw [ht] at hx
          rcases List.mem_cons.1 hx with rfl | hx
          · exact Prod.ext (by simp only; omega) hq
          · rw [hq, Bool.true_and, List.all_eq_true] at hb
            have := hb x hx
            simp only [Bool.and_eq_true, beq_iff_eq] at this
            exact Prod.ext (by simp only; omega) this.1
        obtain ⟨xs, hxl, hxs⟩ := exists_list t.2 fun x hx => uni_of x n (hall x hx)
        refine ⟨(t.1, xs), rfl, ?_, fun m hm => ?_, fun h vi vk ⟨hr, cs, hcl, hrk, hks⟩ => ⟨hr, ?_, cs, ?_, hrk, fun j h1 h2 => ?_⟩, fun d lo h1 hf => ?_⟩
        · show inter t.1 (xs.map PT.items) = inter t.1 (t.2.map DT.items)
          congr 1
          refine List.ext_getElem (by simp [hxl]) fun i h1 h2 => ?_
          simp only [List.getElem_map]
          exact (hxs i (by simpa using h2) (by simpa using h1)).items
        · have hk := t.kids_le
          refine ⟨by show t.1.length ≤ m; omega, by show xs.length = t.1.length + 1; rw [hxl, ht, List.length_cons, e], fun x hx => ?_⟩
          obtain ⟨i, hi, rfl⟩ := List.getElem_of_mem (show x ∈ xs from hx)
          have := t.kid_le (List.getElem_mem (show i < t.2.length by omega))
          exact (hxs i (by omega) hi).sh m (by omega)
        · show xs ≠ []
          intro hh
          rw [hh, ht] at hxl
          simp at hxl
        · show cs.length = xs.length
          rw [hxl]; exact hcl
        · have h1' : j < xs.length := h1
          exact (hxs j (by omega) h1').arg h _ _ (hks j (by omega) h2)
        · have : t.fl d lo = (decide ((lo : Int) ≤ t.1.length) && decide ((t.1.length : Int) ≤ 2 * d - 1) && t.2.all fun q => DT.fl d (d - 1) q) := rfl
          rw [this] at hf
          simp only [Bool.and_eq_true, decide_eq_true_eq, List.all_eq_true] at hf
          refine ⟨by show lo ≤ t.1.length; omega, by show t.1.length ≤ _; omega, by show xs.length = t.1.length + 1; rw [hxl, ht, List.length_cons, e], fun x hx => ?_⟩
          obtain ⟨i, hi, rfl⟩ := List.getElem_of_mem (show x ∈ xs from hx)
          have h3 := hf.2 _ (List.getElem_mem (show i < t.2.length by omega))
          have e4 : (2 * d - 1) / 2 = d - 1 := by omega
          rw [e4]
          refine (hxs i (by omega) hi).fl d (d - 1) h1 ?_
          rw [show ((d - 1 : Nat) : Int) = (d : Int) - 1 by omega]; exact h3
      · have hl : t.lv = (0, false) := by unfold DT.lv; rw [ht]; simp only [if_neg e]
        rw [hl] at h
        cases h

theorem i_standMap_empty {g : Heap} {d : Int} {a0 a1 : Option Addr} {c0 c1 : Nat} {vc : Value} (h1 : 2 ≤ d) (h2 : d ≤ 1073741824)
    (H : ∀ tb h', St g [] [(tb, 0, hdr 0 none none 0 (d - 1) (2 * d - 1))] h' → Q (ptr tb 0) h') : i_standMap.call #[I d, .agg #[.slice a0 0 c0, .slice a1 0 c1, vc]] g Q := by
  refine i_standMap.body _ _ _ _ ?_
  unfold i_standMap.sh
  have s := St.start g
  refine St.r_box (cs := [.slice a0 0 c0, .slice a1 0 c1, vc]) s fun t3 h s => ?_
  refine NewMap_ii_ok s h1 h2 fun tb h s => ?_
  refine r_fld ?_
  refine St.r_load0 s 1 rfl rfl ?_
  refine r_len ?_
  refine r_cmpI ?_
  refine r_br (fun _ => ?_) (fun e => absurd e (by decide))
  refine r_fld ?_
  refine St.r_load0 s 1 rfl rfl ?_
  refine r_len ?_
  refine r_cmpI ?_
  refine r_if (fun e => absurd e (by decide)) (fun _ => ?_)
  unfold i_standMap.j1
  exact H tb h (s.sub (by simp))

set_option maxRecDepth 100000 in
theorem eqFound : ∀ (d : Nat) (o : Option It), EqV Try.prog (d + 3) 32 (foundV o) (foundV o) true := fun d o => by
  have key : ∀ (a b : Int) (c : Bool), EqV Try.prog (d + 3) 32 (.agg #[I a, I b, .bool c]) (.agg #[I a, I b, .bool c]) true := fun a b c => by
    refine .inr (.inr (.inr ⟨_, _, _, Try.underlying32, by kernel_rfl, rfl, rfl, ?_⟩))
    refine ⟨by decide, .agg #[I a, I b], .agg #[I a, I b], true, ⟨_, Try.underlying27, .inl ⟨by kernel_rfl, _, Try.type27, rfl⟩⟩, ⟨_, Try.underlying27, .inl ⟨by kernel_rfl, _, Try.type27, rfl⟩⟩, ?_, .inr ⟨rfl, ?_⟩⟩
    · refine .inr (.inr (.inr ⟨_, _, _, Try.underlying27, by kernel_rfl, rfl, rfl, ?_⟩))
      refine ⟨by decide, I a, I a, true, ⟨_, Try.underlying3, .inr ⟨by kernel_rfl, rfl⟩⟩, ⟨_, Try.underlying3, .inr ⟨by kernel_rfl, rfl⟩⟩, .inl ⟨_, _, a, a, Try.underlying3, rfl, rfl, by simp⟩, .inr ⟨rfl, ?_⟩⟩
      refine ⟨by decide, I b, I b, true, ⟨_, Try.underlying3, .inr ⟨by kernel_rfl, rfl⟩⟩, ⟨_, Try.underlying3, .inr ⟨by kernel_rfl, rfl⟩⟩, .inl ⟨_, _, b, b, Try.underlying3, rfl, rfl, by simp⟩, .inr ⟨rfl, rfl⟩⟩
    · refine ⟨by decide, .bool c, .bool c, true, ⟨_, Try.underlying4, .inr ⟨by kernel_rfl, rfl⟩⟩, ⟨_, Try.underlying4, .inr ⟨by kernel_rfl, rfl⟩⟩, .inr (.inl ⟨c, c, Try.underlying4, rfl, rfl, by simp⟩), .inr ⟨rfl, rfl⟩⟩
  cases o with
  | none => exact key 0 0 false
  | some p => exact key p.1 p.2 true
end Go.Proofs.Ytlihjljdndbpdaa
end
section
namespace Go.Proofs.Ytlihjljdndbpdaa
open Go.Hp
set_option linter.unusedVariables false
set_option linter.unusedSimpArgs false
variable {h0 h : Heap} {Z E : List Rg} {Q : Value → Heap → Prop}
/-- A node as data in memory, whose kids' counts are right. -/
def ArgC (h : Heap) : {k : Nat} → PT It k → Value → Value → Prop
  | 0, its, vi, vk => Rdl 2 h vi (its : List It).length ((its : List It).flatMap encA) ∧ Rdl 3 h vk 0 []
  | k + 1, t, vi, vk => Rdl 2 h vi t.1.length (t.1.flatMap encA) ∧ ∃ cs : List (Value × Value × Int), cs.length = t.2.length ∧ Rdl 3 h vk cs.length (cs.flatMap encN) ∧
      ∀ j (h1 : j < t.2.length) (h2 : j < cs.length), ArgC h t.2[j] cs[j].1 cs[j].2.1 ∧ cs[j].2.2 = t.2[j].items.length
theorem ArgC.fr {h h' : Heap} (f : Fr (fun _ _ => False) h h') : ∀ {k : Nat} {x : PT It k} {vi vk : Value}, ArgC h x vi vk → ArgC h' x vi vk
  | 0, _, _, _, ⟨h1, h2⟩ => ⟨h1.fr f (fun _ _ e => e), h2.fr f (fun _ _ e => e)⟩
  | k + 1, _, _, _, ⟨h1, cs, h3, h4, h5⟩ => ⟨h1.fr f (fun _ _ e => e), cs, h3, h4.fr f (fun _ _ e => e), fun j j1 j2 => ⟨ArgC.fr f (h5 j j1 j2).1, (h5 j j1 j2).2⟩⟩
theorem ArgC.one {h : Heap} : ∀ {k : Nat} {x : PT It k} {vi vk : Value}, ArgC h x vi vk → one1 vi = true ∧ one1 vk = true
  | 0, _, _, _, ⟨h1, h2⟩ => ⟨h1.one, h2.one⟩
  | k + 1, _, _, _, ⟨h1, cs, h3, h4, h5⟩ => ⟨h1.one, h4.one⟩
theorem ArgC.its {h : Heap} : ∀ {k : Nat} {x : PT It k} {vi vk : Value}, ArgC h x vi vk → Rdl 2 h vi x.its.length (x.its.flatMap encA)
  | 0, _, _, _, r => r.1
  | _ + 1, _, _, _, r => r.1
/-- The tree as data of any shape. -/
def toD : {k : Nat} → PT It k → DT (k + 1)
  | 0, its => ((its : List It), [])
  | _ + 1, t => (t.1, t.2.map toD)
theorem ArgC.toD {h : Heap} : ∀ {k : Nat} {x : PT It k} {vi vk : Value}, ArgC h x vi vk → ArgD h (toD x) vi vk
  | 0, _, _, _, ⟨h1, h2⟩ => ⟨h1, [], rfl, h2, fun j j1 => absurd j1 (Nat.not_lt_zero _)⟩
  | k + 1, x, _, _, ⟨h1, cs, h3, h4, h5⟩ => ⟨h1, cs, by show cs.length = (x.2.map _).length; rw [List.length_map]; exact h3, h4, fun j j1 j2 => by
      have j1' : j < x.2.length := by have : j < (x.2.map Go.Proofs.Ytlihjljdndbpdaa.toD).length := j1; rwa [List.length_map] at this
      have := ArgC.toD (h5 j j1' j2).1
      have e : (x.2.map Go.Proofs.Ytlihjljdndbpdaa.toD)[j]'j1 = Go.Proofs.Ytlihjljdndbpdaa.toD (x.2[j]'j1') := List.getElem_map ..
      show ArgD h ((x.2.map Go.Proofs.Ytlihjljdndbpdaa.toD)[j]'j1) _ _
      rw [e]; exact this⟩
theorem DoorCount_ok {n : Nat} {v : Value} (hc : cl h n 1 = some v) (H : ∀ E' h', St h [] E' h' → Q v h') : DoorMapNode_ii_DoorCount.call #[.agg #[ptr n 0]] h Q := by
  refine DoorMapNode_ii_DoorCount.body _ _ _ ?_
  unfold DoorMapNode_ii_DoorCount.sh
  have s := St.start h
  refine St.r_box (cs := [ptr n 0]) s fun t1 h s => ?_
  refine r_fld ?_
  refine St.r_load0 s 0 rfl rfl ?_
  refine r_nil ?_
  refine r_fld ?_
  refine s.r_loadB hc ?_
  exact H _ _ s
theorem DoorLen_ok {n len : Nat} {v : Value} {xs : List Value} (hc : cl h n 2 = some v) (hr : Rdl 2 h v len xs) (H : ∀ E' h', St h [] E' h' → Q (.int .i64 len) h') : DoorMapNode_ii_DoorLen.call #[.agg #[ptr n 0]] h Q := by
  refine DoorMapNode_ii_DoorLen.body _ _ _ ?_
  unfold DoorMapNode_ii_DoorLen.sh
  have s := St.start h
  refine St.r_box (cs := [ptr n 0]) s fun t1 h s => ?_
  refine r_fld ?_
  refine St.r_load0 s 0 rfl rfl ?_
  refine r_nil ?_
  refine r_fld ?_
  refine s.r_loadB hc ?_
  refine hr.lenV ?_
  exact H _ _ s
theorem DoorAt_ok {n i : Nat} {v : Value} {l : List It} (hc : cl h n 2 = some v) (hr : Rdl 2 h v l.length (l.flatMap enc)) (hi : i < l.length) (H : ∀ E' h', St h [] E' h' → Q (.tuple #[.int .i64 l[i].1, .int .i64 l[i].2]) h') : DoorMapNode_ii_DoorAt.call #[.agg #[ptr n 0], .int .i64 i] h Q := by
  refine DoorMapNode_ii_DoorAt.body _ _ _ _ ?_
  unfold DoorMapNode_ii_DoorAt.sh
  have s := St.start h
  refine St.r_box (cs := [ptr n 0]) s fun t1 h s => ?_
  refine r_fld ?_
  refine St.r_load0 s 0 rfl rfl ?_
  refine r_nil ?_
  refine r_fld ?_
  refine s.r_loadB hc ?_
  refine hr.at (n := i) rfl (fun _ => rfl) rfl rfl hi fun b o hb => ?_
  refine r_fld ?_
  refine (hb.st s).load (j := 1) rfl ?_
  refine r_fld ?_
  refine St.r_load0 s 0 rfl rfl ?_
  refine r_nil ?_
  refine r_fld ?_
  refine s.r_loadB hc ?_
  refine hr.at (n := i) rfl (fun _ => rfl) rfl rfl hi fun b o hb => ?_
  refine r_fld ?_
  refine (hb.st s).load (j := 0) rfl ?_
  exact H _ _ s
theorem DoorIsLeaf_ok {n : Nat} {a : Option Addr} (hc : cl h n 3 = some (.pointer a)) (H : ∀ E' h', St h [] E' h' → Q (.bool a.isNone) h') : DoorMapNode_ii_DoorIsLeaf.call #[.agg #[ptr n 0]] h Q := by
  refine DoorMapNode_ii_DoorIsLeaf.body _ _ _ ?_
  unfold DoorMapNode_ii_DoorIsLeaf.sh
  have s := St.start h
  refine St.r_box (cs := [ptr n 0]) s fun t1 h s => ?_
  refine r_fld ?_
  refine St.r_load0 s 0 rfl rfl ?_
  refine mapNode_ii_leaf_ok (s.base hc) ?_
  exact H _ _ s
theorem DoorKids_ok {n kb len : Nat} {v : Value} {xs : List Value} (hc : cl h n 3 = some (ptr kb 0)) (hk : cl h kb 0 = some v) (hr : Rdl 1 h v len xs) (H : ∀ E' h', St h [] E' h' → Q (.int .i64 len) h') : DoorMapNode_ii_DoorKids.call #[.agg #[ptr n 0]] h Q := by
  refine DoorMapNode_ii_DoorKids.body _ _ _ ?_
  unfold DoorMapNode_ii_DoorKids.sh
  have s := St.start h
  refine St.r_box (cs := [ptr n 0]) s fun t1 h s => ?_
  refine r_fld ?_
  refine St.r_load0 s 0 rfl rfl ?_
  refine r_nil ?_
  refine r_fld ?_
  refine s.r_loadB hc ?_
  refine r_nil ?_
  refine s.r_loadB hk ?_
  refine hr.lenV ?_
  exact H _ _ s
theorem DoorKid_ok {n kb i : Nat} {v : Value} {l : List Nat} (hc : cl h n 3 = some (ptr kb 0)) (hk : cl h kb 0 = some v) (hr : Rdl 1 h v l.length (l.map fun m => ptr m 0)) (hi : i < l.length) (H : ∀ E' h', St h [] E' h' → Q (.agg #[ptr l[i] 0]) h') : DoorMapNode_ii_DoorKid.call #[.agg #[ptr n 0], .int .i64 i] h Q := by
  refine DoorMapNode_ii_DoorKid.body _ _ _ _ ?_
  unfold DoorMapNode_ii_DoorKid.sh
  have s := St.start h
  refine St.r_box (cs := [ptr n 0]) s fun t2 h s => ?_
  refine s.r_alloc fun t4 h s => ?_
  refine r_fld ?_
  refine St.r_load0 s 1 rfl rfl ?_
  refine r_nil ?_
  refine r_fld ?_
  refine s.r_loadB hc ?_
  refine r_nil ?_
  refine s.r_loadB hk ?_
  refine hr.at1 (n := i) rfl hi fun b o hb => ?_
  refine (hb.st s).load0 rfl ?_
  ((apply r_build; ((simp only [fillV, fill1, Value.cells, zeros_succ, zeros_zero, List.size_toArray, List.length_cons, List.length_nil, List.length_append, List.take_succ_cons, List.take_zero, List.take_nil, List.drop_succ_cons, List.drop_zero, List.drop_nil, List.cons_append, List.nil_append, List.append_nil, Nat.reduceAdd, Nat.reduceMul, Nat.reduceLeDiff, Nat.reduceEqDiff, and_self, and_true, true_and, if_true, Nat.le_refl, Nat.zero_add, Nat.add_zero, Nat.zero_mul, reduceIte, if_false] <;> rfl))))
  refine St.r_storeN0 s 0 (ys := [ptr l[i] 0]) rfl rfl (by simp) (by simp [one1]) ?_; intro h s
  refine St.r_loadN0 s 0 rfl (by simp) ?_
  exact H _ _ s
end Go.Proofs.Ytlihjljdndbpdaa
end
section
namespace Go.Hp
set_option linter.unusedVariables false
set_option linter.unusedSimpArgs false
variable {α : Type} {lt : α → α → Bool} {m : Nat}

theorem asc_of_sub {l r : List α} (h : Asc lt r) (s : l.Sublist r) : Asc lt l := h.sublist s
section
variable (o : Swo lt)
include o
/-- All that lies ahead of the kid at pos is before x. -/
theorem lz_before {a : List α} {ka : List (List α)} {r : List α} {x : α} (hl : ka.length = a.length) (h : Asc lt (lz a ka ++ r)) (ha : ∀ y ∈ a, lt y x = true) : ∀ y ∈ lz a ka, lt y x = true := by
  rcases List.eq_nil_or_concat a with e | ⟨a', z, e⟩
  · subst e; intro y hy; simp [lz] at hy
  · rw [List.concat_eq_append] at e
    subst e
    rcases List.eq_nil_or_concat ka with e | ⟨ka', k, e⟩
    · subst e; simp at hl
    · rw [List.concat_eq_append] at e
      subst e
      have hl' : ka'.length = a'.length := by simpa using hl
      rw [lz_snoc _ _ _ _ hl'] at h ⊢
      have hz := ha z (by simp)
      intro y hy
      rw [← List.append_assoc] at hy h
      rcases List.mem_append.1 hy with e | e
      · exact o.tr _ _ _ ((asc_app (asc_app h).1).2.2 y e z (by simp)) hz
      · rw [List.mem_singleton.1 e]; exact hz
omit o in
theorem rz_head {b : List α} {kb : List (List α)} (hl : kb.length = b.length) : (rz b kb).head? = b.head? := by
  cases b with
  | nil => rfl
  | cons y b => cases kb with
    | nil => simp at hl
    | cons k kb => rfl
omit o in
theorem lget_none_head {l : List α} {x : α} (h : lget lt l x = none) : ∀ y, (l.drop (pos lt l x)).head? = some y → lt x y = true := by
  intro y hy
  rw [List.head?_drop] at hy
  obtain ⟨hp, rfl⟩ := List.getElem?_eq_some_iff.1 hy
  exact lget_none h hp
/-- What is found below a node whose own items have it not. -/
theorem PT.step {h lo : Nat} {t : PT α (h + 1)} {x : α} (f : t.Fl m lo) (ha : Asc lt t.items) (hg : lget lt t.1 x = none) : ∃ c, t.2[pos lt t.1 x]? = some c ∧ c ∈ t.2 ∧ Asc lt c.items ∧
    lget lt t.items x = lget lt c.items x ∧ lput lt t.items x = lz (t.1.take (pos lt t.1 x)) ((t.2.take (pos lt t.1 x)).map PT.items) ++ (lput lt c.items x ++ rz (t.1.drop (pos lt t.1 x)) ((t.2.drop (pos lt t.1 x + 1)).map PT.items)) := by
  have hi := pos_le (lt := lt) t.1 x
  obtain ⟨c, hc, hm, e⟩ := PT.around f hi
  have h2 := f.2.2.1
  rw [e] at ha
  have hb := lz_before o (by simp; omega) ha (fun y hy => (asc_pos (x := x) o ((PT.its_sub (h := h + 1) t).trans (by rw [e]; exact List.Sublist.refl _) |> asc_of_sub ha)).1 y hy)
  have hr : ∀ y, (rz (t.1.drop (pos lt t.1 x)) ((t.2.drop (pos lt t.1 x + 1)).map PT.items)).head? = some y → lt x y = true := by
    rw [rz_head (by simp; omega)]; exact lget_none_head hg
  refine ⟨c, hc, hm, (asc_app (asc_app ha).2.1).1, ?_, ?_⟩
  · rw [e]; exact lget_mid o hb hr
  · rw [e]; exact lput_mid o hb hr
theorem PT.found {h lo : Nat} {t : PT α (h + 1)} {x y : α} (f : t.Fl m lo) (ha : Asc lt t.items) (hg : lget lt t.1 x = some y) :
    lget lt t.items x = some y ∧ lput lt t.items x = PT.items (h := h + 1) (lput lt t.1 x, t.2) := by
  obtain ⟨hp, hy, h3, h4⟩ := lget_some hg
  have h2 := f.2.2.1
  obtain ⟨c, hc, hm, e⟩ := PT.around f (Nat.le_of_lt hp)
  have ed : t.1.drop (pos lt t.1 x) = y :: t.1.drop (pos lt t.1 x + 1) := by rw [← hy]; exact List.drop_eq_getElem_cons hp
  obtain ⟨d, hd⟩ : ∃ d, t.2[pos lt t.1 x + 1]? = some d := ⟨t.2[pos lt t.1 x + 1], List.getElem?_eq_getElem (by omega)⟩
  have ek : t.2.drop (pos lt t.1 x + 1) = d :: t.2.drop (pos lt t.1 x + 2) := by
    obtain ⟨h', e'⟩ := List.getElem?_eq_some_iff.1 hd
    rw [← e']; exact List.drop_eq_getElem_cons h'
  have eq1 : ∀ z, lz (t.1.take (pos lt t.1 x)) ((t.2.take (pos lt t.1 x)).map PT.items) ++ (c.items ++ rz (z :: t.1.drop (pos lt t.1 x + 1)) ((t.2.drop (pos lt t.1 x + 1)).map PT.items)) =
      (lz (t.1.take (pos lt t.1 x)) ((t.2.take (pos lt t.1 x)).map PT.items) ++ c.items) ++ z :: (d.items ++ rz (t.1.drop (pos lt t.1 x + 1)) ((t.2.drop (pos lt t.1 x + 2)).map PT.items)) := by
    intro z; rw [ek, List.map_cons, rz_cons]; simp
  rw [ed, eq1] at e
  rw [e] at ha
  have hb : ∀ z ∈ lz (t.1.take (pos lt t.1 x)) ((t.2.take (pos lt t.1 x)).map PT.items) ++ c.items, lt z x = true := fun z hz => o.tr1 ((asc_app ha).2.2 z hz y (by simp)) h4
  rw [e]
  refine ⟨lget_at hb h3 h4, ?_⟩
  rw [lput_at hb h3 h4]
  have e1 : lput lt t.1 x = t.1.take (pos lt t.1 x) ++ x :: t.1.drop (pos lt t.1 x + 1) := by unfold lput; rw [hg]; rfl
  show _ = inter (lput lt t.1 x) (t.2.map PT.items)
  conv => rhs; rw [e1, take_at hc, List.map_append, List.map_cons]
  rw [inter_lr _ _ _ _ _ (by simp; omega) (by simp; omega), eq1]
theorem PT.get_items : ∀ {h lo : Nat} {t : PT α h} {x : α}, t.Fl m lo → Asc lt t.items → t.get lt x = lget lt t.items x
  | 0, _, _, _, _, _ => rfl
  | h + 1, lo, t, x, f, ha => by
    unfold PT.get
    cases hg : lget lt t.1 x with
    | some y => simp only; exact (PT.found o f ha hg).1.symm
    | none =>
      obtain ⟨c, hc, hm, hac, e, _⟩ := PT.step o f ha hg
      simp only [hc]
      rw [e]; exact PT.get_items (f.2.2.2 c hm) hac
omit o in
theorem PT.splits_len : ∀ {h : Nat} {t : PT α h} {x : α}, t.splits lt m x = true → t.its.length = m ∧ lget lt t.its x = none
  | 0, t, x, h => by
    unfold PT.splits at h
    simp only [Bool.and_eq_true, Option.isNone_iff_eq_none, beq_iff_eq] at h
    exact ⟨h.2, h.1⟩
  | _ + 1, t, x, h => by
    unfold PT.splits at h
    simp only [Bool.and_eq_true, Option.isNone_iff_eq_none, beq_iff_eq] at h
    exact ⟨h.1.2, h.1.1⟩
theorem PT.splits_get : ∀ {h lo : Nat} {t : PT α h} {x : α}, t.Fl m lo → Asc lt t.items → t.splits lt m x = true → lget lt t.items x = none
  | 0, _, t, x, f, ha, h => (PT.splits_len h).2
  | k + 1, _, t, x, f, ha, h => by
    have hg : lget lt t.1 x = none := (PT.splits_len h).2
    obtain ⟨c, hc, hm, hac, e, _⟩ := PT.step o f ha hg
    unfold PT.splits at h
    rw [hc] at h
    simp only [Bool.and_eq_true] at h
    rw [e]; exact PT.splits_get (f.2.2.2 c hm) hac h.2
omit o in
theorem PT.lo_splits {h lo : Nat} {t : PT α h} {x : α} (hm : 0 < m) (f : t.Fl m lo) (hl : t.its.length = m) : (t.lo (m / 2)).splits lt m x = false := by
  cases e : (t.lo (m / 2)).splits lt m x with
  | false => rfl
  | true => have := (PT.splits_len e).1; rw [PT.lo_its, List.length_take] at this; omega
omit o in
theorem PT.hi_splits {h lo : Nat} {t : PT α h} {x : α} (hm : 0 < m) (f : t.Fl m lo) (hl : t.its.length = m) : (t.hi (m / 2)).splits lt m x = false := by
  cases e : (t.hi (m / 2)).splits lt m x with
  | false => rfl
  | true => have := (PT.splits_len e).1; rw [PT.hi_its, List.length_drop] at this; omega
/-- The halves of a full node. -/
theorem PT.halves {h lo : Nat} {t : PT α h} {x : α} (ho : m % 2 = 1) (f : t.Fl m lo) (ha : Asc lt t.items) (hs : t.splits lt m x = true) : ∃ md, t.its[m / 2]? = some md ∧ t.items = (t.lo (m / 2)).items ++ md :: (t.hi (m / 2)).items ∧
    (t.lo (m / 2)).Fl m (m / 2) ∧ (t.hi (m / 2)).Fl m (m / 2) ∧ (lt md x = true ∨ lt x md = true) ∧
    (lt md x = true → lput lt t.items x = (t.lo (m / 2)).items ++ md :: lput lt (t.hi (m / 2)).items x) ∧ (lt md x = false → lput lt t.items x = lput lt (t.lo (m / 2)).items x ++ md :: (t.hi (m / 2)).items) ∧
    (t.lo (m / 2)).splits lt m x = false ∧ (t.hi (m / 2)).splits lt m x = false := by
  have hl := (PT.splits_len hs).1
  have hi : m / 2 < t.its.length := by omega
  obtain ⟨md, hmd⟩ : ∃ md, t.its[m / 2]? = some md := ⟨_, List.getElem?_eq_getElem hi⟩
  have e := PT.cut_items f hmd
  have hg := PT.splits_get o f ha hs
  rw [e] at ha hg
  have hlt : lt md x = true ∨ lt x md = true := by
    cases e1 : lt md x with
    | true => exact .inl rfl
    | false =>
      cases e2 : lt x md with
      | true => exact .inr rfl
      | false =>
        rw [lget_at (fun y hy => o.tr1 ((asc_app ha).2.2 y hy md (by simp)) e2) e1 e2] at hg
        cases hg
  refine ⟨md, hmd, e, f.lo (Nat.le_refl _) (by omega), f.hi (by omega), hlt, fun h1 => ?_, fun h1 => ?_, PT.lo_splits (by omega) f hl, PT.hi_splits (by omega) f hl⟩
  · rw [e]
    have := lput_mid (s := []) (k := (t.hi (m / 2)).items) (p := (t.lo (m / 2)).items ++ [md]) (x := x) o (fun y hy => ?_) (fun y hy => by cases hy)
    · simpa using this
    · rcases List.mem_append.1 hy with e' | e'
      · exact o.tr _ _ _ ((asc_app ha).2.2 y e' md (by simp)) h1
      · rw [List.mem_singleton.1 e']; exact h1
  · rw [e]
    have h2 : lt x md = true := by rcases hlt with h | h; rw [h] at h1; cases h1; exact h
    have := lput_mid (p := []) (k := (t.lo (m / 2)).items) (s := md :: (t.hi (m / 2)).items) (x := x) o (fun y hy => absurd hy List.not_mem_nil) (fun y hy => by simp at hy; subst hy; exact h2)
    simpa using this
theorem PT.set_items (ho : m % 2 = 1) : ∀ {h lo : Nat} {t : PT α h} {x : α}, t.Fl m lo → Asc lt t.items → t.splits lt m x = false → (t.set lt m x).items = lput lt t.items x ∧ (t.set lt m x).Fl m lo
  | 0, lo, t, x, f, ha, hs => by
    refine ⟨rfl, ?_⟩
    have e : List.length (lput lt t x) = _ := lput_length
    unfold PT.splits at hs
    simp only [Bool.and_eq_false_iff, beq_eq_false_iff_ne, ne_eq] at hs
    have f1 := f.1; have f2 := f.2
    show lo ≤ List.length (lput lt t x) ∧ List.length (lput lt t x) ≤ m
    generalize List.length (lput lt t x) = n at e
    cases hg : lget lt t x with
    | some y => rw [hg] at e; simp only [Option.isSome_some, if_true, Nat.add_zero] at e; rw [e]; exact ⟨f1, f2⟩
    | none =>
      rw [hg] at e hs
      simp only [Option.isSome_none, Bool.false_eq_true, if_false] at e
      rcases hs with hs | hs
      · cases hs
      · rw [e]; exact ⟨Nat.le_trans f1 (Nat.le_succ _), Nat.lt_of_le_of_ne f2 hs⟩
  | h + 1, lo, t, x, f, ha, hs => by
    have h2 := f.2.2.1
    unfold PT.set
    cases hg : lget lt t.1 x with
    | some y =>
      simp only
      refine ⟨(PT.found o f ha hg).2.symm, ?_⟩
      have e : (lput lt t.1 x).length = _ := lput_length
      rw [hg] at e; simp only [Option.isSome_some, if_true, Nat.add_zero] at e
      refine ⟨by show _ ≤ (lput lt t.1 x).length; rw [e]; exact f.1, by show (lput lt t.1 x).length ≤ m; rw [e]; exact f.2.1, by show t.2.length = (lput lt t.1 x).length + 1; rw [e]; exact h2, f.2.2.2⟩
    | none =>
      obtain ⟨c, hc, hm, hac, e, e2⟩ := PT.step o f ha hg
      simp only [hc]
      have hi := pos_le (lt := lt) t.1 x
      have fc := f.2.2.2 c hm
      have mt : ∀ k, k ∈ t.2.take (pos lt t.1 x) → k ∈ t.2 := fun k hk => List.mem_of_mem_take hk
      have md' : ∀ k, k ∈ t.2.drop (pos lt t.1 x + 1) → k ∈ t.2 := fun k hk => List.mem_of_mem_drop hk
      cases hsc : c.splits lt m x with
      | false =>
        simp only [Bool.false_eq_true, if_false]
        obtain ⟨i1, i2⟩ := PT.set_items ho fc hac hsc
        have ek : t.2.set (pos lt t.1 x) (c.set lt m x) = t.2.take (pos lt t.1 x) ++ c.set lt m x :: t.2.drop (pos lt t.1 x + 1) := by
          rw [List.set_eq_take_append_cons_drop, if_pos (by omega)]
        refine ⟨?_, ⟨f.1, f.2.1, by show (t.2.set _ _).length = _; rw [List.length_set]; exact h2, fun k hk => ?_⟩⟩
        · rw [e2]
          show inter t.1 ((t.2.set _ _).map PT.items) = _
          rw [ek, List.map_append, List.map_cons, i1]
          have il := inter_lr (t.1.take (pos lt t.1 x)) (t.1.drop (pos lt t.1 x)) ((t.2.take (pos lt t.1 x)).map PT.items) (lput lt c.items x) ((t.2.drop (pos lt t.1 x + 1)).map PT.items) (by rw [List.length_map, List.length_take, List.length_take]; omega) (by rw [List.length_map, List.length_drop, List.length_drop]; omega)
          rw [List.take_append_drop] at il
          exact il
        · have hk : k ∈ t.2.set (pos lt t.1 x) (c.set lt m x) := hk
          rw [ek] at hk
          rcases List.mem_append.1 hk with q | q
          · exact f.2.2.2 k (mt k q)
          · rcases List.mem_cons.1 q with q | q
            · subst q; exact i2
            · exact f.2.2.2 k (md' k q)
      | true =>
        simp only [↓reduceIte]
        obtain ⟨md, hmd, ec, fl, fh, hlt, ht1, ht2, sl, sh⟩ := PT.halves o ho fc hac hsc
        simp only [hmd]
        have hnm : t.1.length ≠ m := fun e3 => by
          unfold PT.splits at hs
          simp only [hg, hc, e3, hsc] at hs
          simp at hs
        have fl' : ∀ (l r : PT α h), l.Fl m (m / 2) → r.Fl m (m / 2) → PT.Fl m (h := h + 1) lo (ins t.1 (pos lt t.1 x) md, t.2.take (pos lt t.1 x) ++ l :: r :: t.2.drop (pos lt t.1 x + 1)) := by
          intro l r hl hr
          have f1 := f.1; have f2 := f.2.1
          have e4 : (ins t.1 (pos lt t.1 x) md).length = t.1.length + 1 := by unfold ins; simp; omega
          refine ⟨by show _ ≤ (ins t.1 (pos lt t.1 x) md).length; omega, by show (ins t.1 (pos lt t.1 x) md).length ≤ m; omega, by show (t.2.take (pos lt t.1 x) ++ l :: r :: t.2.drop (pos lt t.1 x + 1)).length = (ins t.1 (pos lt t.1 x) md).length + 1; rw [e4]; simp; omega, fun k hk => ?_⟩
          rcases List.mem_append.1 hk with q | q
          · exact f.2.2.2 k (mt k q)
          · rcases List.mem_cons.1 q with q | q
            · subst q; exact hl
            · rcases List.mem_cons.1 q with q | q
              · subst q; exact hr
              · exact f.2.2.2 k (md' k q)
        have it' : ∀ (l r : PT α h), PT.items (h := h + 1) (ins t.1 (pos lt t.1 x) md, t.2.take (pos lt t.1 x) ++ l :: r :: t.2.drop (pos lt t.1 x + 1)) =
            lz (t.1.take (pos lt t.1 x)) ((t.2.take (pos lt t.1 x)).map PT.items) ++ (l.items ++ (md :: (r.items ++ rz (t.1.drop (pos lt t.1 x)) ((t.2.drop (pos lt t.1 x + 1)).map PT.items)))) := by
          intro l r
          show inter (ins t.1 (pos lt t.1 x) md) ((t.2.take (pos lt t.1 x) ++ l :: r :: t.2.drop (pos lt t.1 x + 1)).map PT.items) = _
          rw [List.map_append, List.map_cons, List.map_cons]
          unfold ins
          rw [inter_lr _ _ _ _ _ (by simp; omega) (by simp; omega), rz_cons]
        rw [ec] at hac
        cases hd : lt md x with
        | true =>
          simp only [↓reduceIte]
          obtain ⟨i1, i2⟩ := PT.set_items ho fh (asc_app (asc_app hac).2.1 (l := [md])).2.1 sh
          exact ⟨by rw [it', i1, e2, ht1 hd]; simp, fl' _ _ fl i2⟩
        | false =>
          simp only [↓reduceIte, Bool.false_eq_true]
          obtain ⟨i1, i2⟩ := PT.set_items ho fl (asc_app hac).1 sl
          exact ⟨by rw [it', i1, e2, ht2 hd]; simp, fl' _ _ i2 fh⟩
end
end Go.Hp
end
section
namespace Go.Hp
open Go.RowKit
set_option linter.unusedVariables false
set_option linter.unusedSimpArgs false
variable {h0 h : Heap} {Z E : List Rg} {KV : Value → Heap → Prop} {K : Value → Prop} {KH : Heap → Prop}

theorem St.cut {b o : Nat} {xs ys : List Value} (s : St h0 Z ((b, o, xs ++ ys) :: E) h) : St h0 Z ((b, o, xs) :: (b, o + xs.length, ys) :: E) h := by
  obtain ⟨k1, k2⟩ := s.e _ (List.mem_cons_self ..)
  have o1 : Rg.Ok h (b, o, xs) := fun j hj => by
    have hj : j < xs.length := hj
    have := k1 j (by simp; omega)
    simpa [List.getElem?_append_left hj] using this
  have o2 : Rg.Ok h (b, o + xs.length, ys) := fun j hj => by
    have hj : j < ys.length := hj
    have := k1 (xs.length + j) (by simp; omega)
    simp only at this
    rw [List.getElem?_append_right (by omega), Nat.add_sub_cancel_left, ← Nat.add_assoc] at this
    exact this
  have d1 : ∀ r : Rg, Disj r (b, o, xs ++ ys) → Disj r (b, o, xs) := fun r hr i j hi hj => hr i j hi (by simp at hj ⊢; omega)
  have d2 : ∀ r : Rg, Disj r (b, o, xs ++ ys) → Disj r (b, o + xs.length, ys) := fun r hr i j hi hj e1 e2 => hr i (xs.length + j) hi (by simp at hj ⊢; omega) e1 (by simp at e2 ⊢; omega)
  obtain ⟨n1, n2⟩ := List.pairwise_cons.1 s.nd
  refine ⟨s.fr, s.z, fun r hr => ?_, fun r q hr hq => ?_, List.pairwise_cons.2 ⟨fun q hq => ?_, List.pairwise_cons.2 ⟨fun q hq => (d2 q (n1 q hq).symm).symm, n2⟩⟩, s.tw⟩
  · rcases List.mem_cons.1 hr with e | e
    · subst e; exact ⟨o1, fun hn => k2 (by intro e; exact hn (List.append_eq_nil_iff.1 e).1)⟩
    · rcases List.mem_cons.1 e with e | e
      · subst e; exact ⟨o2, fun hn => k2 (by intro e; exact hn (List.append_eq_nil_iff.1 e).2)⟩
      · exact s.e r (List.mem_cons_of_mem _ e)
  · have h := s.ze r _ hr (List.mem_cons_self ..)
    rcases List.mem_cons.1 hq with e | e
    · subst e; exact d1 r h
    · rcases List.mem_cons.1 e with e | e
      · subst e; exact d2 r h
      · exact s.ze r q hr (List.mem_cons_of_mem _ e)
  · rcases List.mem_cons.1 hq with e | e
    · subst e; intro i j hi hj e1 e2; simp at e2 hi hj; omega
    · exact (d1 q (n1 q e).symm).symm
theorem St.glue {b o : Nat} {xs ys : List Value} (s : St h0 Z ((b, o, xs) :: (b, o + xs.length, ys) :: E) h) : St h0 Z ((b, o, xs ++ ys) :: E) h := by
  obtain ⟨k1, k2⟩ := s.e _ (List.mem_cons_self ..)
  obtain ⟨k3, k4⟩ := s.e _ (List.mem_cons_of_mem _ (List.mem_cons_self ..))
  have d1 : ∀ r : Rg, Disj r (b, o, xs) → Disj r (b, o + xs.length, ys) → Disj r (b, o, xs ++ ys) := fun r h1 h2 i j hi hj e1 e2 => by
    simp only [List.length_append] at hj
    rcases Nat.lt_or_ge j xs.length with hl | hl
    · exact h1 i j hi hl e1 e2
    · exact h2 i (j - xs.length) hi (by simp only; omega) e1 (by simp at e2 ⊢; omega)
  obtain ⟨n1, n2⟩ := List.pairwise_cons.1 s.nd
  obtain ⟨n3, n4⟩ := List.pairwise_cons.1 n2
  refine ⟨s.fr, s.z, fun r hr => ?_, fun r q hr hq => ?_, List.pairwise_cons.2 ⟨fun q hq => (d1 q (n1 q (List.mem_cons_of_mem _ hq)).symm (n3 q hq).symm).symm, n4⟩, s.tw⟩
  · rcases List.mem_cons.1 hr with e | e
    · subst e
      refine ⟨fun j hj => ?_, fun hn => ?_⟩
      · simp only [List.length_append] at hj
        rcases Nat.lt_or_ge j xs.length with hl | hl
        · have := k1 j hl; simpa [List.getElem?_append_left hl] using this
        · have := k3 (j - xs.length) (by simp only; omega)
          simp only at this ⊢
          rw [List.getElem?_append_right hl, show o + j = o + xs.length + (j - xs.length) by omega]; exact this
      · cases xs with
        | nil => exact k4 (by simpa using hn)
        | cons x r => exact k2 (by simp)
    · exact s.e r (List.mem_cons_of_mem _ (List.mem_cons_of_mem _ e))
  · rcases List.mem_cons.1 hq with e | e
    · subst e; exact d1 r (s.ze r _ hr (List.mem_cons_self ..)) (s.ze r _ hr (List.mem_cons_of_mem _ (List.mem_cons_self ..)))
    · exact s.ze r q hr (List.mem_cons_of_mem _ (List.mem_cons_of_mem _ e))
theorem St.r_lz (s : St h0 Z E h) {b o i : Nat} {xs : List Value} {v : Value} (hk : (b, o, xs) ∈ Z) (j : Nat) (hi : i = o + j) (hv : xs[j]? = some v) (H : K v) : load1 (ptr b i) h K := by
  subst hi; exact s.r_loadZ hk hv H
theorem St.r_lzN (s : St h0 Z E h) {b o i n : Nat} {xs : List Value} (hk : (b, o, xs) ∈ Z) (j : Nat) (hi : i = o + j) (hn : j + n ≤ xs.length) (H : K (.agg ((xs.drop j).take n).toArray)) : loadN n (ptr b i) h K := by
  subst hi; exact ⟨_, _, rfl, s.rdZ hk hn, H⟩
section
variable {α : Type} {f : α → List Value} {sz : Nat} (hf : ∀ x, (f x).length = sz)
include hf
theorem flat_take (l : List α) (n : Nat) (hn : n ≤ l.length) : (l.flatMap f).take (n * sz) = (l.take n).flatMap f := by
  conv => lhs; rw [← List.take_append_drop n l, List.flatMap_append]
  rw [List.take_left']
  rw [flat_len hf, List.length_take, Nat.min_eq_left hn]
theorem flat_set (l : List α) (n : Nat) (hn : n < l.length) (x : α) : (l.flatMap f).take (n * sz) ++ f x ++ (l.flatMap f).drop (n * sz + sz) = (l.set n x).flatMap f := by
  rw [flat_take hf l n (Nat.le_of_lt hn), show n * sz + sz = (n + 1) * sz by rw [Nat.succ_mul], flat_drop hf, List.set_eq_take_append_cons_drop, if_pos hn, List.flatMap_append, List.flatMap_cons, List.append_assoc]
theorem St.r_loadF (s : St h0 Z E h) (k : Nat) {b o i : Nat} {L : List α} {sp : List Value} {x : α} (hk : E[k]? = some (b, o, L.flatMap f ++ sp)) (hx : L[i]? = some x) (H : K (.agg (f x).toArray)) : loadN sz (ptr b (o + i * sz)) h K := by
  obtain ⟨hi, rfl⟩ := List.getElem?_eq_some_iff.1 hx
  have hl := flat_len hf L
  have hle : i * sz + sz ≤ L.length * sz := by rw [← Nat.succ_mul]; exact Nat.mul_le_mul_right _ hi
  refine s.r_loadN k hk (by rw [List.length_append]; omega) ?_
  rw [List.drop_append_of_le_length (by omega), List.take_append_of_le_length (by rw [List.length_drop]; omega), flat_at hf L i hi]
  exact H
theorem St.r_load1F (s : St h0 Z E h) (k : Nat) {b o i r : Nat} {L : List α} {sp : List Value} {x : α} {v : Value} (hk : E[k]? = some (b, o, L.flatMap f ++ sp)) (hx : L[i]? = some x) (hr : (f x)[r]? = some v) (H : K v) : load1 (ptr b (o + i * sz + r)) h K := by
  obtain ⟨hi, rfl⟩ := List.getElem?_eq_some_iff.1 hx
  have hl := flat_len hf L
  have hle : i * sz + sz ≤ L.length * sz := by rw [← Nat.succ_mul]; exact Nat.mul_le_mul_right _ hi
  have hr' : r < sz := by rw [← hf L[i]]; exact (List.getElem?_eq_some_iff.1 hr).1
  rw [Nat.add_assoc]
  refine s.r_load1 k hk ?_ H
  rw [List.getElem?_append_left (by omega), flat_get hf L i hi r hr']; exact hr
theorem St.r_storeF (s : St h0 Z E h) (k : Nat) {b o i : Nat} {L : List α} {sp : List Value} {x : α} (hk : E[k]? = some (b, o, L.flatMap f ++ sp)) (hi : i < L.length) (ho : ∀ y ∈ f x, one1 y = true)
    (H : ∀ h', St h0 Z (E.set k (b, o, (L.set i x).flatMap f ++ sp)) h' → KH h') : storeN sz (ptr b (o + i * sz)) (.agg (f x).toArray) h KH := by
  have hl := flat_len hf L
  have hle : i * sz + sz ≤ L.length * sz := by rw [← Nat.succ_mul]; exact Nat.mul_le_mul_right _ hi
  refine s.r_storeN k hk (hf x) (by rw [List.length_append]; omega) ho fun h' s' => H h' ?_
  rw [List.take_append_of_le_length (by omega), List.drop_append_of_le_length (by omega), ← List.append_assoc, flat_set hf L i hi x] at s'
  exact s'
theorem Own.slcLo {v : Value} {b o : Nat} {L : List α} {sp : List Value} (w : Own sz v L.length b o (L.flatMap f) sp) {k : IntKind} {z : Int} {i : Nat} (hz : z = i) (hi : i ≤ L.length)
    (H : ∀ v', Own sz v' (L.drop i).length b (o + i * sz) ((L.drop i).flatMap f) sp → K v') : slc sz v (some (.int k z)) none none K := by
  obtain ⟨a, cap, e, h1, h2, h3, h4⟩ := w.ex
  have hl := flat_len hf L
  subst e; subst hz
  refine ⟨a, L.length, cap, i, L.length, cap, rfl, rfl, rfl, ⟨k, i, rfl, by omega, by omega, by simp⟩, H _ ⟨_, cap - i, by rw [List.length_drop], flat_len hf _, ?_, by rw [List.length_drop]; omega, fun hc => ?_⟩⟩
  · rw [flat_len hf, List.length_drop, Nat.sub_mul, Nat.sub_mul]
    have : i * sz ≤ L.length * sz := Nat.mul_le_mul_right _ hi
    omega
  · rw [if_neg (by omega), h4 (by omega), Option.map_some, add_mk]
theorem Own.slc3 {v : Value} {b o : Nat} {L : List α} {sp : List Value} (w : Own sz v L.length b o (L.flatMap f) sp) {k k' : IntKind} {z z' : Int} {i : Nat} (hz : z = i) (hz' : z' = i) (hi : i ≤ L.length)
    (H : ∀ v', Own sz v' (L.take i).length b o ((L.take i).flatMap f) [] → K v') : slc sz v none (some (.int k z)) (some (.int k' z')) K := by
  obtain ⟨a, cap, e, h1, h2, h3, h4⟩ := w.ex
  have hl := flat_len hf L
  subst e; subst hz; subst hz'
  refine ⟨a, L.length, cap, 0, i, i, rfl, ⟨k', i, rfl, by omega, by omega, by simp⟩, ⟨k, i, rfl, by omega, by omega, by simp⟩, rfl, H _ ⟨(if i = 0 then a else a.map (·.add (0 * sz))), i, ?_, flat_len hf _, ?_, by rw [List.length_take]; omega, fun hc => ?_⟩⟩
  · rw [Nat.sub_zero, List.length_take, Nat.min_eq_left hi]
  · rw [flat_len hf, List.length_take, Nat.min_eq_left hi]; simp
  · rw [if_neg (by omega), h4 (by omega), Option.map_some, add_mk, Nat.zero_mul, Nat.add_zero]
theorem Own.slcHi {v : Value} {b o : Nat} {L : List α} {sp : List Value} (w : Own sz v L.length b o (L.flatMap f) sp) {k : IntKind} {z : Int} {i : Nat} (hz : z = i) (hi : i ≤ L.length)
    (H : ∀ v', Own sz v' (L.take i).length b o ((L.take i).flatMap f) ((L.drop i).flatMap f ++ sp) → K v') : slc sz v none (some (.int k z)) none K := by
  obtain ⟨a, cap, e, h1, h2, h3, h4⟩ := w.ex
  have hl := flat_len hf L
  subst e; subst hz
  refine ⟨a, L.length, cap, 0, i, cap, rfl, rfl, ⟨k, i, rfl, by omega, by omega, by simp⟩, rfl, H _ ⟨a, cap, ?_, flat_len hf _, ?_, by rw [List.length_take]; omega, h4⟩⟩
  · rw [Nat.sub_zero, List.length_take, Nat.min_eq_left hi, Nat.sub_zero, Nat.zero_mul]
    congr 1
    split
    · rfl
    · cases a <;> rfl
  · rw [List.length_append, flat_len hf, flat_len hf, List.length_take, List.length_drop, Nat.min_eq_left hi, ← Nat.add_assoc, ← Nat.add_mul, show i + (L.length - i) = L.length by omega]; omega
/-- copy into a part of an owned row. -/
theorem St.r_cpyF (s : St h0 Z E h) (k : Nat) {m dl b o i : Nat} {L M : List α} {sp ys sp' : List Value} {d x : Value} (hk : E[k]? = some (b, o, L.flatMap f ++ sp)) (w : Own sz d dl b (o + i * sz) ys sp') (hl : i + dl ≤ L.length)
    (hx : Rdl sz h x m (M.flatMap f)) (hm : m = M.length) (ho : ∀ y ∈ M, ∀ c ∈ f y, one1 c = true) (H : ∀ h', St h0 Z (E.set k (b, o, (L.take i ++ M.take (min m dl) ++ L.drop (i + min m dl)).flatMap f ++ sp)) h' → KV (.int .i64 (min m dl : Nat)) h') : cpy sz d x h KV := by
  subst hm
  obtain ⟨a, cap, e, h1, h2, h3, h4⟩ := w.ex
  have hfl := flat_len hf L
  subst e
  have hle : i * sz + dl * sz ≤ L.length * sz := by rw [← Nat.add_mul]; exact Nat.mul_le_mul_right _ hl
  have hmm : min M.length dl * sz ≤ dl * sz := Nat.mul_le_mul_right _ (Nat.min_le_right ..)
  refine s.r_cpy k (i := i * sz) hk (fun hd => h4 (by omega)) (by rw [List.length_append]; omega) hx (fun y hy => ?_) fun h' s' => H h' ?_
  · obtain ⟨z, hz, hy⟩ := List.mem_flatMap.1 hy
    exact ho z hz y hy
  · rw [List.take_append_of_le_length (by omega), List.drop_append_of_le_length (by omega), flat_take hf L i (by omega), flat_take hf M _ (Nat.min_le_left ..), ← Nat.add_mul, flat_drop hf, ← List.append_assoc] at s'
    rw [List.flatMap_append, List.flatMap_append]; exact s'
/-- A row in three parts. -/
theorem St.cut3 {b o i : Nat} {L : List α} {sp : List Value} {x : α} (s : St h0 Z ((b, o, L.flatMap f ++ sp) :: E) h) (hx : L[i]? = some x) :
    St h0 Z ((b, o, (L.take i).flatMap f) :: (b, o + (i + 1) * sz, (L.drop (i + 1)).flatMap f ++ sp) :: (b, o + i * sz, f x) :: E) h := by
  obtain ⟨hi, rfl⟩ := List.getElem?_eq_some_iff.1 hx
  have e : L.flatMap f ++ sp = (L.take i).flatMap f ++ (f L[i] ++ ((L.drop (i + 1)).flatMap f ++ sp)) := by
    conv => lhs; rw [← List.take_append_drop i L, List.flatMap_append, List.drop_eq_getElem_cons hi, List.flatMap_cons]
    simp only [List.append_assoc]
  rw [e] at s
  have s1 := s.cut
  have s2 := ((s1.front 1 rfl).cut)
  rw [flat_len hf, List.length_take, Nat.min_eq_left (Nat.le_of_lt hi), hf] at s2
  refine (s2.front 2 rfl).perm ?_
  rw [Nat.succ_mul, ← Nat.add_assoc]
  exact ((List.Perm.swap _ _ _).trans (.cons _ (List.Perm.swap _ _ _))).symm.trans (List.Perm.refl _) |>.symm.trans (by ((apply perm_rg; intro f; simp only [List.set_cons_zero, List.set_cons_succ, List.eraseIdx_cons_zero, List.eraseIdx_cons_succ, List.cons_append, List.nil_append, List.map_append, List.map_cons, List.map_nil, List.sum_append, List.sum_cons, List.sum_nil, List.map_flatMap, Nat.add_zero, Nat.zero_add]; ac_rfl)))
end
end Go.Hp
end
section
namespace Go.Hp
open Go.RowKit
set_option linter.unusedVariables false
set_option linter.unusedSimpArgs false
section
variable {α : Type} {lt : α → α → Bool} {m : Nat}
theorem lput_found {l : List α} {x y : α} (h : lget lt l x = some y) : lput lt l x = l.set (pos lt l x) x := by
  obtain ⟨hp, _⟩ := lget_some h
  unfold lput
  rw [h, List.set_eq_take_append_cons_drop, if_pos hp]; rfl
theorem lput_ins {l : List α} {x : α} (h : lget lt l x = none) : lput lt l x = ins l (pos lt l x) x := by
  unfold lput ins; rw [h]; rfl
variable (o : Swo lt)
include o
/-- A further item between the ones before x and the others. -/
theorem pos_ins {l : List α} {x md : α} (ha : Asc lt l) (hg : lget lt l x = none) (hlt : lt md x = true ∨ lt x md = true) :
    pos lt (ins l (pos lt l x) md) x = pos lt l x + (if lt md x then 1 else 0) ∧ lget lt (ins l (pos lt l x) md) x = none := by
  obtain ⟨h1, h2⟩ := asc_pos (x := x) o ha
  have hl : (l.take (pos lt l x)).length = pos lt l x := by have := pos_le (lt := lt) l x; rw [List.length_take]; omega
  have hh := lget_none_head hg
  have hb : ∀ y, (l.drop (pos lt l x)).head? = some y → lt y x = false := fun y hy => o.asym (hh y hy)
  have e0 : ins l (pos lt l x) md = l.take (pos lt l x) ++ md :: l.drop (pos lt l x) := rfl
  cases hd : lt md x with
  | true =>
    have e1 : ins l (pos lt l x) md = (l.take (pos lt l x) ++ [md]) ++ l.drop (pos lt l x) := by rw [e0]; simp
    have h3 : ∀ y ∈ l.take (pos lt l x) ++ [md], lt y x = true := fun y hy => by
      rcases List.mem_append.1 hy with e | e
      · exact h1 y e
      · rw [List.mem_singleton.1 e]; exact hd
    have e2 : pos lt (ins l (pos lt l x) md) x = pos lt l x + 1 := by
      rw [e1, pos_app h3, pos_zero hb, List.length_append, hl]; rfl
    refine ⟨by rw [e2]; rfl, ?_⟩
    have := lget_mid (p := l.take (pos lt l x) ++ [md]) (k := []) (s := l.drop (pos lt l x)) (x := x) o h3 hh
    rw [e1]
    simpa [lget] using this
  | false =>
    have h4 : lt x md = true := by rcases hlt with e | e; rw [hd] at e; cases e; exact e
    have e2 : pos lt (ins l (pos lt l x) md) x = pos lt l x := by
      rw [e0, pos_app h1, pos_zero (s := md :: _) (fun y hy => by simp at hy; subst hy; exact hd), hl, Nat.add_zero]
    refine ⟨by rw [e2]; rfl, ?_⟩
    have := lget_mid (p := l.take (pos lt l x)) (k := []) (s := md :: l.drop (pos lt l x)) (x := x) o h1 (fun y hy => by simp at hy; subst hy; exact h4)
    rw [e0]
    simpa [lget] using this
/-- The node behind the split of its kid. -/
theorem PT.set_split (ho : m % 2 = 1) {h lo : Nat} {t : PT α (h + 1)} {x md : α} {c : PT α h} (f : t.Fl m lo) (ha : Asc lt t.items) (hg : lget lt t.1 x = none) (hc : t.2[pos lt t.1 x]? = some c) (hs : c.splits lt m x = true) (hmd : c.its[m / 2]? = some md) (hn : t.1.length ≠ m) :
    let t2 : PT α (h + 1) := (ins t.1 (pos lt t.1 x) md, t.2.take (pos lt t.1 x) ++ c.lo (m / 2) :: c.hi (m / 2) :: t.2.drop (pos lt t.1 x + 1))
    t2.items = t.items ∧ t2.Fl m lo ∧ lget lt t2.1 x = none ∧ (∃ c2, t2.2[pos lt t2.1 x]? = some c2 ∧ c2.splits lt m x = false) ∧ t2.set lt m x = t.set lt m x := by
  intro t2
  have h2 := f.2.2.1
  have hi := pos_le (lt := lt) t.1 x
  obtain ⟨c', hc', hm, eit⟩ := PT.around f hi
  have : c' = c := Option.some.inj (hc'.symm.trans hc)
  subst this
  have fc := f.2.2.2 c' hm
  have hac : Asc lt c'.items := by rw [eit] at ha; exact (asc_app (asc_app ha).2.1).1
  obtain ⟨md', hmd', ec, fl, fh, hlt, _, _, sl, sh⟩ := PT.halves o ho fc hac hs
  have : md' = md := Option.some.inj (hmd'.symm.trans hmd)
  subst this
  have ha1 : Asc lt t.1 := asc_of_sub ha (PT.its_sub (h := h + 1) t)
  obtain ⟨p1, p2⟩ := pos_ins o ha1 hg hlt
  have f1 := f.1; have f2 := f.2.1
  have e4 : (ins t.1 (pos lt t.1 x) md').length = t.1.length + 1 := by unfold ins; simp; omega
  have hlt2 : (t.2.take (pos lt t.1 x)).length = pos lt t.1 x := by rw [List.length_take]; omega
  have i0 : t2.2[pos lt t.1 x]? = some (c'.lo (m / 2)) := by
    show (t.2.take (pos lt t.1 x) ++ _)[pos lt t.1 x]? = _
    rw [List.getElem?_append_right (by omega), hlt2, Nat.sub_self]; rfl
  have i1 : t2.2[pos lt t.1 x + 1]? = some (c'.hi (m / 2)) := by
    show (t.2.take (pos lt t.1 x) ++ _)[pos lt t.1 x + 1]? = _
    rw [List.getElem?_append_right (by omega), hlt2, Nat.add_sub_cancel_left]; rfl
  refine ⟨?_, ⟨by show _ ≤ (ins t.1 (pos lt t.1 x) md').length; omega, by show (ins t.1 (pos lt t.1 x) md').length ≤ m; omega, by show (t.2.take (pos lt t.1 x) ++ _ :: _ :: t.2.drop (pos lt t.1 x + 1)).length = (ins t.1 (pos lt t.1 x) md').length + 1; rw [e4]; simp; omega, fun k hk => ?_⟩, p2, ?_, ?_⟩
  · rw [eit, ec]
    show inter (ins t.1 (pos lt t.1 x) md') ((t.2.take (pos lt t.1 x) ++ c'.lo (m / 2) :: c'.hi (m / 2) :: t.2.drop (pos lt t.1 x + 1)).map PT.items) = _
    rw [List.map_append, List.map_cons, List.map_cons]
    unfold ins
    rw [inter_lr _ _ _ _ _ (by rw [List.length_map, List.length_take, List.length_take]; omega) (by simp; omega), rz_cons]
    simp only [List.append_assoc, List.cons_append]
  · rcases List.mem_append.1 hk with q | q
    · exact f.2.2.2 k (List.mem_of_mem_take q)
    · rcases List.mem_cons.1 q with q | q
      · subst q; exact fl
      · rcases List.mem_cons.1 q with q | q
        · subst q; exact fh
        · exact f.2.2.2 k (List.mem_of_mem_drop q)
  · rw [show pos lt t2.1 x = _ from p1]
    cases hd : lt md' x with
    | true => exact ⟨_, i1, sh⟩
    | false => exact ⟨_, i0, sl⟩
  · have hg2 : lget lt t2.1 x = none := p2
    have e5 : t.set lt m x = if lt md' x then (ins t.1 (pos lt t.1 x) md', t.2.take (pos lt t.1 x) ++ c'.lo (m / 2) :: PT.set lt m (c'.hi (m / 2)) x :: t.2.drop (pos lt t.1 x + 1))
            else (ins t.1 (pos lt t.1 x) md', t.2.take (pos lt t.1 x) ++ PT.set lt m (c'.lo (m / 2)) x :: c'.hi (m / 2) :: t.2.drop (pos lt t.1 x + 1)) := by
      conv => lhs; unfold PT.set
      simp only [hg, hc, hs, hmd, ↓reduceIte]
      rfl
    rw [e5]
    cases hd : lt md' x with
    | true =>
      have hp : pos lt t2.1 x = pos lt t.1 x + 1 := by rw [show pos lt t2.1 x = _ from p1, hd]; rfl
      conv => lhs; unfold PT.set
      simp only [hg2, hp, i1, sh, ↓reduceIte, Bool.false_eq_true]
      show (t2.1, t2.2.set _ _) = _
      congr 1
      show (t.2.take (pos lt t.1 x) ++ _ :: _ :: t.2.drop (pos lt t.1 x + 1)).set _ _ = _
      rw [List.set_append_right _ _ (by omega), hlt2, Nat.add_sub_cancel_left]; rfl
    | false =>
      have hp : pos lt t2.1 x = pos lt t.1 x := by rw [show pos lt t2.1 x = _ from p1, hd]; rfl
      conv => lhs; unfold PT.set
      simp only [hg2, hp, i0, sl, ↓reduceIte, Bool.false_eq_true]
      show (t2.1, t2.2.set _ _) = _
      congr 1
      show (t.2.take (pos lt t.1 x) ++ _ :: _ :: t.2.drop (pos lt t.1 x + 1)).set _ _ = _
      rw [List.set_append_right _ _ (by omega), hlt2, Nat.sub_self]; rfl
end
/-! ### whole maps -/
section
variable {α : Type} (lt : α → α → Bool) (m : Nat)
/-- A map's tree, or none. -/
abbrev MT (α : Type) := Option ((h : Nat) × PT α h)
def MT.items {α : Type} : MT α → List α
  | none => []
  | some t => t.2.items
/-- The root behind its split. -/
def PT.grow {h : Nat} (t : PT α h) : PT α (h + 1) := ((t.its[m / 2]?).toList, [t.lo (m / 2), t.hi (m / 2)])
def MT.set : MT α → α → MT α
  | none, x => some ⟨0, ([x] : List α)⟩
  | some t, x => if t.2.splits lt m x then some ⟨t.1 + 1, (t.2.grow m).set lt m x⟩ else some ⟨t.1, t.2.set lt m x⟩
def MT.Fl {α : Type} (m : Nat) : MT α → Prop
  | none => True
  | some t => t.2.Fl m 1
variable {lt m} (o : Swo lt)
include o
theorem PT.grow_ok (ho : m % 2 = 1) (h3 : 3 ≤ m) {h lo : Nat} {t : PT α h} {x : α} (f : t.Fl m lo) (ha : Asc lt t.items) (hs : t.splits lt m x = true) :
    (t.grow m).items = t.items ∧ (t.grow m).Fl m 1 ∧ (t.grow m).splits lt m x = false ∧ (∀ c, (t.grow m).2[pos lt (t.grow m).1 x]? = some c → c.splits lt m x = false) := by
  obtain ⟨md, hmd, ec, fl, fh, hlt, _, _, sl, sh⟩ := PT.halves o ho f ha hs
  have e : t.grow m = (([md], [t.lo (m / 2), t.hi (m / 2)]) : List α × List (PT α h)) := by unfold PT.grow; rw [hmd]; rfl
  rw [e]
  refine ⟨?_, ⟨by show 1 ≤ [md].length; exact Nat.le_refl _, by show [md].length ≤ m; simp; omega, rfl, fun k hk => ?_⟩, ?_, ?_⟩
  · rw [ec]
    show inter [md] ([t.lo (m / 2), t.hi (m / 2)].map PT.items) = _
    simp [inter]
  · have hk : k ∈ [t.lo (m / 2), t.hi (m / 2)] := hk
    simp at hk
    rcases hk with e | e <;> subst e
    · exact fl
    · exact fh
  · cases e2 : PT.splits lt m (h := h + 1) ([md], [t.lo (m / 2), t.hi (m / 2)]) x with
    | false => rfl
    | true => have := (PT.splits_len e2).1; have e3 : [md].length = m := this; simp at e3; omega
  · intro c hc
    have hc := List.mem_of_getElem? hc
    have hc : c ∈ [t.lo (m / 2), t.hi (m / 2)] := hc
    simp at hc
    rcases hc with e | e <;> subst e
    · exact sl
    · exact sh
theorem MT.set_items (ho : m % 2 = 1) (h3 : 3 ≤ m) {t : MT α} {x : α} (f : t.Fl m) (ha : Asc lt t.items) : (t.set lt m x).items = lput lt t.items x ∧ (t.set lt m x).Fl m := by
  cases t with
  | none => exact ⟨rfl, by show 1 ≤ List.length [x]; simp, by show List.length [x] ≤ m; simp; omega⟩
  | some t =>
    obtain ⟨h, t⟩ := t
    unfold MT.set
    have f : t.Fl m 1 := f
    have ha : Asc lt t.items := ha
    cases hs : t.splits lt m x with
    | false =>
      simp only [hs, Bool.false_eq_true, ↓reduceIte]
      exact PT.set_items o ho f ha hs
    | true =>
      simp only [hs, ↓reduceIte]
      obtain ⟨g1, g2, g3, _⟩ := PT.grow_ok o ho h3 f ha hs
      have := PT.set_items o ho g2 (by rw [g1]; exact ha) g3
      rw [g1] at this
      exact this
end
theorem St.glue3 {h0 h : Heap} {Z E : List Rg} {α : Type} {f : α → List Value} {sz : Nat} (hf : ∀ x, (f x).length = sz) {b o i : Nat} {L : List α} {sp : List Value} {x : α} (hx : L[i]? = some x)
    (s : St h0 Z ((b, o, (L.take i).flatMap f) :: (b, o + (i + 1) * sz, (L.drop (i + 1)).flatMap f ++ sp) :: (b, o + i * sz, f x) :: E) h) : St h0 Z ((b, o, L.flatMap f ++ sp) :: E) h := by
  obtain ⟨hi, rfl⟩ := List.getElem?_eq_some_iff.1 hx
  have e : L.flatMap f ++ sp = (L.take i).flatMap f ++ (f L[i] ++ ((L.drop (i + 1)).flatMap f ++ sp)) := by
    conv => lhs; rw [← List.take_append_drop i L, List.flatMap_append, List.drop_eq_getElem_cons hi, List.flatMap_cons]
    simp only [List.append_assoc]
  have hlt : ((L.take i).flatMap f).length = i * sz := by rw [flat_len hf, List.length_take, Nat.min_eq_left (Nat.le_of_lt hi)]
  rw [e]
  refine St.glue ?_
  rw [hlt]
  have s1 : St h0 Z ((b, o + i * sz, f L[i]) :: (b, o + i * sz + (f L[i]).length, (L.drop (i + 1)).flatMap f ++ sp) :: (b, o, (L.take i).flatMap f) :: E) h := by
    rw [hf, Nat.add_assoc, ← Nat.succ_mul]
    exact s.perm (by ((apply perm_rg; intro f; simp only [List.set_cons_zero, List.set_cons_succ, List.eraseIdx_cons_zero, List.eraseIdx_cons_succ, List.cons_append, List.nil_append, List.map_append, List.map_cons, List.map_nil, List.sum_append, List.sum_cons, List.sum_nil, List.map_flatMap, Nat.add_zero, Nat.zero_add]; ac_rfl)))
  exact s1.glue.perm (List.Perm.swap _ _ _)
theorem ins_steps {α : Type} (its : List α) (e x : α) {i : Nat} (hi : i ≤ its.length) :
    ((its ++ [e]).take (i + 1) ++ ((its ++ [e]).drop i).take (min ((its ++ [e]).drop i).length ((its ++ [e]).drop (i + 1)).length) ++ (its ++ [e]).drop (i + 1 + min ((its ++ [e]).drop i).length ((its ++ [e]).drop (i + 1)).length)).set i x = ins its i x := by
  have e1 : min ((its ++ [e]).drop i).length ((its ++ [e]).drop (i + 1)).length = its.length - i := by simp; omega
  have e2 : (its ++ [e]).drop i = its.drop i ++ [e] := by rw [List.drop_append_of_le_length hi]
  have e5 : (its.drop i ++ [e]).take (its.length - i) = its.drop i := List.take_left' (by rw [List.length_drop])
  have e6 : (its ++ [e]).drop (i + 1 + (its.length - i)) = [] := List.drop_of_length_le (by rw [List.length_append, List.length_singleton]; omega)
  rw [e1, e2, e5, e6, List.append_nil]
  have e3 : i < ((its ++ [e]).take (i + 1)).length := by simp; omega
  rw [List.set_append_left _ _ e3]
  unfold ins
  have e4 : (its ++ [e]).take (i + 1) = its.take i ++ [(its ++ [e])[i]'(by simp; omega)] := by
    rw [List.take_succ_eq_append_getElem (by simp; omega), List.take_append_of_le_length hi]
  rw [e4, List.set_append_right _ _ (by rw [List.length_take]; omega), List.length_take, Nat.min_eq_left hi, Nat.sub_self]
  simp
theorem ins_length {α : Type} {its : List α} {x : α} {i : Nat} (hi : i ≤ its.length) : (ins its i x).length = its.length + 1 := by unfold ins; simp; omega
theorem Own.cong {sz n b o : Nat} {v : Value} {xs ys sp : List Value} (w : Own sz v n b o xs sp) (h : ys.length = xs.length) : Own sz v n b o ys sp := by
  obtain ⟨a, cap, e, h1, h2, h3, h4⟩ := w.ex
  exact ⟨a, cap, e, by omega, by omega, h3, h4⟩
theorem Rdl.slcLo {h : Heap} {K : Value → Prop} {α : Type} {f : α → List Value} {sz : Nat} (hf : ∀ x, (f x).length = sz) {v : Value} {L : List α} (r : Rdl sz h v L.length (L.flatMap f)) {k : IntKind} {z : Int} {i : Nat} (hz : z = i) (hi : i ≤ L.length)
    (H : ∀ v', Rdl sz h v' (L.drop i).length ((L.drop i).flatMap f) → K v') : Hp.slc sz v (some (.int k z)) none none K := by
  subst hz
  refine r.slc (l := i) (m := L.length) ⟨k, i, rfl, by omega, by omega, by simp⟩ rfl hi (Nat.le_refl _) fun v' r' => H v' ?_
  rw [flat_drop hf, List.take_of_length_le (by rw [flat_len hf, List.length_drop]; exact Nat.le_refl _), ← List.length_drop] at r'
  exact r'
theorem St.r_lzE {h0 h : Heap} {Z E : List Rg} {K : Value → Prop} (s : St h0 Z E h) {b o i n : Nat} {xs : List Value} (hk : (b, o, xs) ∈ Z) (j : Nat) (ys : List Value) (hi : i = o + j) (hn : j + n ≤ xs.length) (hy : (xs.drop j).take n = ys) (H : K (.agg ys.toArray)) : loadN n (ptr b i) h K := by
  subst hy; exact s.r_lzN hk j hi hn H
theorem PT.splits_leaf {α : Type} {lt : α → α → Bool} {m : Nat} (l : List α) (x : α) : PT.splits lt m (h := 0) l x = ((lget lt l x).isNone && l.length == m) := rfl
section
variable {α : Type} {lt : α → α → Bool} {m : Nat} {h : Nat} {t : PT α (h + 1)} {x y : α} {c : PT α h}
theorem PT.set_found (hg : lget lt t.1 x = some y) : t.set lt m x = (lput lt t.1 x, t.2) := by
  conv => lhs; unfold PT.set
  simp only [hg]; rfl
theorem PT.set_kid (hg : lget lt t.1 x = none) (hc : t.2[pos lt t.1 x]? = some c) (hs : c.splits lt m x = false) : t.set lt m x = (t.1, t.2.set (pos lt t.1 x) (c.set lt m x)) := by
  conv => lhs; unfold PT.set
  simp only [hg, hc, hs, Bool.false_eq_true, ↓reduceIte]; rfl
theorem PT.get_found (hg : lget lt t.1 x = some y) : t.get lt x = some y := by
  conv => lhs; unfold PT.get
  simp only [hg]
theorem PT.get_kid (hg : lget lt t.1 x = none) (hc : t.2[pos lt t.1 x]? = some c) : t.get lt x = c.get lt x := by
  conv => lhs; unfold PT.get
  simp only [hg, hc]
theorem PT.splits_kid (hg : lget lt t.1 x = none) (hc : t.2[pos lt t.1 x]? = some c) : t.splits lt m x = (t.1.length == m && c.splits lt m x) := by
  conv => lhs; unfold PT.splits
  simp only [hg, hc]; rfl
end
theorem PT.its_sub1 {α : Type} {h : Nat} (t : PT α (h + 1)) : t.1.Sublist t.items := PT.its_sub (h := h + 1) t
/-! ### rows of single cells -/
abbrev fv (v : Value) : List Value := [v]
theorem fvl (v : Value) : (fv v).length = 1 := rfl
theorem flat_fv : ∀ L : List Value, L.flatMap fv = L
  | [] => rfl
  | v :: r => by rw [List.flatMap_cons, flat_fv r]; rfl
theorem snoc_fv (l : List Value) (e : Value) : l.flatMap fv ++ [e] = (l ++ [e]).flatMap fv := by rw [List.flatMap_append, List.flatMap_singleton]
theorem St.r_storeV {h0 h : Heap} {Z E : List Rg} {KH : Heap → Prop} (s : St h0 Z E h) (k : Nat) {b o i : Nat} {L sp : List Value} {v : Value} (hk : E[k]? = some (b, o, L.flatMap fv ++ sp)) (hi : i < L.length) (hv : one1 v = true)
    (H : ∀ h', St h0 Z (E.set k (b, o, (L.set i v).flatMap fv ++ sp)) h' → KH h') : store1 (ptr b (o + i * 1)) v h KH := by
  rw [flat_fv] at hk
  refine s.r_store1 k hk (by rw [List.length_append]; omega) hv fun h' s' => H h' ?_
  rw [Nat.mul_one, List.set_append_left _ _ hi] at s'
  rw [flat_fv]; exact s'
theorem St.r_loadV {h0 h : Heap} {Z E : List Rg} {K : Value → Prop} (s : St h0 Z E h) (k : Nat) {b o i : Nat} {L sp : List Value} {v : Value} (hk : E[k]? = some (b, o, L.flatMap fv ++ sp)) (hx : L[i]? = some v) (H : K v) : load1 (ptr b (o + i * 1)) h K :=
  s.r_load1F (r := 0) fvl k hk hx rfl H
theorem ins_steps2 {α : Type} (its : List α) (e x : α) {i : Nat} (hi : i < its.length) :
    ((its ++ [e]).take (i + 1) ++ ((its ++ [e]).drop i).take (min ((its ++ [e]).drop i).length ((its ++ [e]).drop (i + 1)).length) ++ (its ++ [e]).drop (i + 1 + min ((its ++ [e]).drop i).length ((its ++ [e]).drop (i + 1)).length)).set (i + 1) x = ins its (i + 1) x := by
  have e1 : min ((its ++ [e]).drop i).length ((its ++ [e]).drop (i + 1)).length = its.length - i := by simp; omega
  have e2 : (its ++ [e]).drop i = its.drop i ++ [e] := by rw [List.drop_append_of_le_length (by omega)]
  have e5 : (its.drop i ++ [e]).take (its.length - i) = its.drop i := List.take_left' (by rw [List.length_drop])
  have e6 : (its ++ [e]).drop (i + 1 + (its.length - i)) = [] := List.drop_of_length_le (by rw [List.length_append, List.length_singleton]; omega)
  rw [e1, e2, e5, e6, List.append_nil, List.take_append_of_le_length (by omega), List.drop_eq_getElem_cons hi, List.set_append_right _ _ (by rw [List.length_take]; omega), List.length_take, Nat.min_eq_left hi, Nat.sub_self]
  rfl
end Go.Hp
end
section
namespace Go.Hp
open Go.RowKit
set_option linter.unusedVariables false
set_option linter.unusedSimpArgs false
variable {h0 h : Heap} {Z E : List Rg} {KV : Value → Heap → Prop} {K : Value → Prop} {KH : Heap → Prop}
theorem St.r_lz0 (s : St h0 Z E h) {b j : Nat} {xs : List Value} {v : Value} (hk : (b, 0, xs) ∈ Z) (hv : xs[j]? = some v) (H : K v) : load1 (ptr b j) h K := s.r_lz hk j (by omega) hv H
theorem St.clz (s : St h0 Z E h) {b o i : Nat} {xs : List Value} {v : Value} (hk : (b, o, xs) ∈ Z) (j : Nat) (hi : i = o + j) (hv : xs[j]? = some v) : cl h b i = some v := by
  subst hi; exact (s.getZ hk (List.getElem?_eq_some_iff.1 hv).1).trans hv
section
variable {α : Type} {f : α → List Value} {sz : Nat} (hf : ∀ x, (f x).length = sz)
include hf
end
/-! ### handing on -/
section
variable {α : Type} (cont : List α → Bool)
variable {cont}
end
/-- A loop over the numbers from j on: one round at a time. -/
theorem loop_up {B : List Value → List Value → Heap → (List Value → Heap → Prop) → Prop} {c : List Value} {h : Heap} (n : Nat) (st : Nat → List Value) (J : Nat → Heap → Prop) (h0 : J 0 h)
    (hr : ∀ j h, j ≤ n → J j h → ∀ K : List Value → Heap → Prop, (∀ h', j < n → J (j + 1) h' → K (st (j + 1)) h') → B c (st j) h K) : loopC B c (st 0) h := by
  refine loop_ghost (fun k s h => ∃ j, k = n - j ∧ j ≤ n ∧ s = st j ∧ J j h) (n0 := n) ⟨0, rfl, Nat.zero_le _, rfl, h0⟩ ?_
  rintro k s h ⟨j, rfl, hj, rfl, hJ⟩ K HK
  exact hr j h hj hJ K fun h' hlt hJ' => HK (n - (j + 1)) (st (j + 1)) h' (by omega) ⟨j + 1, rfl, hlt, rfl, hJ'⟩
section
variable {α : Type} {cont : List α → Bool}
end
/-! ### a loop whose rounds are counted -/
def LoopOk (B : List Value → List Value → Heap → (List Value → Heap → Prop) → Prop) (c : List Value) : Nat → List Value → Heap → Prop
  | 0, s, h => ∀ K, B c s h K
  | n + 1, s, h => ∀ K : List Value → Heap → Prop, (∀ s' h', LoopOk B c n s' h' → K s' h') → B c s h K
theorem LoopOk.loop {B : List Value → List Value → Heap → (List Value → Heap → Prop) → Prop} {c s : List Value} {h : Heap} {n : Nat} (H : LoopOk B c n s h) : loopC B c s h := by
  refine loop_ghost (fun k s h => LoopOk B c k s h) H ?_
  intro k s h hk K HK
  cases k with
  | zero => exact hk K
  | succ k => exact hk K fun s' h' h1 => HK k s' h' (Nat.lt_succ_self _) h1
/-! ### the last way down -/
def GT.bump {It : Type} (δ : Int) : {h : Nat} → GT It h → GT It h
  | 0, d => ({ (d : Nd It) with cnt := Nd.cnt d + δ } : Nd It)
  | _ + 1, t => ({ t.1 with cnt := t.1.cnt + δ }, t.2.modify (t.2.length - 1) (GT.bump δ))
theorem GT.bump_id {It : Type} {δ : Int} : ∀ {h : Nat} (t : GT It h), (t.bump δ).id = t.id
  | 0, _ => rfl
  | _ + 1, _ => rfl
theorem modify_last {β : Type} {l : List β} {f : β → β} {c : β} (hc : l[l.length - 1]? = some c) : l.modify (l.length - 1) f = l.set (l.length - 1) (f c) := by
  obtain ⟨hi, rfl⟩ := List.getElem?_eq_some_iff.1 hc
  apply List.ext_getElem?
  intro j
  rw [List.getElem?_modify, List.getElem?_set]
  by_cases e : l.length - 1 = j
  · subst e; simp [hi, List.getElem?_eq_getElem hi]
  · simp [e]
section
variable {α β : Type} {lt : α → α → Bool} {lt' : β → β → Bool} {f : α → β} (hc : ∀ a b, lt' (f a) (f b) = lt a b)
include hc
end
end Go.Hp
end
section
namespace Go.Hp
open Go.RowKit
set_option linter.unusedVariables false
set_option linter.unusedSimpArgs false
section
variable {α : Type} (lt : α → α → Bool)
def ldel (l : List α) (x : α) : List α := l.take (pos lt l x) ++ l.drop (pos lt l x + if (lget lt l x).isSome then 1 else 0)
variable {lt}
theorem ldel_none {l : List α} {x : α} (h : lget lt l x = none) : ldel lt l x = l := by unfold ldel; rw [h]; simp
theorem ldel_some {l : List α} {x y : α} (h : lget lt l x = some y) : ldel lt l x = l.take (pos lt l x) ++ l.drop (pos lt l x + 1) := by unfold ldel; rw [h]; rfl
theorem ldel_len (l : List α) (x : α) : (ldel lt l x).length + (if (lget lt l x).isSome then 1 else 0) = l.length := by
  cases h : lget lt l x with
  | none => rw [ldel_none h]; simp
  | some y =>
    obtain ⟨hp, _⟩ := lget_some h
    rw [ldel_some h]; simp; omega
theorem ldel_at {p s : List α} {x y : α} (hp : ∀ y ∈ p, lt y x = true) (h1 : lt y x = false) (h2 : lt x y = false) : ldel lt (p ++ y :: s) x = p ++ s := by
  unfold ldel
  rw [lget_at hp h1 h2, pos_app hp, pos_zero (s := y :: s) (fun z hz => by simp at hz; subst hz; exact h1)]
  simp
variable (o : Swo lt)
include o
theorem ldel_mid {p k s : List α} {x : α} (hp : ∀ y ∈ p, lt y x = true) (hs : ∀ y, s.head? = some y → lt x y = true) : ldel lt (p ++ (k ++ s)) x = p ++ (ldel lt k x ++ s) := by
  unfold ldel
  rw [lget_mid o hp hs, pos_app hp, pos_app2 (fun y hy => o.asym (hs y hy))]
  have hk := pos_le (lt := lt) k x
  rw [List.take_length_add_append, Nat.add_assoc, List.drop_length_add_append, List.take_append_of_le_length hk]
  have : pos lt k x + (if (lget lt k x).isSome = true then 1 else 0) ≤ k.length := by
    split
    · rename_i h
      unfold lget at h
      rcases Nat.lt_or_ge (pos lt k x) k.length with h' | h'
      · omega
      · rw [List.getElem?_eq_none h'] at h; simp at h
    · omega
  rw [List.drop_append_of_le_length this]
  simp
end
/-! ### trees -/
section
variable {α : Type} {lt : α → α → Bool} {m : Nat}
/-- Shapes of a node one of whose kids may lack an item. -/
def PT.Fx (m : Nat) {h : Nat} (lo j : Nat) (t : PT α (h + 1)) : Prop := lo ≤ t.1.length ∧ t.1.length ≤ m ∧ t.2.length = t.1.length + 1 ∧ ∀ i k, t.2[i]? = some k → PT.Fl m (if i = j then m / 2 - 1 else m / 2) k
theorem PT.items_at {h : Nat} {its : List α} {ks : List (PT α h)} (hl : ks.length = its.length + 1) {i : Nat} (hi : i ≤ its.length) (c : PT α h) :
    PT.items (h := h + 1) (its, ks.set i c) = lz (its.take i) ((ks.take i).map PT.items) ++ (c.items ++ rz (its.drop i) ((ks.drop (i + 1)).map PT.items)) := by
  show inter its ((ks.set i c).map PT.items) = _
  have e : (ks.set i c).map PT.items = (ks.take i).map PT.items ++ c.items :: (ks.drop (i + 1)).map PT.items := by
    rw [List.set_eq_take_append_cons_drop, if_pos (by omega), List.map_append, List.map_cons]
  conv => lhs; rw [e, ← List.take_append_drop i its]
  exact inter_lr _ _ _ _ _ (by simp; omega) (by simp; omega)
theorem PT.set_its_items {h : Nat} {its : List α} {ks : List (PT α h)} (hl : ks.length = its.length + 1) {i : Nat} (hi : i < its.length) (c : PT α h) (z : α) :
    PT.items (h := h + 1) (its.set i z, ks.set i c) = lz (its.take i) ((ks.take i).map PT.items) ++ (c.items ++ rz (z :: its.drop (i + 1)) ((ks.drop (i + 1)).map PT.items)) := by
  rw [PT.items_at (its := its.set i z) (ks := ks) (by rw [List.length_set]; exact hl) (by rw [List.length_set]; omega) c, List.take_set_of_le (Nat.le_refl _)]
  congr 4
  rw [List.set_eq_take_append_cons_drop, if_pos hi, List.drop_append, List.drop_of_length_le (by rw [List.length_take]; omega), List.length_take, Nat.min_eq_left (Nat.le_of_lt hi), Nat.sub_self]; rfl
variable (o : Swo lt)
include o
/-- Taking out below a node whose own items have x not. -/
theorem PT.del_kid {h lo : Nat} {t : PT α (h + 1)} {x : α} (f : t.Fl m lo) (ha : Asc lt t.items) (hg : lget lt t.1 x = none) : ∃ c, t.2[pos lt t.1 x]? = some c ∧ c ∈ t.2 ∧ Asc lt c.items ∧ lget lt t.items x = lget lt c.items x ∧
    ∀ c' : PT α h, c'.items = ldel lt c.items x → PT.items (h := h + 1) (t.1, t.2.set (pos lt t.1 x) c') = ldel lt t.items x := by
  have hi := pos_le (lt := lt) t.1 x
  obtain ⟨c, hc, hm, e⟩ := PT.around f hi
  have h2 := f.2.2.1
  have ha0 := ha
  rw [e] at ha
  have hb := lz_before o (by simp; omega) ha (fun y hy => (asc_pos (x := x) o ((PT.its_sub (h := h + 1) t).trans (by rw [e]; exact List.Sublist.refl _) |> asc_of_sub ha)).1 y hy)
  have hr : ∀ y, (rz (t.1.drop (pos lt t.1 x)) ((t.2.drop (pos lt t.1 x + 1)).map PT.items)).head? = some y → lt x y = true := by
    rw [rz_head (by simp; omega)]; exact lget_none_head hg
  refine ⟨c, hc, hm, (asc_app (asc_app ha).2.1).1, ?_, fun c' hc' => ?_⟩
  · rw [e]; exact lget_mid o hb hr
  · rw [PT.items_at h2 hi, hc', e]; exact (ldel_mid o hb hr).symm
/-- Taking an own item out: the last one of the kid ahead of it comes into its place. -/
theorem PT.del_own {h lo : Nat} {t : PT α (h + 1)} {x y : α} (f : t.Fl m lo) (ha : Asc lt t.items) (hg : lget lt t.1 x = some y) : ∃ c, t.2[pos lt t.1 x]? = some c ∧ c ∈ t.2 ∧ Asc lt c.items ∧ lget lt t.items x = some y ∧
    ∀ (c' : PT α h) z, c.items = c'.items ++ [z] → PT.items (h := h + 1) (t.1.set (pos lt t.1 x) z, t.2.set (pos lt t.1 x) c') = ldel lt t.items x := by
  obtain ⟨hp, hy, h3, h4⟩ := lget_some hg
  have h2 := f.2.2.1
  obtain ⟨c, hc, hm, e⟩ := PT.around f (Nat.le_of_lt hp)
  have ed : t.1.drop (pos lt t.1 x) = y :: t.1.drop (pos lt t.1 x + 1) := by rw [← hy]; exact List.drop_eq_getElem_cons hp
  obtain ⟨d, hd⟩ : ∃ d, t.2[pos lt t.1 x + 1]? = some d := ⟨t.2[pos lt t.1 x + 1], List.getElem?_eq_getElem (by omega)⟩
  have ek : t.2.drop (pos lt t.1 x + 1) = d :: t.2.drop (pos lt t.1 x + 2) := by
    obtain ⟨h', e'⟩ := List.getElem?_eq_some_iff.1 hd
    rw [← e']; exact List.drop_eq_getElem_cons h'
  have ha0 := ha
  rw [e] at ha
  refine ⟨c, hc, hm, (asc_app (asc_app ha).2.1).1, (PT.found o f ha0 hg).1, fun c' z hz => ?_⟩
  rw [PT.set_its_items h2 hp, e, ed, ek, List.map_cons, rz_cons, rz_cons, hz]
  rw [e, ed, ek, List.map_cons, rz_cons] at ha0
  have hb : ∀ w ∈ lz (t.1.take (pos lt t.1 x)) ((t.2.take (pos lt t.1 x)).map PT.items) ++ c.items, lt w x = true := fun w hw => by
    refine o.tr1 ?_ h4
    rw [← List.append_assoc] at ha0
    exact (asc_app ha0).2.2 w hw y (List.mem_cons_self ..)
  rw [hz] at hb
  have := ldel_at (p := lz (t.1.take (pos lt t.1 x)) ((t.2.take (pos lt t.1 x)).map PT.items) ++ (c'.items ++ [z])) (s := d.items ++ rz (t.1.drop (pos lt t.1 x + 1)) ((t.2.drop (pos lt t.1 x + 2)).map PT.items)) hb h3 h4
  simp only [List.append_assoc, List.cons_append, List.nil_append] at this ⊢
  exact this.symm
omit o in
/-- Taking the last one out. -/
theorem PT.del_last {h lo : Nat} {t : PT α (h + 1)} (f : t.Fl m lo) : ∃ c, t.2[t.1.length]? = some c ∧ c ∈ t.2 ∧
    ∀ (c' : PT α h) z, c.items = c'.items ++ [z] → t.items = PT.items (h := h + 1) (t.1, t.2.set t.1.length c') ++ [z] := by
  obtain ⟨c, hc, hm, e⟩ := PT.around f (Nat.le_refl t.1.length)
  refine ⟨c, hc, hm, fun c' z hz => ?_⟩
  rw [PT.items_at f.2.2.1 (Nat.le_refl _), e, hz]
  have : rz (t.1.drop t.1.length) ((t.2.drop (t.1.length + 1)).map PT.items) = [] := by rw [List.drop_length]; rfl
  rw [this]; simp
omit o in
/-- Two neighbours and the item between them. -/
theorem PT.items_two {h : Nat} (A B : List α) (y : α) (KA KB : List (PT α h)) (l r : PT α h) (h1 : KA.length = A.length) (h2 : KB.length = B.length) :
    PT.items (h := h + 1) (A ++ y :: B, KA ++ l :: r :: KB) = lz A (KA.map PT.items) ++ (l.items ++ y :: (r.items ++ rz B (KB.map PT.items))) := by
  show inter (A ++ y :: B) ((KA ++ l :: r :: KB).map PT.items) = _
  rw [List.map_append, List.map_cons, List.map_cons]
  have := inter_lr A (y :: B) (KA.map PT.items) l.items (r.items :: KB.map PT.items) (by simpa using h1) (by simpa using h2)
  rw [this, rz_cons]
omit o in
theorem PT.items_one {h : Nat} (A B : List α) (KA KB : List (PT α h)) (c : PT α h) (h1 : KA.length = A.length) (h2 : KB.length = B.length) :
    PT.items (h := h + 1) (A ++ B, KA ++ c :: KB) = lz A (KA.map PT.items) ++ (c.items ++ rz B (KB.map PT.items)) := by
  show inter (A ++ B) ((KA ++ c :: KB).map PT.items) = _
  rw [List.map_append, List.map_cons]
  exact inter_lr A B (KA.map PT.items) c.items (KB.map PT.items) (by simpa using h1) (by simpa using h2)
end
end Go.Hp
end
section
namespace Go.Hp
open Go.RowKit
set_option linter.unusedVariables false
set_option linter.unusedSimpArgs false
theorem r_sub1 {n : Nat} {K : Value → Prop} (h1 : 1 ≤ n) (h2 : n ≤ 9223372036854775807) (H : K (.int .i64 ((n - 1 : Nat) : Int))) : arith (· - ·) (.int .i64 n) (.int .i64 1) K :=
  r_sub (z := ((n - 1 : Nat) : Int)) (by rw [i64w (by omega) (by omega)]; omega) H
theorem r_add1 {n : Nat} {K : Value → Prop} (h2 : n + 1 ≤ 9223372036854775807) (H : K (.int .i64 ((n + 1 : Nat) : Int))) : arith (· + ·) (.int .i64 n) (.int .i64 1) K :=
  r_add (z := ((n + 1 : Nat) : Int)) (by rw [i64w (by omega) (by omega)]; omega) H
theorem r_add2 {n : Nat} {K : Value → Prop} (h2 : n + 2 ≤ 9223372036854775807) (H : K (.int .i64 ((n + 2 : Nat) : Int))) : arith (· + ·) (.int .i64 n) (.int .i64 2) K :=
  r_add (z := ((n + 2 : Nat) : Int)) (by rw [i64w (by omega) (by omega)]; omega) H
theorem r_addN {n m : Nat} {K : Value → Prop} (h2 : n + m ≤ 9223372036854775807) (H : K (.int .i64 ((n + m : Nat) : Int))) : arith (· + ·) (.int .i64 n) (.int .i64 m) K :=
  r_add (z := ((n + m : Nat) : Int)) (by rw [i64w (by omega) (by omega)]; omega) H
theorem r_subN {n m : Nat} {K : Value → Prop} (h1 : m ≤ n) (h2 : n ≤ 9223372036854775807) (H : K (.int .i64 ((n - m : Nat) : Int))) : arith (· - ·) (.int .i64 n) (.int .i64 m) K :=
  r_sub (z := ((n - m : Nat) : Int)) (by rw [i64w (by omega) (by omega)]; omega) H
section
variable {α : Type} {f : α → List Value} {sz : Nat} (hf : ∀ x, (f x).length = sz)
include hf
theorem Own.list {v : Value} {b o : Nat} {L X : List α} {sp : List Value} (w : Own sz v L.length b o (L.flatMap f) sp) (h : X.length = L.length) : Own sz v X.length b o (X.flatMap f) sp := by
  rw [h]; exact w.cong (by rw [flat_len hf, flat_len hf, h])
omit hf in
/-- append, of elements. -/
theorem St.r_appL {h0 h : Heap} {Z E : List Rg} {KV : Value → Heap → Prop} (s : St h0 Z E h) (k : Nat) {bytes b o : Nat} {t : TypeId} {zero sp : List Value} {L M : List α} {v x : Value} (hk : E[k]? = some (b, o, L.flatMap f ++ sp)) (w : Own sz v L.length b o (L.flatMap f) sp) (hz : zero.length = sz)
    (hx : Rdl sz h x M.length (M.flatMap f)) (h1 : ∀ y ∈ M, ∀ c ∈ f y, one1 c = true) (hb : 2 * (L.length + M.length) * bytes ≤ 281474976710656) (hb0 : ((L.length + M.length : Nat) : Int) ≤ 9223372036854775807)
    (H : ∀ v' b' o' sp' h', St h0 Z (E.set k (b', o', (L ++ M).flatMap f ++ sp')) h' → Own sz v' (L ++ M).length b' o' ((L ++ M).flatMap f) sp' → KV v' h') (ht : t < TN := by decide) : app t sz bytes zero v x h KV := by
  refine St.r_app s k hk w hz hx (fun y hy => ?_) hb hb0 (fun v' b' o' sp' h' s' w' => ?_) ht
  · obtain ⟨z, hz, hy⟩ := List.mem_flatMap.1 hy
    exact h1 z hz y hy
  · rw [← List.flatMap_append] at s' w'
    exact H v' b' o' sp' h' s' (by rw [List.length_append]; exact w')
omit hf in
theorem flat_cut {L : List α} {sp : List Value} (n : Nat) : L.flatMap f ++ sp = (L.take n).flatMap f ++ ((L.drop n).flatMap f ++ sp) := by
  rw [← List.append_assoc, ← List.flatMap_append, List.take_append_drop]
end
theorem eraseAt {α : Type} {L P S : List α} {y : α} {i : Nat} (e : L = P ++ y :: S) (h : P.length = i) : L.take i ++ L.drop (i + 1) = P ++ S := by
  subst e; subst h
  rw [List.take_left' rfl, List.drop_append, List.drop_of_length_le (by omega), Nat.add_sub_cancel_left]; rfl
theorem del_steps {α : Type} (L : List α) (e : α) {i : Nat} (hi : i < L.length) :
    ((L.take i ++ (L.drop (i + 1)).take (min (L.drop (i + 1)).length (L.drop i).length) ++ L.drop (i + min (L.drop (i + 1)).length (L.drop i).length)).set (L.length - 1) e).take (L.length - 1) = L.take i ++ L.drop (i + 1) := by
  have e1 : min (L.drop (i + 1)).length (L.drop i).length = L.length - (i + 1) := by simp; omega
  have e2 : (L.drop (i + 1)).take (L.length - (i + 1)) = L.drop (i + 1) := List.take_of_length_le (by simp)
  have hl : (L.take i ++ L.drop (i + 1)).length = L.length - 1 := by simp; omega
  rw [e1, e2, List.set_append_right _ _ (by omega), hl, Nat.sub_self, List.take_append_of_le_length (by omega), List.take_of_length_le (by omega)]
theorem del_len {α : Type} (L : List α) (e : α) {i : Nat} (hi : i < L.length) :
    ((L.take i ++ (L.drop (i + 1)).take (min (L.drop (i + 1)).length (L.drop i).length) ++ L.drop (i + min (L.drop (i + 1)).length (L.drop i).length)).set (L.length - 1) e).length = L.length := by
  have e1 : min (L.drop (i + 1)).length (L.drop i).length = L.length - (i + 1) := by simp; omega
  rw [e1]; simp; omega
theorem St.del {h0 h : Heap} {Z E : List Rg} {α : Type} {f : α → List Value} (s : St h0 Z E h) (k : Nat) {b o : Nat} {X Y : List α} {sp : List Value} (hk : E[k]? = some (b, o, X.flatMap f ++ sp)) (n : Nat) (hY : X.take n = Y) : St h0 Z (E.set k (b, o, Y.flatMap f ++ ((X.drop n).flatMap f ++ sp))) h := by
  subst hY
  rw [← flat_cut]
  obtain ⟨h1, h2⟩ := List.getElem?_eq_some_iff.1 hk
  rw [← h2, List.set_getElem_self]; exact s
theorem Own.z0 {α : Type} {f : α → List Value} {sz : Nat} {v : Value} {b o : Nat} {L : List α} {sp : List Value} (w : Own sz v L.length b o (L.flatMap f) sp) : Own sz v (L.drop 0).length b (o + 0 * sz) ((L.drop 0).flatMap f) sp := by simpa using w
theorem del_erase {α : Type} (L : List α) (e : α) {i : Nat} (hi : i < L.length) :
    ((L.take i ++ (L.drop (i + 1)).take (min (L.drop (i + 1)).length (L.drop i).length) ++ L.drop (i + min (L.drop (i + 1)).length (L.drop i).length)).set (L.length - 1) e).take (L.length - 1) = L.eraseIdx i := by
  rw [del_steps L e hi, List.eraseIdx_eq_take_drop_succ]
theorem eraseIdx_at {α : Type} {P S : List α} {y : α} {i : Nat} (h : P.length = i) : (P ++ y :: S).eraseIdx i = P ++ S := by
  rw [List.eraseIdx_eq_take_drop_succ]; exact eraseAt rfl h
theorem fl_leaf {α : Type} {m lo : Nat} {l : List α} (h1 : lo ≤ l.length) (h2 : l.length ≤ m) : PT.Fl m lo (h := 0) l := ⟨h1, h2⟩
theorem fl_inner {α : Type} {m lo k : Nat} {l : List α} {ks : List (PT α k)} (h1 : lo ≤ l.length) (h2 : l.length ≤ m) (h3 : ks.length = l.length + 1) (h4 : ∀ c ∈ ks, PT.Fl m (m / 2) c) : PT.Fl m lo (h := k + 1) (l, ks) := ⟨h1, h2, h3, h4⟩
theorem head_of {α : Type} {l : List α} (h : 1 ≤ l.length) : ∃ z R, l = z :: R := by
  cases l with
  | nil => simp at h
  | cons z R => exact ⟨z, R, rfl⟩
theorem last_of {α : Type} {l : List α} (h : 1 ≤ l.length) : ∃ R z, l = R ++ [z] := by
  rcases List.eq_nil_or_concat l with e | ⟨R, z, e⟩
  · subst e; simp at h
  · exact ⟨R, z, by rw [e, List.concat_eq_append]⟩
theorem St.kids8 {h0 h : Heap} {Z : List Rg} {e1 e2 e3 e4 e5 e6 e7 e8 a b c d : Rg} {X Y W : List Rg} (s : St h0 Z (e1 :: e2 :: e3 :: e4 :: e5 :: e6 :: e7 :: e8 :: ((a :: b :: X) ++ ((c :: d :: Y) ++ W))) h) : St h0 Z (e1 :: e2 :: e3 :: e4 :: e5 :: e6 :: e7 :: e8 :: a :: b :: c :: d :: (X ++ (Y ++ W))) h := s.perm (by ((apply perm_rg; intro f; simp only [List.set_cons_zero, List.set_cons_succ, List.eraseIdx_cons_zero, List.eraseIdx_cons_succ, List.cons_append, List.nil_append, List.map_append, List.map_cons, List.map_nil, List.sum_append, List.sum_cons, List.sum_nil, List.map_flatMap, Nat.add_zero, Nat.zero_add]; ac_rfl)))
theorem St.r_stillZ {h0 h : Heap} {Z E : List Rg} (s : St h0 Z E h) {b o i : Nat} {xs : List Value} {v : Value} (hk : (b, o, xs) ∈ Z) (j : Nat) (hi : i = o + j) (hv : xs[j]? = some v) : still1 (ptr b i) v h := ⟨_, rfl, s.clz hk j hi hv⟩
theorem St.r_loadI {h0 h : Heap} {Z E : List Rg} {K : Value → Prop} (s : St h0 Z E h) (k j : Nat) {b o i : Nat} {xs : List Value} {v : Value} (hk : E[k]? = some (b, o, xs)) (hi : i = o + j) (hv : xs[j]? = some v) (H : K v) : load1 (ptr b i) h K := by
  subst hi; exact s.r_load1 k hk hv H
theorem St.kids0 {h0 h : Heap} {Z : List Rg} {e1 e2 e3 e4 e5 e6 e7 e8 : Rg} {W : List Rg} (s : St h0 Z (e1 :: e2 :: e3 :: e4 :: e5 :: e6 :: e7 :: e8 :: (([] : List Rg) ++ (([] : List Rg) ++ W))) h) : St h0 Z (e1 :: e2 :: e3 :: e4 :: e5 :: e6 :: e7 :: e8 :: W) h := s
theorem St.r_loadD {h0 h : Heap} {Z E : List Rg} {K : Value → Prop} (s : St h0 Z E h) (n : Nat) {b : Nat} {xs : List Value} {v : Value} {j : Nat} (hk : (b, 0, xs) ∈ E.drop n) (hv : xs[j]? = some v) (H : K v) : load1 (ptr b j) h K :=
  s.r_loadM (List.mem_append_left _ (List.mem_of_mem_drop hk)) hv H
theorem pop_steps {α : Type} {L R : List α} {z e : α} (h : L = R ++ [z]) : (L.set (L.length - 1) e).take (L.length - 1) = R := by
  subst h; simp
theorem pop_len {α : Type} {L : List α} {e : α} : (L.set (L.length - 1) e).length = L.length := List.length_set ..
theorem ins0 {α : Type} (l : List α) (x : α) : ins l 0 x = x :: l := rfl
theorem Rdl.z0 {α : Type} {f : α → List Value} {sz : Nat} {h : Heap} {v : Value} {L : List α} (r : Rdl sz h v L.length (L.flatMap f)) : Rdl sz h v (L.drop 0).length ((L.drop 0).flatMap f) := by simpa using r
theorem inter_join {α : Type} : ∀ (a : List α) (ka : List (List α)) (y : α) (b : List α) (kb : List (List α)), ka.length = a.length + 1 → inter (a ++ y :: b) (ka ++ kb) = inter a ka ++ y :: inter b kb
  | [], [k], y, b, kb, _ => by simp [inter]
  | x :: a, k :: ka, y, b, kb, h => by
    have := inter_join a ka y b kb (by simpa using h)
    simp only [List.cons_append, inter, this]
    simp
theorem inter_snoc {α : Type} (a : List α) (ka : List (List α)) (y : α) (k : List α) (h : ka.length = a.length + 1) : inter (a ++ [y]) (ka ++ [k]) = inter a ka ++ y :: k := by
  rw [inter_join a ka y [] [k] h]; simp [inter]
theorem setAt {α : Type} {P S : List α} {y z : α} {i : Nat} (h : P.length = i) : (P ++ y :: S).set i z = P ++ z :: S := by
  subst h; rw [List.set_append_right _ _ (Nat.le_refl _), Nat.sub_self]; rfl
theorem St.clV {h0 h : Heap} {Z E : List Rg} (s : St h0 Z E h) (k : Nat) {b o i : Nat} {L sp : List Value} {v : Value} (hk : E[k]? = some (b, o, L.flatMap fv ++ sp)) (hx : L[i]? = some v) : cl h b (o + i * 1) = some v := by
  rw [flat_fv] at hk
  obtain ⟨hi, rfl⟩ := List.getElem?_eq_some_iff.1 hx
  rw [Nat.mul_one, s.get hk (by rw [List.length_append]; omega), List.getElem?_append_left hi, List.getElem?_eq_getElem hi]
theorem St.cl0 {h0 h : Heap} {Z E : List Rg} (s : St h0 Z E h) (k : Nat) {b j : Nat} {xs : List Value} {v : Value} (hk : E[k]? = some (b, 0, xs)) (hx : xs[j]? = some v) : cl h b j = some v := by
  have := s.get hk (List.getElem?_eq_some_iff.1 hx).1
  rw [Nat.zero_add] at this; rw [this, hx]
theorem getAt {α : Type} {P S : List α} {y : α} {i : Nat} (h : P.length = i) : (P ++ y :: S)[i]? = some y := by
  subst h; rw [List.getElem?_append_right (Nat.le_refl _), Nat.sub_self]; rfl
end Go.Hp
end
section
namespace Go.Proofs.Ytlihjljdndbpdaa
open Go.Hp
set_option linter.unusedVariables false
set_option linter.unusedSimpArgs false
variable {h0 h : Heap} {Z E : List Rg} {Q : Value → Heap → Prop}
theorem one3 {a b c : Value} (h1 : one1 a = true) (h2 : one1 b = true) (h3 : one1 c = true) : ∀ y ∈ [a, b, c], one1 y = true := fun y hy => by
  rcases List.mem_cons.1 hy with rfl | hy
  · exact h1
  · rcases List.mem_cons.1 hy with rfl | hy
    · exact h2
    · rw [List.mem_singleton.1 hy]; exact h3
theorem lift_head {d : Nd It} (hd : NdAt enc 2 h0 d) (hl : d.its.length ≤ 1073741824) {t1 t2 t3 : Nat} {z2 : List Value} {c : Value} (s : St h0 [] ((t1, 0, [ptr d.n 0]) :: (t2, 0, z2) :: (t3, 0, [.slice none 0 0, .slice none 0 0, c]) :: E) h)
    (H : ∀ vi R h', St h0 [] ((t1, 0, [ptr d.n 0]) :: (t2, 0, z2) :: (t3, 0, [vi, .slice none 0 0, c]) :: R) h' → (∃ b o sp, Own 2 vi d.its.length b o (d.its.flatMap encA) sp ∧ (b, o, d.its.flatMap encA ++ sp) ∈ R) → i_liftedMap.j1 (ptr t1 0) (ptr t2 0) (ptr t3 0) h' Q) :
    loopC (fun c s h K1 => i_liftedMap.l6.b (c.getD 0 undef) (c.getD 1 undef) (c.getD 2 undef) (c.getD 3 undef) (s.getD 0 undef) h K1 Q) [ptr t1 0, ptr t2 0, ptr t3 0, .int .i64 d.its.length] [(.int .i64 0)] h := by
  refine loop_ghost (fun q st h' => ∃ j vi b o sp R, q = d.its.length - j ∧ j ≤ d.its.length ∧ st = [.int .i64 (j : Nat)] ∧ Own 2 vi (d.its.take j).length b o ((d.its.take j).flatMap encA) sp ∧
      St h0 [] ((t1, 0, [ptr d.n 0]) :: (t2, 0, z2) :: (t3, 0, [vi, .slice none 0 0, c]) :: (b, o, (d.its.take j).flatMap encA ++ sp) :: R) h') (n0 := d.its.length)
    ⟨0, .slice none 0 0, 0, 0, [], E, rfl, Nat.zero_le _, rfl, Own.nil 2 0 0, (s.empty 0 0).perm (by simp only [List.take_zero, List.flatMap_nil, List.append_nil]; ((apply perm_rg; intro f; simp only [List.set_cons_zero, List.set_cons_succ, List.eraseIdx_cons_zero, List.eraseIdx_cons_succ, List.cons_append, List.nil_append, List.map_append, List.map_cons, List.map_nil, List.sum_append, List.sum_cons, List.sum_nil, List.map_flatMap, Nat.add_zero, Nat.zero_add]; ac_rfl)))⟩ ?_
  clear s
  rintro q st h ⟨j, vi, b, o, sp, R, rfl, hj, rfl, w, s⟩ K HK
  unfold i_liftedMap.l6.b
  refine r_cmpI ?_
  refine r_if (fun hlt => ?_) (fun hge => ?_)
  · have hlt : j < d.its.length := by simpa using hlt
    have et : d.its.take (j + 1) = d.its.take j ++ [d.its[j]] := List.take_succ_eq_append_getElem hlt
    have hll : (d.its.take j).length ≤ 1073741824 := by rw [List.length_take]; omega
    unfold i_liftedMap.j7
    refine St.r_loadN0 s 0 rfl (by simp) ?_
    refine DoorAt_ok (l := d.its) (cl_fr s.fr hd.iv) (hd.its.st s) hlt fun E2 h s2 => ?_
    have s := (s.join s2).perm List.perm_append_comm
    have s : St h0 [] ((t1, 0, [ptr d.n 0]) :: (t2, 0, z2) :: (t3, 0, [vi, .slice none 0 0, c]) :: (b, o, (d.its.take j).flatMap encA ++ sp) :: (R ++ E2)) h := s
    refine r_ext rfl ?_
    refine r_ext rfl ?_
    refine r_fld ?_
    refine St.r_load0 s 2 rfl rfl ?_
    (apply r_build; (simp only [fillV, fill1, Value.cells, zeros_succ, zeros_zero, List.size_toArray, List.length_cons, List.length_nil, List.length_append, List.take_succ_cons, List.take_zero, List.take_nil, List.drop_succ_cons, List.drop_zero, List.drop_nil, List.cons_append, List.nil_append, List.append_nil, Nat.reduceAdd, Nat.reduceMul, Nat.reduceLeDiff, Nat.reduceEqDiff, and_self, and_true, true_and, if_true, Nat.le_refl, Nat.zero_add, Nat.add_zero, Nat.zero_mul, reduceIte, if_false] <;> rfl))
    refine St.r_mkSl (sz := 2) (cs := encA d.its[j]) s (by ((simp only [fillV, fill1, Value.cells, zeros_succ, zeros_zero, List.size_toArray, List.length_cons, List.length_nil, List.length_append, List.take_succ_cons, List.take_zero, List.take_nil, List.drop_succ_cons, List.drop_zero, List.drop_nil, List.cons_append, List.nil_append, List.append_nil, Nat.reduceAdd, Nat.reduceMul, Nat.reduceLeDiff, Nat.reduceEqDiff, and_self, and_true, true_and, if_true, Nat.le_refl, Nat.zero_add, Nat.add_zero, Nat.zero_mul, reduceIte, if_false] <;> rfl))) rfl fun q h s wq => ?_
    refine s.r_appL (f := encA) (L := d.its.take j) (M := [d.its[j]]) 4 rfl w rfl (by have := wq.rdl s 0 rfl; simpa using this) (fun _ _ => by simp [one1]) (by rw [List.length_singleton]; omega) (by rw [List.length_singleton]; omega) fun vi' b' o' sp' h s w' => ?_
    rw [← et] at w' s
    refine r_fld ?_
    refine St.r_store0 s 3 rfl (by simp) w'.one ?_; intro h s
    unfold i_liftedMap.j8
    refine r_add1 (by omega) ?_
    exact HK (d.its.length - (j + 1)) _ _ (by omega) ⟨j + 1, vi', b', o', sp', _, rfl, hlt, rfl, w', s.tail rfl⟩
  · have hge : j = d.its.length := by have := of_decide_eq_false hge; omega
    subst hge
    rw [List.take_length] at w s
    exact H vi _ h s ⟨b, o, sp, w, List.mem_cons_self ..⟩
theorem lifted_ok : ∀ {k : Nat} (t : GT It k) {h : Heap} {Q : Value → Heap → Prop}, t.At enc 2 h → t.Cn → t.pt.Sh 1073741823 →
    (∀ vi vk A h', St h [] A h' → (∀ g, (∀ r ∈ A, r.Ok g) → ArgC g t.pt vi vk) → one1 vi = true → one1 vk = true → Q (.agg #[vi, vk, .int .i64 t.pt.items.length]) h') → i_liftedMap.call #[.agg #[ptr t.id 0]] h Q := by
  intro k
  induction k with
  | zero =>
    intro t h Q ha hc hs H
    have hnd := GT.At.nd ha
    have hs : t.nd.its.length ≤ 1073741823 := hs
    refine i_liftedMap.body _ _ _ ?_
    unfold i_liftedMap.sh
    have s := St.start h
    refine St.r_box (cs := [ptr t.id 0]) s fun t1 h s => ?_
    refine s.r_alloc fun t2 h s => ?_
    refine St.r_loadN0 s 1 rfl (by simp) ?_
    refine DoorCount_ok (cl_fr s.fr hnd.cnt) fun E2 h s2 => ?_
    have s := (s.join s2).perm List.perm_append_comm
    ((apply r_build; ((simp only [fillV, fill1, Value.cells, zeros_succ, zeros_zero, List.size_toArray, List.length_cons, List.length_nil, List.length_append, List.take_succ_cons, List.take_zero, List.take_nil, List.drop_succ_cons, List.drop_zero, List.drop_nil, List.cons_append, List.nil_append, List.append_nil, Nat.reduceAdd, Nat.reduceMul, Nat.reduceLeDiff, Nat.reduceEqDiff, and_self, and_true, true_and, if_true, Nat.le_refl, Nat.zero_add, Nat.add_zero, Nat.zero_mul, reduceIte, if_false] <;> rfl))))
    refine s.r_alloc fun t3 h s => ?_
    refine St.r_storeN0 s 0 (ys := [.slice none 0 0, .slice none 0 0, .int .i64 t.nd.cnt]) rfl rfl (by simp) (by simp [one1]) ?_; intro h s
    have s : St _ [] ((t3, 0, [.slice none 0 0, .slice none 0 0, .int .i64 t.nd.cnt]) :: (t2, 0, [.slice none 0 0, .slice none 0 0, .int .i64 0]) :: (t1, 0, [ptr t.id 0]) :: E2) h := s
    refine St.r_loadN0 s 2 rfl (by simp) ?_
    refine DoorLen_ok (cl_fr s.fr hnd.iv) (hnd.its.st s) fun E3 h s3 => ?_
    have s := (s.join s3).perm List.perm_append_comm
    refine lift_head hnd (by omega) (E := E2 ++ E3) (s.perm (by ((apply perm_rg; intro f; simp only [List.set_cons_zero, List.set_cons_succ, List.eraseIdx_cons_zero, List.eraseIdx_cons_succ, List.cons_append, List.nil_append, List.map_append, List.map_cons, List.map_nil, List.sum_append, List.sum_cons, List.sum_nil, List.map_flatMap, Nat.add_zero, Nat.zero_add]; ac_rfl)))) fun vi R h s hrow => ?_
    obtain ⟨b, o, sp, w, hm⟩ := hrow
    unfold i_liftedMap.j1
    refine St.r_loadN0 s 0 rfl (by simp) ?_
    refine DoorIsLeaf_ok (a := none) (cl_fr s.fr ha.2) fun E4 h s4 => ?_
    have s := (s.join s4).perm List.perm_append_comm
    refine r_not ?_
    refine r_if (fun e => absurd e (by simp)) (fun _ => ?_)
    unfold i_liftedMap.j2
    have s : St _ [] ((t1, 0, [ptr t.id 0]) :: (t2, 0, [.slice none 0 0, .slice none 0 0, .int .i64 0]) :: (t3, 0, [vi, .slice none 0 0, .int .i64 t.nd.cnt]) :: (R ++ E4)) h := s
    refine St.r_loadN0 s 2 rfl (by simp) ?_
    refine St.r_storeN0 s 1 (ys := [vi, .slice none 0 0, .int .i64 t.nd.cnt]) rfl rfl (by simp) (one3 w.one rfl rfl) ?_; intro h s
    refine St.r_loadN0 s 1 rfl (by simp) ?_
    have ec : t.nd.cnt = t.pt.items.length := hc.cnt
    rw [ec] at s ⊢
    refine H vi (.slice none 0 0) _ h s (fun g hg => ⟨?_, Rdl.nil 3 g⟩) w.one rfl
    exact w.rdlO (hg _ (List.mem_cons_of_mem _ (List.mem_cons_of_mem _ (List.mem_cons_of_mem _ (List.mem_append.2 (.inl hm))))))
  | succ k ih =>
    intro t h Q ha hc hs H
    have hnd := GT.At.nd ha
    obtain ⟨_, c1, c2, c3, c4, c5⟩ := ha
    have hs1 : t.1.its.length ≤ 1073741823 := hs.1
    refine i_liftedMap.body _ _ _ ?_
    unfold i_liftedMap.sh
    have s := St.start h
    refine St.r_box (cs := [ptr t.id 0]) s fun t1 h s => ?_
    refine s.r_alloc fun t2 h s => ?_
    refine St.r_loadN0 s 1 rfl (by simp) ?_
    refine DoorCount_ok (cl_fr s.fr hnd.cnt) fun E2 h s2 => ?_
    have s := (s.join s2).perm List.perm_append_comm
    ((apply r_build; ((simp only [fillV, fill1, Value.cells, zeros_succ, zeros_zero, List.size_toArray, List.length_cons, List.length_nil, List.length_append, List.take_succ_cons, List.take_zero, List.take_nil, List.drop_succ_cons, List.drop_zero, List.drop_nil, List.cons_append, List.nil_append, List.append_nil, Nat.reduceAdd, Nat.reduceMul, Nat.reduceLeDiff, Nat.reduceEqDiff, and_self, and_true, true_and, if_true, Nat.le_refl, Nat.zero_add, Nat.add_zero, Nat.zero_mul, reduceIte, if_false] <;> rfl))))
    refine s.r_alloc fun t3 h s => ?_
    refine St.r_storeN0 s 0 (ys := [.slice none 0 0, .slice none 0 0, .int .i64 t.nd.cnt]) rfl rfl (by simp) (by simp [one1]) ?_; intro h s
    have s : St _ [] ((t3, 0, [.slice none 0 0, .slice none 0 0, .int .i64 t.nd.cnt]) :: (t2, 0, [.slice none 0 0, .slice none 0 0, .int .i64 0]) :: (t1, 0, [ptr t.id 0]) :: E2) h := s
    refine St.r_loadN0 s 2 rfl (by simp) ?_
    refine DoorLen_ok (cl_fr s.fr hnd.iv) (hnd.its.st s) fun E3 h s3 => ?_
    have s := (s.join s3).perm List.perm_append_comm
    refine lift_head hnd (by show t.1.its.length ≤ _; omega) (E := E2 ++ E3) (s.perm (by ((apply perm_rg; intro f; simp only [List.set_cons_zero, List.set_cons_succ, List.eraseIdx_cons_zero, List.eraseIdx_cons_succ, List.cons_append, List.nil_append, List.map_append, List.map_cons, List.map_nil, List.sum_append, List.sum_cons, List.sum_nil, List.map_flatMap, Nat.add_zero, Nat.zero_add]; ac_rfl)))) fun vi R h s hrow => ?_
    obtain ⟨b, o, sp, w, hm⟩ := hrow
    unfold i_liftedMap.j1
    refine St.r_loadN0 s 0 rfl (by simp) ?_
    refine DoorIsLeaf_ok (a := some ⟨t.1.kb, 0, none⟩) (cl_fr s.fr c1) fun E4 h s4 => ?_
    have s := (s.join s4).perm List.perm_append_comm
    refine r_not ?_
    refine r_if (fun _ => ?_) (fun e => absurd e (by simp))
    have s : St _ [] ((t1, 0, [ptr t.id 0]) :: (t2, 0, [.slice none 0 0, .slice none 0 0, .int .i64 0]) :: (t3, 0, [vi, .slice none 0 0, .int .i64 t.nd.cnt]) :: (R ++ E4)) h := s
    refine St.r_loadN0 s 0 rfl (by simp) ?_
    have c3' : ∀ {g : Heap} {Z E : List Rg}, St _ Z E g → Rdl 1 g t.1.kv t.2.length (t.2.map fun k => ptr k.id 0) := fun s => c3.st s
    refine DoorKids_ok (cl_fr s.fr c1) (cl_fr s.fr c2) (c3' s) fun E5 h s5 => ?_
    have s := (s.join s5).perm List.perm_append_comm
    have hkl : t.2.length = t.1.its.length + 1 := c4
    refine loop_ghost (fun q st h' => ∃ (j : Nat) (cs : List (Value × Value × Int)) (vk : Value) (b2 o2 : Nat) (p2 : List Value) (R2 : List Rg), q = t.2.length - j ∧ j ≤ t.2.length ∧ st = [.int .i64 (j : Nat)] ∧ cs.length = j ∧ Own 3 vk cs.length b2 o2 (cs.flatMap encN) p2 ∧
        St _ [] ((t1, 0, [ptr t.id 0]) :: (t2, 0, [.slice none 0 0, .slice none 0 0, .int .i64 0]) :: (t3, 0, [vi, vk, .int .i64 t.nd.cnt]) :: (b2, o2, cs.flatMap encN ++ p2) :: (R ++ R2)) h' ∧
        (∀ c ∈ cs, one1 c.1 = true ∧ one1 c.2.1 = true) ∧
        (∀ g, (∀ r ∈ R2, r.Ok g) → ∀ i (h1 : i < t.2.length) (h2 : i < cs.length), ArgC g (t.2[i]).pt cs[i].1 cs[i].2.1 ∧ cs[i].2.2 = (t.2[i]).pt.items.length)) (n0 := t.2.length)
      ⟨0, [], .slice none 0 0, 0, 0, [], E4 ++ E5, rfl, Nat.zero_le _, rfl, rfl, Own.nil 3 0 0, (s.empty 0 0).perm (by ((apply perm_rg; intro f; simp only [List.set_cons_zero, List.set_cons_succ, List.eraseIdx_cons_zero, List.eraseIdx_cons_succ, List.cons_append, List.nil_append, List.map_append, List.map_cons, List.map_nil, List.sum_append, List.sum_cons, List.sum_nil, List.map_flatMap, Nat.add_zero, Nat.zero_add]; ac_rfl))), fun _ h => (List.not_mem_nil h).elim, fun g _ i _ h2 => absurd h2 (Nat.not_lt_zero _)⟩ ?_
    clear s s5 s4
    rintro q st h ⟨j, cs, vk, b2, o2, p2, R2, rfl, hj, rfl, hcs, w2, s, hone, harg⟩ K HK
    unfold i_liftedMap.l3.b
    refine r_cmpI ?_
    refine r_if (fun hlt => ?_) (fun hge => ?_)
    · have hlt : j < t.2.length := by simpa using hlt
      have hkm : t.2[j] ∈ t.2 := List.getElem_mem hlt
      unfold i_liftedMap.j4
      refine r_fld ?_
      refine St.r_load0 s 2 rfl rfl ?_
      refine St.r_loadN0 s 0 rfl (by simp) ?_
      refine DoorKid_ok (l := t.2.map fun k => k.id) (i := j) (cl_fr s.fr c1) (cl_fr s.fr c2) (by rw [List.map_map, List.length_map]; exact c3' s) (by rw [List.length_map]; exact hlt) fun E6 h s6 => ?_
      rw [List.getElem_map]
      have s := (s.join s6).perm List.perm_append_comm
      have s : St _ [] ((t1, 0, [ptr t.id 0]) :: (t2, 0, [.slice none 0 0, .slice none 0 0, .int .i64 0]) :: (t3, 0, [vi, vk, .int .i64 t.nd.cnt]) :: (b2, o2, cs.flatMap encN ++ p2) :: ((R ++ R2) ++ E6)) h := s
      refine ⟨s.r_still0 2 rfl rfl, ?_⟩
      refine ih t.2[j] ((c5 _ hkm).fr s.fr) (hc.2 _ hkm) (hs.2.2 _ (List.mem_map.2 ⟨_, hkm, rfl⟩)) fun kvi kvk A h s7 hA hk1 hk2 => ?_
      have s := (s.join s7).perm List.perm_append_comm
      have s : St _ [] ((t1, 0, [ptr t.id 0]) :: (t2, 0, [.slice none 0 0, .slice none 0 0, .int .i64 0]) :: (t3, 0, [vi, vk, .int .i64 t.nd.cnt]) :: (b2, o2, cs.flatMap encN ++ p2) :: (((R ++ R2) ++ E6) ++ A)) h := s
      refine ⟨s.r_still0 2 rfl rfl, ?_⟩
      refine St.r_mkSl (sz := 3) (cs := encN (kvi, kvk, (t.2[j].pt.items.length : Nat))) s (by ((simp only [fillV, fill1, Value.cells, zeros_succ, zeros_zero, List.size_toArray, List.length_cons, List.length_nil, List.length_append, List.take_succ_cons, List.take_zero, List.take_nil, List.drop_succ_cons, List.drop_zero, List.drop_nil, List.cons_append, List.nil_append, List.append_nil, Nat.reduceAdd, Nat.reduceMul, Nat.reduceLeDiff, Nat.reduceEqDiff, and_self, and_true, true_and, if_true, Nat.le_refl, Nat.zero_add, Nat.add_zero, Nat.zero_mul, reduceIte, if_false] <;> rfl))) rfl fun q1 h s wq => ?_
      refine ⟨s.r_still0 3 rfl rfl, ?_⟩
      refine s.r_appL (f := encN) (L := cs) (M := [(kvi, kvk, ((t.2[j].pt.items.length : Nat) : Int))]) 4 rfl w2 rfl (by have := wq.rdl s 0 rfl; simpa using this) (fun y hy => by rw [List.mem_singleton.1 hy]; exact one3 hk1 hk2 rfl) (by rw [List.length_singleton]; omega) (by rw [List.length_singleton]; omega) fun vk' b2' o2' p2' h s w2' => ?_
      refine r_fld ?_
      refine St.r_store0 s 3 rfl (by simp) w2'.one ?_; intro h s
      unfold i_liftedMap.j5
      refine r_add1 (by omega) ?_
      refine HK (t.2.length - (j + 1)) _ _ (by omega) ⟨j + 1, _, vk', b2', o2', p2', R2 ++ (E6 ++ A), rfl, hlt, rfl, by rw [List.length_append, hcs]; rfl, w2', (s.tail rfl).perm (by simp only [List.set_cons_succ, List.set_cons_zero]; ((apply perm_rg; intro f; simp only [List.set_cons_zero, List.set_cons_succ, List.eraseIdx_cons_zero, List.eraseIdx_cons_succ, List.cons_append, List.nil_append, List.map_append, List.map_cons, List.map_nil, List.sum_append, List.sum_cons, List.sum_nil, List.map_flatMap, Nat.add_zero, Nat.zero_add]; ac_rfl))), fun c hcm => ?_, fun g hg i h1 h2 => ?_⟩
      · rcases List.mem_append.1 hcm with e | e
        · exact hone c e
        · rw [List.mem_singleton.1 e]; exact ⟨hk1, hk2⟩
      · rcases Nat.lt_or_ge i cs.length with h3 | h3
        · rw [List.getElem_append_left h3]
          exact harg g (fun r hr => hg r (List.mem_append.2 (.inl hr))) i h1 h3
        · have : i = j := by rw [List.length_append, List.length_singleton] at h2; omega
          subst this
          rw [List.getElem_append_right h3]
          simp only [hcs, Nat.sub_self, List.getElem_cons_zero]
          exact ⟨hA g fun r hr => hg r (List.mem_append.2 (.inr (List.mem_append.2 (.inr hr)))), trivial⟩
    · have hge : j = t.2.length := by have := of_decide_eq_false hge; omega
      unfold i_liftedMap.j2
      refine St.r_loadN0 s 2 rfl (by simp) ?_
      refine St.r_storeN0 s 1 (ys := [vi, vk, .int .i64 t.nd.cnt]) rfl rfl (by simp) (one3 w.one w2.one rfl) ?_; intro h s
      refine St.r_loadN0 s 1 rfl (by simp) ?_
      have ec : t.nd.cnt = t.pt.items.length := hc.cnt
      rw [ec] at s ⊢
      refine H vi vk _ h s (fun g hg => ⟨w.rdlO (hg _ (List.mem_cons_of_mem _ (List.mem_cons_of_mem _ (List.mem_cons_of_mem _ (List.mem_cons_of_mem _ (List.mem_append.2 (.inl hm))))))), cs, by show cs.length = (t.2.map GT.pt).length; rw [List.length_map]; omega, w2.rdlO (hg _ (List.mem_cons_of_mem _ (List.mem_cons_of_mem _ (List.mem_cons_of_mem _ (List.mem_cons_self ..))))), fun i h1 h2 => ?_⟩) w.one w2.one
      have h1' : i < t.2.length := by have : i < (t.2.map GT.pt).length := h1; rwa [List.length_map] at this
      have := harg g (fun r hr => hg r (List.mem_cons_of_mem _ (List.mem_cons_of_mem _ (List.mem_cons_of_mem _ (List.mem_cons_of_mem _ (List.mem_append.2 (.inr hr))))))) i h1' h2
      have e : (t.2.map GT.pt)[i]'h1 = (t.2[i]'h1').pt := List.getElem_map ..
      show ArgC g ((t.2.map GT.pt)[i]'h1) _ _ ∧ _ = (((t.2.map GT.pt)[i]'h1).items.length : Int)
      rw [e]; exact this
end Go.Proofs.Ytlihjljdndbpdaa
end
section
namespace Go.Proofs.Ytlihjljdndbpdaa
open Go.Hp
set_option linter.unusedVariables false
set_option linter.unusedSimpArgs false
theorem toD_items : ∀ {k : Nat} (x : PT It k), (toD x).items = x.items
  | 0, x => rfl
  | k + 1, x => by
    show inter x.1 ((x.2.map toD).map DT.items) = inter x.1 (x.2.map PT.items)
    rw [List.map_map]
    congr 1
    exact List.map_congr_left fun c _ => toD_items c
theorem toD_its : ∀ {k : Nat} (x : PT It k), (toD x).1 = x.its
  | 0, _ => rfl
  | _ + 1, _ => rfl
theorem toD_lv {m : Nat} : ∀ {k lo : Nat} {x : PT It k}, x.Fl m lo → (toD x).lv = (k + 1, true)
  | 0, _, x, _ => rfl
  | k + 1, lo, x, f => by
    have hl : x.2.length = x.1.length + 1 := f.2.2.1
    obtain ⟨q, r, hq⟩ : ∃ q r, x.2 = q :: r := head_of (by omega)
    have hk : ∀ c ∈ x.2, (toD c).lv = (k + 1, true) := fun c hc => toD_lv (f.2.2.2 c hc)
    have e : (toD x).2 = toD q :: r.map toD := by show x.2.map toD = _; rw [hq]; rfl
    have e1 : (toD x).1 = x.1 := rfl
    have hr : (r.map toD).length = (toD x).1.length := by rw [List.length_map, e1]; rw [hq] at hl; simp at hl; exact hl
    unfold DT.lv
    rw [e]
    simp only [if_pos hr]
    have h1 := hk q (by rw [hq]; simp)
    rw [h1]
    simp only [Bool.true_and, Prod.mk.injEq, true_and, List.all_map, List.all_eq_true, Function.comp]
    intro c hc
    rw [hk c (by rw [hq]; exact List.mem_cons_of_mem _ hc)]
    simp
theorem toD_fl {d : Nat} (hd : 1 ≤ d) : ∀ {k lo : Nat} {x : PT It k}, x.Fl (2 * d - 1) lo → (toD x).fl d lo = true
  | 0, lo, x, f => by
    have f : lo ≤ List.length (α := It) x ∧ List.length (α := It) x ≤ 2 * d - 1 := f
    show (decide ((lo : Int) ≤ (List.length (α := It) x : Nat)) && decide (((List.length (α := It) x : Nat) : Int) ≤ 2 * d - 1) && true) = true
    simp only [Bool.and_eq_true, decide_eq_true_eq, and_true]
    omega
  | k + 1, lo, x, f => by
    have h1 := f.1
    have h2 := f.2.1
    show (decide ((lo : Int) ≤ (x.1.length : Nat)) && decide (((x.1.length : Nat) : Int) ≤ 2 * d - 1) && (x.2.map toD).all fun q => DT.fl d (d - 1) q) = true
    simp only [Bool.and_eq_true, decide_eq_true_eq, List.all_map, List.all_eq_true, Function.comp]
    refine ⟨⟨by omega, by omega⟩, fun c hc => ?_⟩
    have h3 := f.2.2.2 c hc
    rw [show (2 * d - 1) / 2 = d - 1 by omega] at h3
    have := toD_fl hd h3
    rw [show ((d - 1 : Nat) : Int) = (d : Int) - 1 by omega] at this
    exact this
theorem toD_bulk {m : Nat} (hm : 3 ≤ m) : ∀ {k lo : Nat} {x : PT It k}, x.Fl m lo → 1 ≤ lo → (toD x).bulk ≤ 2 * x.items.length
  | 0, lo, x, f, h => by
    have f : lo ≤ List.length (α := It) x := f.1
    show 1 + List.length (α := It) x + 0 ≤ 2 * List.length (α := It) x
    omega
  | k + 1, lo, x, f, h => by
    have h1 := f.1
    have hs : ∀ l : List (PT It k), (∀ c ∈ l, c ∈ x.2) → ((l.map toD).map DT.bulk).sum ≤ 2 * ((l.map PT.items).map List.length).sum := fun l => by
      induction l with
      | nil => intro _; simp
      | cons a r ih =>
        intro hl
        have i1 := ih fun c hc => hl c (List.mem_cons_of_mem _ hc)
        have i2 := toD_bulk hm (f.2.2.2 a (hl a (by simp))) (by omega)
        simp only [List.map_cons, List.sum_cons]
        omega
    have := hs x.2 fun _ h => h
    show 1 + x.1.length + ((x.2.map toD).map DT.bulk).sum ≤ 2 * (inter x.1 (x.2.map PT.items)).length
    rw [inter_length]
    omega
theorem toD_valid {d : Nat} (hd : 2 ≤ d) {k : Nat} {x : PT It k} (f : x.Fl (2 * d - 1) 1) (ha : Asc x.items) : validB d (toD x) := by
  refine .inr ⟨?_, ?_, ?_⟩
  · rw [toD_lv f]
  · rw [if_neg (by omega)]; exact toD_fl (by omega) f
  · rw [toD_items]; exact ha
end Go.Proofs.Ytlihjljdndbpdaa
end
section
namespace Go.Proofs.Ytlihjljdndbpdaa
open Go.Hp
set_option linter.unusedVariables false
set_option linter.unusedSimpArgs false
theorem degree_ok {h : Heap} {Q : Value → Heap → Prop} {d : Int} (h1 : 2 ≤ d) (h2 : d ≤ 1073741824) (H : Q (.tuple #[.int .i64 (d - 1), .int .i64 (2 * d - 1)]) h) : degreeToMinMax.call #[.int .i64 d] h Q := by
  refine degreeToMinMax.body _ _ _ ?_
  unfold degreeToMinMax.sh
  simp only [w_load1, w_loadN, w_nil, w_fld, w_idx, w_len, w_lenStr, w_cap, w_arith, w_divi, w_remi, w_cmpI, w_cmpS, w_not, w_ext, w_eqNilP, w_neNilP, w_eqB, w_pick, w_max, w_ifV, w_br, w_store1, w_storeN, w_alloc, w_box, add_mk, Nat.zero_add, Nat.add_zero, Option.some.injEq, exists_eq_left', List.getElem?_cons_zero, List.getElem?_cons_succ, List.getD_cons_zero, List.getD_cons_succ]
  refine ⟨fun e => absurd e (by simp; omega), fun _ => ⟨fun e => absurd e (by simp; omega), fun _ => ?_⟩⟩
  unfold degreeToMinMax.j1
  simp only [w_load1, w_loadN, w_nil, w_fld, w_idx, w_len, w_lenStr, w_cap, w_arith, w_divi, w_remi, w_cmpI, w_cmpS, w_not, w_ext, w_eqNilP, w_neNilP, w_eqB, w_pick, w_max, w_ifV, w_br, w_store1, w_storeN, w_alloc, w_box, add_mk, Nat.zero_add, Nat.add_zero, Option.some.injEq, exists_eq_left', List.getElem?_cons_zero, List.getElem?_cons_succ, List.getD_cons_zero, List.getD_cons_succ]
  rw [i64w (n := d * 2) (by omega) (by omega), i64w (n := d * 2 - 1) (by omega) (by omega)]
  have hd : (d * 2 - 1).tdiv 2 = d - 1 := by rw [Int.tdiv_eq_ediv_of_nonneg (by omega)]; omega
  rw [hd, i64w (n := d - 1) (by omega) (by omega), show d * 2 - 1 = 2 * d - 1 by omega]
  exact ⟨by decide, H⟩
end Go.Proofs.Ytlihjljdndbpdaa
end
section
namespace Go.Proofs.Ytlihjljdndbpdaa.Ii
open Go.Hp
set_option linter.unusedVariables false
set_option linter.unusedSimpArgs false
abbrev KT := Int
abbrev VT := Int
abbrev It := KT × VT
abbrev enc (p : It) : List Value := [.int .i64 p.2, .int .i64 p.1]
abbrev kv (k : KT) : Value := .int .i64 k
abbrev vv (v : VT) : Value := .int .i64 v
abbrev emp : It := (0, 0)
def lt (a b : It) : Bool := decide (a.1 < b.1)
/-- The cells of a map's head, in parts. -/
abbrev hd0 (iso : Int) (ctr : Option Addr) : List Value := [.int .u64 iso, .pointer ctr]
abbrev hd4 (mn mx : Int) : List Value := enc emp ++ [.int .i64 mn, .int .i64 mx, .bool false, .bool false]
abbrev hdr (iso : Int) (ctr root : Option Addr) (cnt mn mx : Int) : List Value := [.int .u64 iso, .pointer ctr, .pointer root, .int .i64 cnt] ++ hd4 mn mx
theorem encl (p : It) : (enc p).length = 2 := rfl
theorem enc1 (p : It) : ∀ y ∈ enc p, one1 y = true := by simp [one1]
theorem swo : Swo lt where
  irr a := by simp [lt]
  tr a b c h1 h2 := by simp only [lt, decide_eq_true_eq] at *; exact Int.lt_trans h1 h2
  ntr a b c h1 h2 := by simp only [lt, decide_eq_false_iff_not, Int.not_lt] at *; exact Int.le_trans h2 h1

/-- An item as the laws have it. -/
abbrev encA (p : It) : List Value := [kv p.1, vv p.2]
theorem encAl (p : It) : (encA p).length = 2 := rfl
theorem encA1 (p : It) : ∀ y ∈ encA p, one1 y = true := by simp [one1]
abbrev fk (k : KT) : List Value := [kv k]
theorem fkl (k : KT) : (fk k).length = 1 := rfl
/-- The items of a list that is set in order. -/
def setAll (l : List It) : List It := l.foldl (lput lt) []
theorem setAll_snoc (l : List It) (x : It) : setAll (l ++ [x]) = lput lt (setAll l) x := by unfold setAll; rw [List.foldl_append]; rfl
theorem setAll_len (l : List It) : (setAll l).length ≤ l.length := by
  unfold setAll
  have : ∀ (l a : List It), (l.foldl (lput lt) a).length ≤ a.length + l.length := fun l => by
    induction l with
    | nil => intro a; simp
    | cons x r ih =>
      intro a
      have h1 := ih (lput lt a x)
      have h2 : (lput lt a x).length = _ := lput_length
      simp only [List.foldl_cons, List.length_cons]
      split at h2 <;> omega
  have := this l []; simpa using this
/-- The tree of a list that is set in order. -/
def grown (m : Nat) (l : List It) : MT It := l.foldl (MT.set lt m) none
theorem grown_snoc (m : Nat) (l : List It) (x : It) : grown m (l ++ [x]) = (grown m l).set lt m x := by unfold grown; rw [List.foldl_append]; rfl
end Go.Proofs.Ytlihjljdndbpdaa.Ii
end
