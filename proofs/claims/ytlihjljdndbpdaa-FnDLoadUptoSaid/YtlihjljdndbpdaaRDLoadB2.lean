/-
  Texts of this claim, laid together: S1 Cb S2 Cc Cd S3 S4 Ce Cf S5.
  Conditions: as each of them tells.
-/
import Derived.Test.YtlihjljdndbpdaaRDLoadB1
section
namespace Go.Proofs.Ytlihjljdndbpdaa
open Go.Hp
set_option maxRecDepth 100000
set_option maxHeartbeats 8000000
set_option linter.unusedVariables false
set_option linter.unusedSimpArgs false

/-! ### spec.Rank -/
def s_Rank.j1 (s0 : Value) (s1 : Value) (s5 : Value) (h : Heap) (Q : Value → Heap → Prop) : Prop :=
    remi s1 s5 fun t14 =>
    arith (· + ·) t14 s5 fun t16 =>
    remi t16 s5 fun t18 =>
    idx 1 s0 t18 fun t19 =>
    load1 t19 h fun t20 =>
    Q t20 h
def s_Rank.sh (a0 : Value) (a1 : Value) (h : Heap) (Q : Value → Heap → Prop) : Prop :=
    lenV a0 fun t7 =>
    cmpI (fun a b => a == b) t7 (.int .i64 0) fun t9 =>
    ifV t9
    (Q a1 h)
    (s_Rank.j1 a0 a1 t7 h Q)
theorem s_Rank.body (a0 : Value) (a1 : Value) (h : Heap) (Q : Value → Heap → Prop) (H : s_Rank.sh a0 a1 h Q) : s_Rank.call #[a0, a1] h Q := by
  refine callsH_of (args := [a0, a1]) Try.func165 rfl rfl ?_
  unfold s_Rank.sh at H
  refine WPc_seq' ?_
  refine W_region (by kernel_rfl) ?_
  refine vl_n ?_
  refine H_of_R (R_assign (v := (.int .i64 0)) rfl ?_)
  refine vl_e ?_
  refine WPc_seq' ?_
  refine W_region (by kernel_rfl) ?_
  refine vl_n ?_
  refine H_of_R (R_move (v := a0) rfl ?_)
  refine vl_n ?_
  refine H_of_R (R_len Try.underlying37 H fun t7 H => ?_)
  refine vl_n ?_
  refine H_of_R (R_assign (v := t7) rfl ?_)
  refine vl_e ?_
  refine WPc_seq (fun e h => s_Rank.j1 (e 0) (e 1) (e 5) h Q) ?_ (fun e h H => ?_)
  rotate_left
  · unfold s_Rank.j1 at H
    refine WPc_seq' ?_
    refine W_region (by kernel_rfl) ?_
    refine vl_n ?_
    refine H_of_R (R_move (v := (e 0)) rfl ?_)
    refine vl_n ?_
    refine H_of_R (R_move (v := (e 1)) rfl ?_)
    refine vl_n ?_
    refine H_of_R (R_move (v := (e 5)) rfl ?_)
    refine vl_n ?_
    refine H_of_R (R_rem H fun t14 H => ?_)
    refine vl_n ?_
    refine H_of_R (R_move (v := (e 5)) rfl ?_)
    refine vl_n ?_
    refine H_of_R (R_add H fun t16 H => ?_)
    refine vl_n ?_
    refine H_of_R (R_move (v := (e 5)) rfl ?_)
    refine vl_n ?_
    refine H_of_R (R_rem H fun t18 H => ?_)
    refine vl_n ?_
    refine H_of_R (R_idx TE_37 H fun t19 H => ?_)
    refine vl_n ?_
    refine H_of_R (R_load1 T1_3 H fun _ t20 _ _ H => ?_)
    refine vl_n ?_
    refine H_of_R (R_assign (v := t20) rfl ?_)
    refine vl_e ?_
    refine WPc_ret ?_
    refine resH_of rfl ?_
    exact H
  refine WPc_seq' ?_
  refine W_region (by kernel_rfl) ?_
  refine vl_n ?_
  refine H_of_R (R_move (v := t7) rfl ?_)
  refine vl_n ?_
  refine H_of_R (R_eqI H fun t9 H => ?_)
  refine vl_e ?_
  obtain ⟨b, hc, H1, H2⟩ := H
  refine WPc_cond hc (fun hh => ?_) (fun hh => ?_)
  · have H := H1 hh; clear H1 H2
    refine WPc_seq' ?_
    refine W_region (by kernel_rfl) ?_
    refine vl_n ?_
    refine H_of_R (R_move (v := a1) rfl ?_)
    refine vl_n ?_
    refine H_of_R (R_assign (v := a1) rfl ?_)
    refine vl_e ?_
    refine WPc_ret ?_
    refine resH_of rfl ?_
    exact H
  · have H := H2 hh; clear H1 H2
    refine WPc_skip ?_
    exact H
/-! ### spec.Before -/
def s_Before.sh (a0 : Value) (a1 : Value) (a2 : Value) (h : Heap) (Q : Value → Heap → Prop) : Prop :=
    box 27 a1 h fun t4 h =>
    box 27 a2 h fun t5 h =>
    fld 0 t4 fun t8 =>
    load1 t8 h fun t9 =>
    fld 0 t5 fun t12 =>
    load1 t12 h fun t13 =>
    s_Rank.call #[a0, t9] h fun t10 h =>
    still1 t12 t13 h ∧ s_Rank.call #[a0, t13] h fun t14 h =>
    cmpI (fun a b => decide (a < b)) t10 t14 fun t15 =>
    Q t15 h
theorem s_Before.body (a0 : Value) (a1 : Value) (a2 : Value) (h : Heap) (Q : Value → Heap → Prop) (H : s_Before.sh a0 a1 a2 h Q) : s_Before.call #[a0, a1, a2] h Q := by
  refine callsH_of (args := [a0, a1, a2]) Try.func124 rfl rfl ?_
  unfold s_Before.sh at H
  refine WPc_seq' ?_
  refine W_region (by kernel_rfl) ?_
  refine vl_n ?_
  refine H_box H fun t4 h H => ?_
  refine vl_n ?_
  refine H_box H fun t5 h H => ?_
  refine vl_n ?_
  refine H_of_R (R_assign (v := (.bool false)) rfl ?_)
  refine vl_e ?_
  refine WPc_seq' ?_
  refine W_drawn [0, 0, 2, 7, 0, 0, 32, 127, 255, 511] (.take 0 (.take 1 (.take 2 (.take 4 (.take 5 (.take 6 (.alt 3 (.alt 7 (.take 8 (.take 9 .done)) .none) .none))))))) mixed (by kernel_rfl) ?_
  refine tkP rfl ?_
  refine R_move (v := a0) rfl ⟨fun _ => trivial, ?_⟩
  refine tkP rfl ?_
  refine R_fld TF_27_0 H fun t8 H => ⟨fun _ => trivial, ?_⟩
  refine tkL rfl ?_
  refine R_load1 T1_3 H fun at9 t9 hat9 _ H => ?_
  refine tkP rfl ?_
  refine R_move (v := a0) rfl ⟨fun _ => trivial, ?_⟩
  refine tkP rfl ?_
  refine R_fld TF_27_0 H fun t12 H => ⟨fun _ => trivial, ?_⟩
  refine tkL rfl ?_
  refine R_load1 T1_3 H fun at13 t13 hat13 _ H => ?_
  refine alt_n rfl ?_ vp_none
  refine H_call HB_165 H fun t10 h ⟨S, H⟩ => ⟨(hcons rfl (still_1 S hat13) (hskip rfl hnil)), ?_⟩
  refine alt_n rfl ?_ vp_none
  refine H_call HB_165 H fun t14 h H => ⟨(hskip rfl hnil), ?_⟩
  refine tkP rfl ?_
  refine R_lss H fun t15 H => ⟨fun _ => trivial, ?_⟩
  refine tkP rfl ?_
  refine R_assign (v := t15) rfl ⟨fun _ => trivial, ?_⟩
  refine vp_done ?_
  refine WPc_ret ?_
  refine resH_of rfl ?_
  exact H
/-! ### spec.Rising -/
def s_Rising.j1 (h : Heap) (Q : Value → Heap → Prop) : Prop :=
    Q (.bool true) h
def s_Rising.j4 (s0 : Value) (s1 : Value) (s5 : Value) (h : Heap) (K1 : List Value → Heap → Prop) (Q : Value → Heap → Prop) : Prop :=
    arith (· + ·) s5 (.int .i64 1) fun t11 =>
    K1 [t11] h
def s_Rising.j3 (s0 : Value) (s1 : Value) (s5 : Value) (h : Heap) (K1 : List Value → Heap → Prop) (Q : Value → Heap → Prop) : Prop :=
    arith (· - ·) s5 (.int .i64 1) fun t15 =>
    idx 2 s1 t15 fun t16 =>
    loadN 2 t16 h fun t17 =>
    idx 2 s1 s5 fun t20 =>
    loadN 2 t20 h fun t21 =>
    s_Before.call #[s0, t17, t21] h fun t22 h =>
    notV t22 fun t23 =>
    ifV t23
    (Q (.bool false) h)
    (s_Rising.j4 s0 s1 s5 h K1 Q)
def s_Rising.l2.b (c0 : Value) (c1 : Value) (s5 : Value) (h : Heap) (K1 : List Value → Heap → Prop) (Q : Value → Heap → Prop) : Prop :=
    lenV c1 fun t8 =>
    cmpI (fun a b => decide (a < b)) s5 t8 fun t9 =>
    ifV t9
    (s_Rising.j3 c0 c1 s5 h K1 Q)
    (s_Rising.j1 h Q)
def s_Rising.sh (a0 : Value) (a1 : Value) (h : Heap) (Q : Value → Heap → Prop) : Prop :=
    loopC (fun c s h K1 => s_Rising.l2.b (c.getD 0 undef) (c.getD 1 undef) (s.getD 0 undef) h K1 Q) [a0, a1] [(.int .i64 1)] h
theorem s_Rising.body (a0 : Value) (a1 : Value) (h : Heap) (Q : Value → Heap → Prop) (H : s_Rising.sh a0 a1 h Q) : s_Rising.call #[a0, a1] h Q := by
  refine callsH_of (args := [a0, a1]) Try.func106 rfl rfl ?_
  unfold s_Rising.sh at H
  refine WPc_seq' ?_
  refine W_region (by kernel_rfl) ?_
  refine vl_n ?_
  refine H_of_R (R_assign (v := (.bool false)) rfl ?_)
  refine vl_e ?_
  refine WPc_seq (fun e h => s_Rising.j1 h Q) ?_ (fun e h H => ?_)
  rotate_left
  · unfold s_Rising.j1 at H
    refine WPc_seq' ?_
    refine W_region (by kernel_rfl) ?_
    refine vl_n ?_
    refine H_of_R (R_assign (v := (.bool true)) rfl ?_)
    refine vl_e ?_
    refine WPc_ret ?_
    refine resH_of rfl ?_
    exact H
  refine WPc_seq' ?_
  refine W_region (by kernel_rfl) ?_
  refine vl_n ?_
  refine H_of_R (R_assign (v := (.int .i64 1)) rfl ?_)
  refine vl_e ?_
  refine WPc_block ?_
  refine loop_at (fun e => [e 5]) (fun e => [e 0, e 1]) H rfl rfl ?_
  intro K1 e1 h H hin1
  replace H : s_Rising.l2.b (e1 0) (e1 1) (e1 5) h K1 Q := H
  unfold s_Rising.l2.b at H
  clear hin1
  refine WPc_seq (fun e h => s_Rising.j3 (e 0) (e 1) (e 5) h K1 Q ∧ [e1 0, e1 1] = [e 0, e 1]) ?_ (fun e h ⟨H, hq1⟩ => ?_)
  rotate_left
  · unfold s_Rising.j3 at H
    refine WPc_seq (fun e h => s_Rising.j4 (e 0) (e 1) (e 5) h K1 Q ∧ [e1 0, e1 1] = [e 0, e 1]) ?_ (fun e h ⟨H, hq1⟩ => ?_)
    rotate_left
    · unfold s_Rising.j4 at H
      refine W_region (by kernel_rfl) ?_
      refine vl_n ?_
      refine H_of_R (R_move (v := (e 5)) rfl ?_)
      refine vl_n ?_
      refine H_of_R (R_add H fun t11 H => ?_)
      refine vl_n ?_
      refine H_of_R (R_assign (v := t11) rfl ?_)
      refine vl_e ?_
      exact ⟨H, hq1⟩
    refine WPc_block ?_
    refine WPc_seq' ?_
    refine W_drawn [0, 0, 0, 4, 14, 30, 0, 0, 192, 448, 1023, 2047] (.take 0 (.take 1 (.take 2 (.take 3 (.take 4 (.take 5 (.take 6 (.take 7 (.take 8 (.take 9 (.alt 10 (.take 11 .done) .none))))))))))) mixed (by kernel_rfl) ?_
    refine tkP rfl ?_
    refine R_move (v := (e 0)) rfl ⟨fun _ => trivial, ?_⟩
    refine tkP rfl ?_
    refine R_move (v := (e 1)) rfl ⟨fun _ => trivial, ?_⟩
    refine tkP rfl ?_
    refine R_move (v := (e 5)) rfl ⟨fun _ => trivial, ?_⟩
    refine tkP rfl ?_
    refine R_sub H fun t15 H => ⟨fun _ => trivial, ?_⟩
    refine tkP rfl ?_
    refine R_idx TE_22 H fun t16 H => ⟨fun _ => trivial, ?_⟩
    refine tkL rfl ?_
    refine R_loadN TN_27 H fun at17 xt17 hat17 _ H St17 hSt17 => ?_
    refine tkP rfl ?_
    refine R_move (v := (e 1)) rfl ⟨fun _ => trivial, ?_⟩
    refine tkP rfl ?_
    refine R_move (v := (e 5)) rfl ⟨fun _ => trivial, ?_⟩
    refine tkP rfl ?_
    refine R_idx TE_22 H fun t20 H => ⟨fun _ => trivial, ?_⟩
    refine tkL rfl ?_
    refine R_loadN TN_27 H fun at21 xt21 hat21 _ H St21 hSt21 => ?_
    refine alt_n rfl ?_ vp_none
    refine H_call HB_124 H fun t22 h H => ⟨(hskip rfl (hskip rfl hnil)), ?_⟩
    refine tkP rfl ?_
    refine R_not H fun t23 H => ⟨fun _ => trivial, ?_⟩
    refine vp_done ?_
    obtain ⟨b, hc, H1, H2⟩ := H
    refine WPc_cond hc (fun hh => ?_) (fun hh => ?_)
    · have H := H1 hh; clear H1 H2
      refine WPc_seq' ?_
      refine W_region (by kernel_rfl) ?_
      refine vl_n ?_
      refine H_of_R (R_assign (v := (.bool false)) rfl ?_)
      refine vl_e ?_
      refine WPc_ret ?_
      refine resH_of rfl ?_
      exact H
    · have H := H2 hh; clear H1 H2
      refine WPc_skip ?_
      exact ⟨H, hq1⟩
  refine WPc_seq' ?_
  refine W_region (by kernel_rfl) ?_
  refine vl_n ?_
  refine H_of_R (R_move (v := (e1 5)) rfl ?_)
  refine vl_n ?_
  refine H_of_R (R_move (v := (e1 1)) rfl ?_)
  refine vl_n ?_
  refine H_of_R (R_len Try.underlying22 H fun t8 H => ?_)
  refine vl_n ?_
  refine H_of_R (R_lss H fun t9 H => ?_)
  refine vl_e ?_
  obtain ⟨b, hc, H1, H2⟩ := H
  refine WPc_cond hc (fun hh => ?_) (fun hh => ?_)
  · have H := H1 hh; clear H1 H2
    refine WPc_skip ?_
    exact ⟨H, rfl⟩
  · have H := H2 hh; clear H1 H2
    refine WPc_exit ?_
    exact H
/-! ### spec.Valid -/
def s_Valid.j1 (s2 : Value) (s3 : Value) (h : Heap) (Q : Value → Heap → Prop) : Prop :=
    loadN 3 s3 h fun t18 =>
    s_Levels.call #[t18] h fun t19 h =>
    extr 0 t19 fun t20 =>
    extr 1 t19 fun t21 =>
    br t21 true (fld 1 s2 fun t24 =>
    load1 t24 h fun t25 =>
    loadN 3 s3 h fun t27 =>
    s_Width.call #[t25] h fun t26 h =>
    stillN 3 s3 t27 h ∧ s_Filled.call #[t26, (.int .i64 1), t27] h fun t28 h =>
    br t28 true (fld 0 s2 fun t31 =>
    load1 t31 h fun t32 =>
    loadN 3 s3 h fun t33 =>
    s_NodeItems.call #[t33] h fun t34 h =>
    still1 t31 t32 h ∧ s_Rising.call #[t32, t34] h fun t35 h =>
    Q t35 h) (Q (.bool false) h)) (Q (.bool false) h)
def s_Valid.sh (a0 : Value) (a1 : Value) (h : Heap) (Q : Value → Heap → Prop) : Prop :=
    box 39 a0 h fun t2 h =>
    box 25 a1 h fun t3 h =>
    fld 0 t3 fun t7 =>
    load1 t7 h fun t8 =>
    lenV t8 fun t9 =>
    cmpI (fun a b => a == b) t9 (.int .i64 0) fun t10 =>
    br t10 true (fld 1 t3 fun t12 =>
    load1 t12 h fun t13 =>
    lenV t13 fun t14 =>
    cmpI (fun a b => a == b) t14 (.int .i64 0) fun t15 =>
    ifV t15
    (Q (.bool true) h)
    (s_Valid.j1 t2 t3 h Q)) (s_Valid.j1 t2 t3 h Q)
theorem s_Valid.body (a0 : Value) (a1 : Value) (h : Heap) (Q : Value → Heap → Prop) (H : s_Valid.sh a0 a1 h Q) : s_Valid.call #[a0, a1] h Q := by
  refine callsH_of (args := [a0, a1]) Try.func55 rfl rfl ?_
  unfold s_Valid.sh at H
  refine WPc_seq' ?_
  refine W_region (by kernel_rfl) ?_
  refine vl_n ?_
  refine H_box H fun t2 h H => ?_
  refine vl_n ?_
  refine H_box H fun t3 h H => ?_
  refine vl_n ?_
  refine H_of_R (R_assign (v := (.bool false)) rfl ?_)
  refine vl_e ?_
  refine WPc_seq (fun e h => s_Valid.j1 (e 2) (e 3) h Q) ?_ (fun e h H => ?_)
  rotate_left
  · unfold s_Valid.j1 at H
    refine WPc_seq' ?_
    refine W_region (by kernel_rfl) ?_
    refine vl_n ?_
    refine H_of_R (R_loadN TN_25 H fun _ t18 _ _ H _ _ => ?_)
    refine vl_n ?_
    refine H_call HB_69 H fun t19 h H => ?_
    refine vl_n ?_
    refine H_of_R (R_move (v := t19) rfl ?_)
    refine vl_n ?_
    refine H_of_R (R_ext H fun t20 H => ?_)
    refine vl_n ?_
    refine H_of_R (R_ext H fun t21 H => ?_)
    refine vl_n ?_
    refine H_of_R (R_assign (v := t20) rfl ?_)
    refine vl_n ?_
    refine H_of_R (R_assign (v := t21) rfl ?_)
    refine vl_e ?_
    refine WPc_seq' ?_
    refine W_drawn [0, 1, 3, 7, 15, 3, 63, 127, 255, 511, 1023, 511, 2559, 8191, 16383, 32767] (.take 0 (.take 1 (.take 2 (.take 3 (.take 5 (.alt 4 (.alt 6 (.take 7 (.take 8 (.take 9 (.take 10 (.take 11 (.alt 12 (.alt 13 (.take 14 (.take 15 .done)) .none) .none)))))) .none) .none)))))) mixed (by kernel_rfl) ?_
    refine tkP rfl ?_
    refine R_move (v := t21) rfl ⟨fun _ => trivial, ?_⟩
    refine tkP rfl ?_
    refine R_move (v := t21) rfl ⟨fun _ => trivial, ?_⟩
    obtain ⟨b, hb, H1, H2⟩ := H
    cases b
    · have H := H2 rfl; clear H1 H2
      refine tk_s rfl rfl (nbT hb) ?_
      refine tk_s rfl rfl (nbT hb) ?_
      refine tk_s rfl rfl (nbT hb) ?_
      refine alt_s rfl rfl (nbT hb) ?_ vp_none
      refine alt_s rfl rfl (nbT hb) ?_ vp_none
      refine tkP rfl ?_
      refine R_pickC (v := (.bool false)) false hb rfl ⟨fun _ => trivial, ?_⟩
      refine tkP rfl ?_
      refine R_move (v := (.bool false)) rfl ⟨fun _ => trivial, ?_⟩
      refine tk_s rfl rfl (nbT rfl) ?_
      refine tk_s rfl rfl (nbT rfl) ?_
      refine tk_s rfl rfl (nbT rfl) ?_
      refine alt_s rfl rfl (nbT rfl) ?_ vp_none
      refine alt_s rfl rfl (nbT rfl) ?_ vp_none
      refine tkP rfl ?_
      refine R_pickC (v := (.bool false)) false rfl rfl ⟨fun _ => trivial, ?_⟩
      refine tkP rfl ?_
      refine R_assign (v := (.bool false)) rfl ⟨fun _ => trivial, ?_⟩
      refine vp_done ?_
      refine WPc_ret ?_
      refine resH_of rfl ?_
      exact H
    · have H := H1 rfl; clear H1 H2
      refine tkPy rfl rfl hb ?_
      refine R_fld TF_39_1 H fun t24 H => ⟨fun _ => trivial, ?_⟩
      refine tkLy rfl rfl hb ?_
      refine R_load1 T1_3 H fun at25 t25 hat25 _ H => ?_
      refine tkLy rfl rfl hb ?_
      refine R_loadN TN_25 H fun at27 xt27 hat27 _ H St27 hSt27 => ?_
      refine alt_y rfl rfl hb ?_ vp_none
      refine H_call HB_64 H fun t26 h ⟨S, H⟩ => ⟨(hcons rfl (hSt27 _ (still_N S hat27 rfl)) (hskip rfl hnil)), ?_⟩
      refine alt_y rfl rfl hb ?_ vp_none
      refine H_call HB_105 H fun t28 h H => ⟨(hskip rfl hnil), ?_⟩
      refine tkP rfl ?_
      refine R_pickC (v := t28) true hb rfl ⟨fun _ => trivial, ?_⟩
      refine tkP rfl ?_
      refine R_move (v := t28) rfl ⟨fun _ => trivial, ?_⟩
      obtain ⟨b_2, hb_2, H1, H2⟩ := H
      cases b_2
      · have H := H2 rfl; clear H1 H2
        refine tk_s rfl rfl (nbT hb_2) ?_
        refine tk_s rfl rfl (nbT hb_2) ?_
        refine tk_s rfl rfl (nbT hb_2) ?_
        refine alt_s rfl rfl (nbT hb_2) ?_ vp_none
        refine alt_s rfl rfl (nbT hb_2) ?_ vp_none
        refine tkP rfl ?_
        refine R_pickC (v := (.bool false)) false hb_2 rfl ⟨fun _ => trivial, ?_⟩
        refine tkP rfl ?_
        refine R_assign (v := (.bool false)) rfl ⟨fun _ => trivial, ?_⟩
        refine vp_done ?_
        refine WPc_ret ?_
        refine resH_of rfl ?_
        exact H
      · have H := H1 rfl; clear H1 H2
        refine tkPy rfl rfl hb_2 ?_
        refine R_fld TF_39_0 H fun t31 H => ⟨fun _ => trivial, ?_⟩
        refine tkLy rfl rfl hb_2 ?_
        refine R_load1 T1_37 H fun at32 t32 hat32 _ H => ?_
        refine tkLy rfl rfl hb_2 ?_
        refine R_loadN TN_25 H fun at33 xt33 hat33 _ H St33 hSt33 => ?_
        refine alt_y rfl rfl hb_2 ?_ vp_none
        refine H_call HB_19 H fun t34 h ⟨S_2, H⟩ => ⟨(hskip rfl (hcons rfl (still_1 S_2 hat32) hnil)), ?_⟩
        refine alt_y rfl rfl hb_2 ?_ vp_none
        refine H_call HB_106 H fun t35 h H => ⟨(hskip rfl hnil), ?_⟩
        refine tkP rfl ?_
        refine R_pickC (v := t35) true hb_2 rfl ⟨fun _ => trivial, ?_⟩
        refine tkP rfl ?_
        refine R_assign (v := t35) rfl ⟨fun _ => trivial, ?_⟩
        refine vp_done ?_
        refine WPc_ret ?_
        refine resH_of rfl ?_
        exact H
  refine WPc_seq' ?_
  refine W_region (by kernel_rfl) ?_
  refine vl_n ?_
  refine H_of_R (R_fld TF_25_0 H fun t7 H => ?_)
  refine vl_n ?_
  refine H_of_R (R_load1 T1_22 H fun _ t8 _ _ H => ?_)
  refine vl_n ?_
  refine H_of_R (R_len Try.underlying22 H fun t9 H => ?_)
  refine vl_n ?_
  refine H_of_R (R_eqI H fun t10 H => ?_)
  refine vl_n ?_
  refine H_of_R (R_move (v := t10) rfl ?_)
  obtain ⟨b, hb, H1, H2⟩ := H
  cases b
  · have H := H2 rfl; clear H1 H2
    refine vl_s rfl (nbT hb) ?_
    refine vl_s rfl (nbT hb) ?_
    refine vl_s rfl (nbT hb) ?_
    refine vl_s rfl (nbT hb) ?_
    refine vl_n ?_
    refine H_of_R (R_pickC (v := (.bool false)) false hb rfl ?_)
    refine vl_e ?_
    refine WPc_cond (t := false) rfl (fun hh => by cases hh) (fun _ => ?_)
    refine WPc_skip ?_
    exact H
  · have H := H1 rfl; clear H1 H2
    refine vl_y rfl hb ?_
    refine H_of_R (R_fld TF_25_1 H fun t12 H => ?_)
    refine vl_y rfl hb ?_
    refine H_of_R (R_load1 T1_23 H fun _ t13 _ _ H => ?_)
    refine vl_y rfl hb ?_
    refine H_of_R (R_len Try.underlying23 H fun t14 H => ?_)
    refine vl_y rfl hb ?_
    refine H_of_R (R_eqI H fun t15 H => ?_)
    refine vl_n ?_
    refine H_of_R (R_pickC (v := t15) true hb rfl ?_)
    refine vl_e ?_
    obtain ⟨b_2, hc, H1, H2⟩ := H
    refine WPc_cond hc (fun hh => ?_) (fun hh => ?_)
    · have H := H1 hh; clear H1 H2
      refine WPc_seq' ?_
      refine W_region (by kernel_rfl) ?_
      refine vl_n ?_
      refine H_of_R (R_assign (v := (.bool true)) rfl ?_)
      refine vl_e ?_
      refine WPc_ret ?_
      refine resH_of rfl ?_
      exact H
    · have H := H2 hh; clear H1 H2
      refine WPc_skip ?_
      exact H
/-! ### laws.validD -/
def l_validD.sh (a0 : Value) (a1 : Value) (h : Heap) (Q : Value → Heap → Prop) : Prop :=
    box 25 a1 h fun t3 h =>
    l_fit.call #[a0] h fun t6 h =>
    br t6 true (buildV [(.slice none 0 0), (.int .i64 0), (.bool false)] [(1, 1, a0)] fun t9 =>
    loadN 3 t3 h fun t10 =>
    s_Valid.call #[t9, t10] h fun t11 h =>
    Q t11 h) (Q (.bool false) h)
theorem l_validD.body (a0 : Value) (a1 : Value) (h : Heap) (Q : Value → Heap → Prop) (H : l_validD.sh a0 a1 h Q) : l_validD.call #[a0, a1] h Q := by
  refine callsH_of (args := [a0, a1]) Try.func13 rfl rfl ?_
  unfold l_validD.sh at H
  refine WPc_seq' ?_
  refine W_region (by kernel_rfl) ?_
  refine vl_n ?_
  refine H_box H fun t3 h H => ?_
  refine vl_n ?_
  refine H_of_R (R_assign (v := (.bool false)) rfl ?_)
  refine vl_e ?_
  refine WPc_seq' ?_
  refine W_region (by kernel_rfl) ?_
  refine vl_n ?_
  refine H_of_R (R_move (v := a0) rfl ?_)
  refine vl_n ?_
  refine H_call HB_25 H fun t6 h H => ?_
  refine vl_n ?_
  refine H_of_R (R_move (v := t6) rfl ?_)
  obtain ⟨b, hb, H1, H2⟩ := H
  cases b
  · have H := H2 rfl; clear H1 H2
    refine vl_s rfl (nbT hb) ?_
    refine vl_s rfl (nbT hb) ?_
    refine vl_s rfl (nbT hb) ?_
    refine vl_s rfl (nbT hb) ?_
    refine vl_n ?_
    refine H_of_R (R_pickC (v := (.bool false)) false hb rfl ?_)
    refine vl_n ?_
    refine H_of_R (R_assign (v := (.bool false)) rfl ?_)
    refine vl_e ?_
    refine WPc_ret ?_
    refine resH_of rfl ?_
    exact H
  · have H := H1 rfl; clear H1 H2
    refine vl_y rfl hb ?_
    refine H_of_R (R_move (v := a0) rfl ?_)
    refine vl_y rfl hb ?_
    refine H_of_R (R_build TB_39 rfl (by decide) H fun t9 H => ?_)
    refine vl_y rfl hb ?_
    refine H_of_R (R_loadN TN_25 H fun _ t10 _ _ H _ _ => ?_)
    refine vl_y rfl hb ?_
    refine H_call HB_55 H fun t11 h H => ?_
    refine vl_n ?_
    refine H_of_R (R_pickC (v := t11) true hb rfl ?_)
    refine vl_n ?_
    refine H_of_R (R_assign (v := t11) rfl ?_)
    refine vl_e ?_
    refine WPc_ret ?_
    refine resH_of rfl ?_
    exact H
/-! ### pub/tidwallbtree.degreeToMinMax -/
def degreeToMinMax.j1 (s0 : Value) (h : Heap) (Q : Value → Heap → Prop) : Prop :=
    arith (· * ·) s0 (.int .i64 2) fun t9 =>
    arith (· - ·) t9 (.int .i64 1) fun t10 =>
    divi t10 (.int .i64 2) fun t12 =>
    Q (.tuple #[t12, t10]) h
def degreeToMinMax.sh (a0 : Value) (h : Heap) (Q : Value → Heap → Prop) : Prop :=
    cmpI (fun a b => decide (a ≤ b)) a0 (.int .i64 0) fun t5 =>
    ifV t5
    (degreeToMinMax.j1 (.int .i64 32) h Q)
    (cmpI (fun a b => a == b) a0 (.int .i64 1) fun t7 =>
    ifV t7
    (degreeToMinMax.j1 (.int .i64 2) h Q)
    (degreeToMinMax.j1 a0 h Q))
theorem degreeToMinMax.body (a0 : Value) (h : Heap) (Q : Value → Heap → Prop) (H : degreeToMinMax.sh a0 h Q) : degreeToMinMax.call #[a0] h Q := by
  refine callsH_of (args := [a0]) Try.func155 rfl rfl ?_
  unfold degreeToMinMax.sh at H
  refine WPc_seq' ?_
  refine W_region (by kernel_rfl) ?_
  refine vl_n ?_
  refine H_of_R (R_assign (v := (.int .i64 0)) rfl ?_)
  refine vl_n ?_
  refine H_of_R (R_assign (v := (.int .i64 0)) rfl ?_)
  refine vl_e ?_
  refine WPc_seq (fun e h => degreeToMinMax.j1 (e 0) h Q) ?_ (fun e h H => ?_)
  rotate_left
  · unfold degreeToMinMax.j1 at H
    refine WPc_seq' ?_
    refine W_region (by kernel_rfl) ?_
    refine vl_n ?_
    refine H_of_R (R_move (v := (e 0)) rfl ?_)
    refine vl_n ?_
    refine H_of_R (R_mul H fun t9 H => ?_)
    refine vl_n ?_
    refine H_of_R (R_sub H fun t10 H => ?_)
    refine vl_n ?_
    refine H_of_R (R_assign (v := t10) rfl ?_)
    refine vl_e ?_
    refine WPc_seq' ?_
    refine W_region (by kernel_rfl) ?_
    refine vl_n ?_
    refine H_of_R (R_move (v := t10) rfl ?_)
    refine vl_n ?_
    refine H_of_R (R_quo H fun t12 H => ?_)
    refine vl_n ?_
    refine H_of_R (R_assign (v := t12) rfl ?_)
    refine vl_e ?_
    refine WPc_seq' ?_
    refine W_region (by kernel_rfl) ?_
    refine vl_n ?_
    refine H_of_R (R_move (v := t12) rfl ?_)
    refine vl_n ?_
    refine H_of_R (R_move (v := t10) rfl ?_)
    refine vl_n ?_
    refine H_of_R (R_assign (v := t12) rfl ?_)
    refine vl_n ?_
    refine H_of_R (R_assign (v := t10) rfl ?_)
    refine vl_e ?_
    refine WPc_ret ?_
    refine resH_of rfl ?_
    exact H
  refine WPc_seq' ?_
  refine W_region (by kernel_rfl) ?_
  refine vl_n ?_
  refine H_of_R (R_move (v := a0) rfl ?_)
  refine vl_n ?_
  refine H_of_R (R_leq H fun t5 H => ?_)
  refine vl_e ?_
  obtain ⟨b, hc, H1, H2⟩ := H
  refine WPc_cond hc (fun hh => ?_) (fun hh => ?_)
  · have H := H1 hh; clear H1 H2
    refine W_region (by kernel_rfl) ?_
    refine vl_n ?_
    refine H_of_R (R_assign (v := (.int .i64 32)) rfl ?_)
    refine vl_e ?_
    exact H
  · have H := H2 hh; clear H1 H2
    refine WPc_seq' ?_
    refine W_region (by kernel_rfl) ?_
    refine vl_n ?_
    refine H_of_R (R_move (v := a0) rfl ?_)
    refine vl_n ?_
    refine H_of_R (R_eqI H fun t7 H => ?_)
    refine vl_e ?_
    obtain ⟨b_2, hc_2, H1, H2⟩ := H
    refine WPc_cond hc_2 (fun hh => ?_) (fun hh => ?_)
    · have H := H1 hh; clear H1 H2
      refine W_region (by kernel_rfl) ?_
      refine vl_n ?_
      refine H_of_R (R_assign (v := (.int .i64 2)) rfl ?_)
      refine vl_e ?_
      exact H
    · have H := H2 hh; clear H1 H2
      refine WPc_skip ?_
      exact H
/-! ### (*pub/tidwallbtree.Map[int, int]).init -/
def Map_ii_init.j1 (s0 : Value) (s1 : Value) (h : Heap) (Q : Value → Heap → Prop) : Prop :=
    degreeToMinMax.call #[s1] h fun t13 h =>
    extr 0 t13 fun t14 =>
    extr 1 t13 fun t15 =>
    nilck s0 fun t16 =>
    fld 6 t16 fun t17 =>
    store1 t17 t14 h fun h =>
    nilck s0 fun t18 =>
    fld 7 t18 fun t19 =>
    store1 t19 t15 h fun h =>
    nilck s0 fun t23 =>
    fld 4 t23 fun t24 =>
    fld 0 t24 fun t25 =>
    load1 t25 h fun t26 =>
    extr 0 (.tuple #[.nilIface, .bool false]) fun t29 =>
    extr 1 (.tuple #[.nilIface, .bool false]) fun t30 =>
    nilck s0 fun t31 =>
    fld 8 t31 fun t32 =>
    store1 t32 t30 h fun h =>
    nilck s0 fun t34 =>
    fld 8 t34 fun t35 =>
    load1 t35 h fun t36 =>
    notV t36 fun t37 =>
    ifV t37
    (nilck s0 fun t41 =>
    fld 4 t41 fun t42 =>
    fld 0 t42 fun t43 =>
    load1 t43 h fun t44 =>
    extr 0 (.tuple #[.nilIface, .bool false]) fun t47 =>
    extr 1 (.tuple #[.nilIface, .bool false]) fun t48 =>
    nilck s0 fun t49 =>
    fld 9 t49 fun t50 =>
    store1 t50 t48 h fun h =>
    Q (.tuple #[]) h)
    (Q (.tuple #[]) h)
def Map_ii_init.sh (a0 : Value) (a1 : Value) (h : Heap) (Q : Value → Heap → Prop) : Prop :=
    nilck a0 fun t5 =>
    fld 6 t5 fun t6 =>
    load1 t6 h fun t7 =>
    cmpI (fun a b => a != b) t7 (.int .i64 0) fun t8 =>
    ifV t8
    (Q (.tuple #[]) h)
    (Map_ii_init.j1 a0 a1 h Q)
theorem Map_ii_init.body (a0 : Value) (a1 : Value) (h : Heap) (Q : Value → Heap → Prop) (H : Map_ii_init.sh a0 a1 h Q) : Map_ii_init.call #[a0, a1] h Q := by
  refine callsH_of (args := [a0, a1]) Try.func111 rfl rfl ?_
  unfold Map_ii_init.sh at H
  refine WPc_seq (fun e h => Map_ii_init.j1 (e 0) (e 1) h Q) ?_ (fun e h H => ?_)
  rotate_left
  · unfold Map_ii_init.j1 at H
    refine WPc_seq' ?_
    refine W_region (by kernel_rfl) ?_
    refine vl_n ?_
    refine H_of_R (R_move (v := (e 0)) rfl ?_)
    refine vl_n ?_
    refine H_of_R (R_move (v := (e 0)) rfl ?_)
    refine vl_n ?_
    refine H_of_R (R_move (v := (e 1)) rfl ?_)
    refine vl_n ?_
    refine H_call HB_155 H fun t13 h H => ?_
    refine vl_n ?_
    refine H_of_R (R_move (v := t13) rfl ?_)
    refine vl_n ?_
    refine H_of_R (R_ext H fun t14 H => ?_)
    refine vl_n ?_
    refine H_of_R (R_ext H fun t15 H => ?_)
    refine vl_n ?_
    refine H_of_R (R_nil H fun t16 H => ?_)
    refine vl_n ?_
    refine H_of_R (R_fld TF_182_5 H fun t17 H => ?_)
    refine vl_n ?_
    refine H_store1 TS_3 H fun h H => ?_
    refine vl_n ?_
    refine H_of_R (R_nil H fun t18 H => ?_)
    refine vl_n ?_
    refine H_of_R (R_fld TF_182_6 H fun t19 H => ?_)
    refine vl_n ?_
    refine H_store1 TS_3 H fun h H => ?_
    refine vl_e ?_
    refine WPc_seq' ?_
    refine W_region (by kernel_rfl) ?_
    refine vl_n ?_
    refine H_of_R (R_move (v := (e 0)) rfl ?_)
    refine vl_n ?_
    refine H_of_R (R_move (v := (e 0)) rfl ?_)
    refine vl_n ?_
    refine H_of_R (R_nil H fun t23 H => ?_)
    refine vl_n ?_
    refine H_of_R (R_fld TF_182_4 H fun t24 H => ?_)
    refine vl_n ?_
    refine H_of_R (R_fld TF_178_0 H fun t25 H => ?_)
    refine vl_n ?_
    refine H_of_R (R_load1 T1_3 H fun _ t26 _ _ H => ?_)
    refine vl_n ?_
    refine H_of_R (R_mkI Try.underlying3 (by intro k hk; cases hk) ?_)
    refine vl_n ?_
    refine H_of_R (R_ta (t := 3) Try.underlying240 Try.type3 (missing_some rfl) Try.type240 rfl rfl ?_)
    refine vl_n ?_
    refine H_of_R (R_move (v := (.tuple #[.nilIface, .bool false])) rfl ?_)
    refine vl_n ?_
    refine H_of_R (R_ext H fun t29 H => ?_)
    refine vl_n ?_
    refine H_of_R (R_ext H fun t30 H => ?_)
    refine vl_n ?_
    refine H_of_R (R_nil H fun t31 H => ?_)
    refine vl_n ?_
    refine H_of_R (R_fld TF_182_7 H fun t32 H => ?_)
    refine vl_n ?_
    refine H_store1 TS_4 H fun h H => ?_
    refine vl_e ?_
    refine WPc_seq' ?_
    refine W_region (by kernel_rfl) ?_
    refine vl_n ?_
    refine H_of_R (R_move (v := (e 0)) rfl ?_)
    refine vl_n ?_
    refine H_of_R (R_nil H fun t34 H => ?_)
    refine vl_n ?_
    refine H_of_R (R_fld TF_182_7 H fun t35 H => ?_)
    refine vl_n ?_
    refine H_of_R (R_load1 T1_4 H fun _ t36 _ _ H => ?_)
    refine vl_n ?_
    refine H_of_R (R_not H fun t37 H => ?_)
    refine vl_e ?_
    obtain ⟨b, hc, H1, H2⟩ := H
    refine WPc_cond hc (fun hh => ?_) (fun hh => ?_)
    · have H := H1 hh; clear H1 H2
      refine W_region (by kernel_rfl) ?_
      refine vl_n ?_
      refine H_of_R (R_move (v := (e 0)) rfl ?_)
      refine vl_n ?_
      refine H_of_R (R_move (v := (e 0)) rfl ?_)
      refine vl_n ?_
      refine H_of_R (R_nil H fun t41 H => ?_)
      refine vl_n ?_
      refine H_of_R (R_fld TF_182_4 H fun t42 H => ?_)
      refine vl_n ?_
      refine H_of_R (R_fld TF_178_0 H fun t43 H => ?_)
      refine vl_n ?_
      refine H_of_R (R_load1 T1_3 H fun _ t44 _ _ H => ?_)
      refine vl_n ?_
      refine H_of_R (R_mkI Try.underlying3 (by intro k hk; cases hk) ?_)
      refine vl_n ?_
      refine H_of_R (R_ta (t := 3) Try.underlying243 Try.type3 (missing_some rfl) Try.type243 rfl rfl ?_)
      refine vl_n ?_
      refine H_of_R (R_move (v := (.tuple #[.nilIface, .bool false])) rfl ?_)
      refine vl_n ?_
      refine H_of_R (R_ext H fun t47 H => ?_)
      refine vl_n ?_
      refine H_of_R (R_ext H fun t48 H => ?_)
      refine vl_n ?_
      refine H_of_R (R_nil H fun t49 H => ?_)
      refine vl_n ?_
      refine H_of_R (R_fld TF_182_8 H fun t50 H => ?_)
      refine vl_n ?_
      refine H_store1 TS_4 H fun h H => ?_
      refine vl_e ?_
      refine resH_of rfl ?_
      exact H
    · have H := H2 hh; clear H1 H2
      refine WPc_skip ?_
      refine resH_of rfl ?_
      exact H
  refine WPc_seq' ?_
  refine W_region (by kernel_rfl) ?_
  refine vl_n ?_
  refine H_of_R (R_move (v := a0) rfl ?_)
  refine vl_n ?_
  refine H_of_R (R_nil H fun t5 H => ?_)
  refine vl_n ?_
  refine H_of_R (R_fld TF_182_5 H fun t6 H => ?_)
  refine vl_n ?_
  refine H_of_R (R_load1 T1_3 H fun _ t7 _ _ H => ?_)
  refine vl_n ?_
  refine H_of_R (R_neI H fun t8 H => ?_)
  refine vl_e ?_
  obtain ⟨b, hc, H1, H2⟩ := H
  refine WPc_cond hc (fun hh => ?_) (fun hh => ?_)
  · have H := H1 hh; clear H1 H2
    refine WPc_ret ?_
    refine resH_of rfl ?_
    exact H
  · have H := H2 hh; clear H1 H2
    refine WPc_skip ?_
    exact H
/-! ### pub/tidwallbtree.NewMap[int,int] -/
def NewMap_ii.sh (a0 : Value) (h : Heap) (Q : Value → Heap → Prop) : Prop :=
    alloc [(.int .u64 0), (.pointer none), (.pointer none), (.int .i64 0), (.int .i64 0), (.int .i64 0), (.int .i64 0), (.int .i64 0), (.bool false), (.bool false)] 182 h fun t4 h =>
    Map_ii_init.call #[t4, a0] h fun t7 h =>
    Q t4 h
theorem NewMap_ii.body (a0 : Value) (h : Heap) (Q : Value → Heap → Prop) (H : NewMap_ii.sh a0 h Q) : NewMap_ii.call #[a0] h Q := by
  refine callsH_of (args := [a0]) Try.func108 rfl rfl ?_
  unfold NewMap_ii.sh at H
  refine WPc_seq' ?_
  refine W_region (by kernel_rfl) ?_
  refine vl_n ?_
  refine H_of_R (R_assign (v := (.pointer none)) rfl ?_)
  refine vl_e ?_
  refine WPc_seq' ?_
  refine W_region (by kernel_rfl) ?_
  refine vl_n ?_
  refine H_alloc TV_182 H fun t4 h H => ?_
  refine vl_n ?_
  refine H_of_R (R_assign (v := t4) rfl ?_)
  refine vl_e ?_
  refine WPc_seq' ?_
  refine W_region (by kernel_rfl) ?_
  refine vl_n ?_
  refine H_of_R (R_move (v := t4) rfl ?_)
  refine vl_n ?_
  refine H_of_R (R_move (v := a0) rfl ?_)
  refine vl_n ?_
  refine H_call HB_111 H fun t7 h H => ?_
  refine vl_e ?_
  refine WPc_seq' ?_
  refine W_region (by kernel_rfl) ?_
  refine vl_n ?_
  refine H_of_R (R_move (v := t4) rfl ?_)
  refine vl_n ?_
  refine H_of_R (R_assign (v := t4) rfl ?_)
  refine vl_e ?_
  refine WPc_ret ?_
  refine resH_of rfl ?_
  exact H
/-! ### (*pub/tidwallbtree.Map[int, int]).DoorPlant -/
def Map_ii_DoorPlant.sh (a0 : Value) (a1 : Value) (h : Heap) (Q : Value → Heap → Prop) : Prop :=
    box 175 a1 h fun t3 h =>
    fld 0 t3 fun t6 =>
    load1 t6 h fun t7 =>
    fld 0 t3 fun t8 =>
    load1 t8 h fun t9 =>
    nilck t9 fun t10 =>
    fld 1 t10 fun t11 =>
    load1 t11 h fun t12 =>
    nilck a0 fun t13 =>
    fld 2 t13 fun t14 =>
    store1 t14 t7 h fun h =>
    nilck a0 fun t15 =>
    fld 3 t15 fun t16 =>
    store1 t16 t12 h fun h =>
    Q (.tuple #[]) h
theorem Map_ii_DoorPlant.body (a0 : Value) (a1 : Value) (h : Heap) (Q : Value → Heap → Prop) (H : Map_ii_DoorPlant.sh a0 a1 h Q) : Map_ii_DoorPlant.call #[a0, a1] h Q := by
  refine callsH_of (args := [a0, a1]) Try.func109 rfl rfl ?_
  unfold Map_ii_DoorPlant.sh at H
  refine WPc_seq' ?_
  refine W_region (by kernel_rfl) ?_
  refine vl_n ?_
  refine H_box H fun t3 h H => ?_
  refine vl_e ?_
  refine W_drawn [0, 0, 0, 4, 0, 16, 48, 112, 240, 509, 1021, 2045, 4095, 8191, 16383] (.take 0 (.take 1 (.take 2 (.take 3 (.take 4 (.take 5 (.take 6 (.take 7 (.take 8 (.take 9 (.take 10 (.alt 11 (.take 12 (.take 13 (.alt 14 .done .none))) .none)))))))))))) mixed (by kernel_rfl) ?_
  refine tkP rfl ?_
  refine R_move (v := a0) rfl ⟨fun _ => trivial, ?_⟩
  refine tkP rfl ?_
  refine R_move (v := a0) rfl ⟨fun _ => trivial, ?_⟩
  refine tkP rfl ?_
  refine R_fld TF_175_0 H fun t6 H => ⟨fun _ => trivial, ?_⟩
  refine tkL rfl ?_
  refine R_load1 T1_173 H fun at7 t7 hat7 _ H => ?_
  refine tkP rfl ?_
  refine R_fld TF_175_0 H fun t8 H => ⟨fun _ => trivial, ?_⟩
  refine tkL rfl ?_
  refine R_load1 T1_173 H fun at9 t9 hat9 _ H => ?_
  refine tkP rfl ?_
  refine R_nil H fun t10 H => ⟨fun _ => trivial, ?_⟩
  refine tkP rfl ?_
  refine R_fld TF_188_1 H fun t11 H => ⟨fun _ => trivial, ?_⟩
  refine tkL rfl ?_
  refine R_load1 T1_3 H fun at12 t12 hat12 _ H => ?_
  refine tkP rfl ?_
  refine R_nil H fun t13 H => ⟨fun _ => trivial, ?_⟩
  refine tkP rfl ?_
  refine R_fld TF_182_2 H fun t14 H => ⟨fun _ => trivial, ?_⟩
  refine alt_n rfl ?_ vp_none
  refine H_store1 TS_173 H fun h H => ⟨(hskip rfl (hskip rfl (hskip rfl hnil))), ?_⟩
  refine tkP rfl ?_
  refine R_nil H fun t15 H => ⟨fun _ => trivial, ?_⟩
  refine tkP rfl ?_
  refine R_fld TF_182_3 H fun t16 H => ⟨fun _ => trivial, ?_⟩
  refine alt_n rfl ?_ vp_none
  refine H_store1 TS_3 H fun h H => ⟨hnil, ?_⟩
  refine vp_done ?_
  refine resH_of rfl ?_
  exact H
/-! ### (*pub/tidwallbtree.Map[int, int]).newNode -/
def Map_ii_newNode.j1 (s5 : Value) (h : Heap) (Q : Value → Heap → Prop) : Prop :=
    Q s5 h
def Map_ii_newNode.sh (a0 : Value) (a1 : Value) (h : Heap) (Q : Value → Heap → Prop) : Prop :=
    alloc [(.int .u64 0), (.int .i64 0), (.slice none 0 0), (.pointer none)] 188 h fun t6 h =>
    nilck a0 fun t9 =>
    fld 0 t9 fun t10 =>
    load1 t10 h fun t11 =>
    nilck t6 fun t12 =>
    fld 0 t12 fun t13 =>
    store1 t13 t11 h fun h =>
    notV a1 fun t15 =>
    ifV t15
    (alloc [(.slice none 0 0)] 194 h fun t17 h =>
    nilck t6 fun t18 =>
    fld 3 t18 fun t19 =>
    store1 t19 t17 h fun h =>
    Map_ii_newNode.j1 t6 h Q)
    (Map_ii_newNode.j1 t6 h Q)
theorem Map_ii_newNode.body (a0 : Value) (a1 : Value) (h : Heap) (Q : Value → Heap → Prop) (H : Map_ii_newNode.sh a0 a1 h Q) : Map_ii_newNode.call #[a0, a1] h Q := by
  refine callsH_of (args := [a0, a1]) Try.func112 rfl rfl ?_
  unfold Map_ii_newNode.sh at H
  refine WPc_seq' ?_
  refine W_region (by kernel_rfl) ?_
  refine vl_n ?_
  refine H_of_R (R_assign (v := (.pointer none)) rfl ?_)
  refine vl_e ?_
  refine WPc_seq' ?_
  refine W_region (by kernel_rfl) ?_
  refine vl_n ?_
  refine H_alloc TV_188 H fun t6 h H => ?_
  refine vl_n ?_
  refine H_of_R (R_assign (v := t6) rfl ?_)
  refine vl_e ?_
  refine WPc_seq' ?_
  refine W_region (by kernel_rfl) ?_
  refine vl_n ?_
  refine H_of_R (R_move (v := t6) rfl ?_)
  refine vl_n ?_
  refine H_of_R (R_move (v := a0) rfl ?_)
  refine vl_n ?_
  refine H_of_R (R_nil H fun t9 H => ?_)
  refine vl_n ?_
  refine H_of_R (R_fld TF_182_0 H fun t10 H => ?_)
  refine vl_n ?_
  refine H_of_R (R_load1 T1_179 H fun _ t11 _ _ H => ?_)
  refine vl_n ?_
  refine H_of_R (R_nil H fun t12 H => ?_)
  refine vl_n ?_
  refine H_of_R (R_fld TF_188_0 H fun t13 H => ?_)
  refine vl_n ?_
  refine H_store1 TS_179 H fun h H => ?_
  refine vl_e ?_
  refine WPc_seq (fun e h => Map_ii_newNode.j1 (e 5) h Q) ?_ (fun e h H => ?_)
  rotate_left
  · unfold Map_ii_newNode.j1 at H
    refine WPc_seq' ?_
    refine W_region (by kernel_rfl) ?_
    refine vl_n ?_
    refine H_of_R (R_move (v := (e 5)) rfl ?_)
    refine vl_n ?_
    refine H_of_R (R_assign (v := (e 5)) rfl ?_)
    refine vl_e ?_
    refine WPc_ret ?_
    refine resH_of rfl ?_
    exact H
  refine WPc_seq' ?_
  refine W_region (by kernel_rfl) ?_
  refine vl_n ?_
  refine H_of_R (R_move (v := a1) rfl ?_)
  refine vl_n ?_
  refine H_of_R (R_not H fun t15 H => ?_)
  refine vl_e ?_
  obtain ⟨b, hc, H1, H2⟩ := H
  refine WPc_cond hc (fun hh => ?_) (fun hh => ?_)
  · have H := H1 hh; clear H1 H2
    refine W_region (by kernel_rfl) ?_
    refine vl_n ?_
    refine H_of_R (R_move (v := t6) rfl ?_)
    refine vl_n ?_
    refine H_alloc TV_194 H fun t17 h H => ?_
    refine vl_n ?_
    refine H_of_R (R_nil H fun t18 H => ?_)
    refine vl_n ?_
    refine H_of_R (R_fld TF_188_3 H fun t19 H => ?_)
    refine vl_n ?_
    refine H_store1 TS_186 H fun h H => ?_
    refine vl_e ?_
    exact H
  · have H := H2 hh; clear H1 H2
    refine WPc_skip ?_
    exact H
/-! ### (*pub/tidwallbtree.Map[int, int]).DoorLeaf -/
def Map_ii_DoorLeaf.sh (a0 : Value) (h : Heap) (Q : Value → Heap → Prop) : Prop :=
    alloc [(.pointer none)] 175 h fun t2 h =>
    Map_ii_newNode.call #[a0, (.bool true)] h fun t4 h =>
    buildV [(.pointer none)] [(0, 1, t4)] fun t5 =>
    storeN 1 t2 t5 h fun h =>
    loadN 1 t2 h fun r2 =>
    Q r2 h
theorem Map_ii_DoorLeaf.body (a0 : Value) (h : Heap) (Q : Value → Heap → Prop) (H : Map_ii_DoorLeaf.sh a0 h Q) : Map_ii_DoorLeaf.call #[a0] h Q := by
  refine callsH_of (args := [a0]) Try.func150 rfl rfl ?_
  unfold Map_ii_DoorLeaf.sh at H
  refine WPc_seq' ?_
  refine W_region (by kernel_rfl) ?_
  refine vl_n ?_
  refine H_alloc TV_175 H fun t2 h H => ?_
  refine vl_e ?_
  refine WPc_seq' ?_
  refine W_region (by kernel_rfl) ?_
  refine vl_n ?_
  refine H_of_R (R_move (v := a0) rfl ?_)
  refine vl_n ?_
  refine H_call HB_112 H fun t4 h H => ?_
  refine vl_n ?_
  refine H_of_R (R_build TB_175 rfl (by decide) H fun t5 H => ?_)
  refine vl_n ?_
  refine H_storeN TS_175 H fun h H => ?_
  refine vl_e ?_
  refine WPc_ret ?_
  refine resH_of rfl ?_
  refine resL_N TN_175 ?_
  refine loadN_imp H fun r2 H => ?_
  exact H
/-! ### (*pub/tidwallbtree.Map[int, int]).DoorInner -/
def Map_ii_DoorInner.sh (a0 : Value) (h : Heap) (Q : Value → Heap → Prop) : Prop :=
    alloc [(.pointer none)] 175 h fun t2 h =>
    Map_ii_newNode.call #[a0, (.bool false)] h fun t4 h =>
    buildV [(.pointer none)] [(0, 1, t4)] fun t5 =>
    storeN 1 t2 t5 h fun h =>
    loadN 1 t2 h fun r2 =>
    Q r2 h
theorem Map_ii_DoorInner.body (a0 : Value) (h : Heap) (Q : Value → Heap → Prop) (H : Map_ii_DoorInner.sh a0 h Q) : Map_ii_DoorInner.call #[a0] h Q := by
  refine callsH_of (args := [a0]) Try.func151 rfl rfl ?_
  unfold Map_ii_DoorInner.sh at H
  refine WPc_seq' ?_
  refine W_region (by kernel_rfl) ?_
  refine vl_n ?_
  refine H_alloc TV_175 H fun t2 h H => ?_
  refine vl_e ?_
  refine WPc_seq' ?_
  refine W_region (by kernel_rfl) ?_
  refine vl_n ?_
  refine H_of_R (R_move (v := a0) rfl ?_)
  refine vl_n ?_
  refine H_call HB_112 H fun t4 h H => ?_
  refine vl_n ?_
  refine H_of_R (R_build TB_175 rfl (by decide) H fun t5 H => ?_)
  refine vl_n ?_
  refine H_storeN TS_175 H fun h H => ?_
  refine vl_e ?_
  refine WPc_ret ?_
  refine resH_of rfl ?_
  refine resL_N TN_175 ?_
  refine loadN_imp H fun r2 H => ?_
  exact H

end Go.Proofs.Ytlihjljdndbpdaa
end
section
namespace Go.Proofs.Ytlihjljdndbpdaa
open Go.Hp
set_option linter.unusedVariables false
set_option linter.unusedSimpArgs false
variable {h0 h : Heap} {Z E : List Rg} {Q : Value → Heap → Prop}

abbrev enc (p : Int × Int) : List Value := [.int .i64 p.2, .int .i64 p.1]
/-- The cells of a map's head. -/
abbrev hdr (iso : Int) (ctr root : Option Addr) (cnt mn mx : Int) : List Value := [.int .u64 iso, .pointer ctr, .pointer root, .int .i64 cnt, .int .i64 0, .int .i64 0, .int .i64 mn, .int .i64 mx, .bool false, .bool false]

theorem degreeToMinMax_ok {d : Int} (h1 : 2 ≤ d) (h2 : d ≤ 1073741824) (H : Q (.tuple #[.int .i64 (d - 1), .int .i64 (2 * d - 1)]) h) : degreeToMinMax.call #[.int .i64 d] h Q := by
  refine degreeToMinMax.body _ _ _ ?_
  unfold degreeToMinMax.sh
  simp only [w_load1, w_loadN, w_nil, w_fld, w_idx, w_len, w_lenStr, w_cap, w_arith, w_divi, w_remi, w_cmpI, w_cmpS, w_not, w_ext, w_eqNilP, w_neNilP, w_eqB, w_pick, w_max, w_ifV, w_br, w_store1, w_storeN, w_alloc, w_box, add_mk, Nat.zero_add, Nat.add_zero, Option.some.injEq, exists_eq_left', List.getElem?_cons_zero, List.getElem?_cons_succ, List.getD_cons_zero, List.getD_cons_succ]
  refine ⟨fun e => absurd e (by simp; omega), fun _ => ⟨fun e => absurd e (by simp; omega), fun _ => ?_⟩⟩
  unfold degreeToMinMax.j1
  simp only [w_load1, w_loadN, w_nil, w_fld, w_idx, w_len, w_lenStr, w_cap, w_arith, w_divi, w_remi, w_cmpI, w_cmpS, w_not, w_ext, w_eqNilP, w_neNilP, w_eqB, w_pick, w_max, w_ifV, w_br, w_store1, w_storeN, w_alloc, w_box, add_mk, Nat.zero_add, Nat.add_zero, Option.some.injEq, exists_eq_left', List.getElem?_cons_zero, List.getElem?_cons_succ, List.getD_cons_zero, List.getD_cons_succ]
  rw [i64w (n := d * 2) (by omega) (by omega), i64w (n := d * 2 - 1) (by omega) (by omega)]
  have hd : (d * 2 - 1).tdiv 2 = d - 1 := by rw [Int.tdiv_eq_ediv_of_nonneg (by omega)]; omega
  rw [hd, i64w (n := d - 1) (by omega) (by omega), show d * 2 - 1 = 2 * d - 1 by omega]
  exact ⟨by decide, H⟩

theorem Map_ii_init_ok (s : St h0 Z E h) {b : Nat} {d : Int} {E' : List Rg} (hE : E = (b, 0, hdr 0 none none 0 0 0) :: E') (h1 : 2 ≤ d) (h2 : d ≤ 1073741824)
    (H : ∀ h', St h0 Z ((b, 0, hdr 0 none none 0 (d - 1) (2 * d - 1)) :: E') h' → Q (.tuple #[]) h') : Map_ii_init.call #[ptr b 0, .int .i64 d] h Q := by
  subst hE
  refine Map_ii_init.body _ _ _ _ ?_
  unfold Map_ii_init.sh
  refine r_nil ?_
  refine r_fld ?_
  refine St.r_load0 s 0 rfl rfl ?_
  refine r_cmpI ?_
  refine r_if (fun e => absurd e (by decide)) (fun _ => ?_)
  unfold Map_ii_init.j1
  refine degreeToMinMax_ok h1 h2 ?_
  refine r_ext rfl ?_
  refine r_ext rfl ?_
  refine r_nil ?_
  refine r_fld ?_
  refine St.r_store0 s 0 rfl (by simp) rfl ?_
  intro h s
  try simp only [List.set_cons_zero, List.set_cons_succ] at s
  refine r_nil ?_
  refine r_fld ?_
  refine St.r_store0 s 0 rfl (by simp) rfl ?_
  intro h s
  try simp only [List.set_cons_zero, List.set_cons_succ] at s
  refine r_nil ?_
  refine r_fld ?_
  refine r_fld ?_
  refine St.r_load0 s 0 rfl rfl ?_
  refine r_ext rfl ?_
  refine r_ext rfl ?_
  refine r_nil ?_
  refine r_fld ?_
  refine St.r_store0 s 0 rfl (by simp) rfl ?_
  intro h s
  try simp only [List.set_cons_zero, List.set_cons_succ] at s
  refine r_nil ?_
  refine r_fld ?_
  refine St.r_load0 s 0 rfl rfl ?_
  refine r_not ?_
  refine r_if (fun _ => ?_) (fun e => absurd e (by decide))
  refine r_nil ?_
  refine r_fld ?_
  refine r_fld ?_
  refine St.r_load0 s 0 rfl rfl ?_
  refine r_ext rfl ?_
  refine r_ext rfl ?_
  refine r_nil ?_
  refine r_fld ?_
  refine St.r_store0 s 0 rfl (by simp) rfl ?_
  intro h s
  try simp only [List.set_cons_zero, List.set_cons_succ] at s
  exact H _ s

theorem NewMap_ii_ok (s : St h0 Z E h) {d : Int} (h1 : 2 ≤ d) (h2 : d ≤ 1073741824) (H : ∀ b h', St h0 Z ((b, 0, hdr 0 none none 0 (d - 1) (2 * d - 1)) :: E) h' → Q (ptr b 0) h') : NewMap_ii.call #[.int .i64 d] h Q := by
  refine NewMap_ii.body _ _ _ ?_
  unfold NewMap_ii.sh
  refine s.r_alloc fun b h s => ?_
  exact Map_ii_init_ok s rfl h1 h2 fun h' s => H b h' s
end Go.Proofs.Ytlihjljdndbpdaa
end
section
namespace Go.Proofs.Ytlihjljdndbpdaa
open Go.Hp
set_option maxRecDepth 100000
set_option maxHeartbeats 8000000
set_option linter.unusedVariables false
set_option linter.unusedSimpArgs false

/-! ### (pub/tidwallbtree.DoorMapNode[int, int]).DoorItem -/
def DoorMapNode_ii_DoorItem.sh (a0 : Value) (a1 : Value) (a2 : Value) (h : Heap) (Q : Value → Heap → Prop) : Prop :=
    box 175 a0 h fun t3 h =>
    fld 0 t3 fun t6 =>
    load1 t6 h fun t7 =>
    fld 0 t3 fun t8 =>
    load1 t8 h fun t9 =>
    nilck t9 fun t10 =>
    fld 2 t10 fun t11 =>
    load1 t11 h fun t12 =>
    buildV [(.int .i64 0), (.int .i64 0)] [(1, 1, a1), (0, 1, a2)] fun t15 =>
    mkSl (if 1 * 2 = 0 then [] else zeros [(.int .i64 0), (.int .i64 0)] 1) 1 [(0 * 2, 2, t15)] 178 h fun t16 h =>
    still1 t6 t7 h ∧ still1 t8 t9 h ∧ still1 t11 t12 h ∧ app 178 2 16 [(.int .i64 0), (.int .i64 0)] t12 t16 h fun t17 h =>
    still1 t6 t7 h ∧ nilck t7 fun t18 =>
    fld 2 t18 fun t19 =>
    store1 t19 t17 h fun h =>
    Q (.tuple #[]) h
theorem DoorMapNode_ii_DoorItem.body (a0 : Value) (a1 : Value) (a2 : Value) (h : Heap) (Q : Value → Heap → Prop) (H : DoorMapNode_ii_DoorItem.sh a0 a1 a2 h Q) : DoorMapNode_ii_DoorItem.call #[a0, a1, a2] h Q := by
  refine callsH_of (args := [a0, a1, a2]) Try.func152 rfl rfl ?_
  unfold DoorMapNode_ii_DoorItem.sh at H
  refine WPc_seq' ?_
  refine W_region (by kernel_rfl) ?_
  refine vl_n ?_
  refine H_box H fun t3 h H => ?_
  refine vl_e ?_
  refine W_drawn [0, 1, 0, 4, 12, 28, 60, 0, 0, 384, 896, 2044, 4095, 8191, 16383] (.take 0 (.take 1 (.take 2 (.take 3 (.take 4 (.take 5 (.take 6 (.take 7 (.take 8 (.take 9 (.alt 10 (.alt 11 (.take 12 (.take 13 (.alt 14 .done .none))) .none) .none))))))))))) mixed (by kernel_rfl) ?_
  refine tkP rfl ?_
  refine R_fld TF_175_0 H fun t6 H => ⟨fun _ => trivial, ?_⟩
  refine tkL rfl ?_
  refine R_load1 T1_173 H fun at7 t7 hat7 _ H => ?_
  refine tkP rfl ?_
  refine R_fld TF_175_0 H fun t8 H => ⟨fun _ => trivial, ?_⟩
  refine tkL rfl ?_
  refine R_load1 T1_173 H fun at9 t9 hat9 _ H => ?_
  refine tkP rfl ?_
  refine R_nil H fun t10 H => ⟨fun _ => trivial, ?_⟩
  refine tkP rfl ?_
  refine R_fld TF_188_2 H fun t11 H => ⟨fun _ => trivial, ?_⟩
  refine tkL rfl ?_
  refine R_load1 T1_185 H fun at12 t12 hat12 _ H => ?_
  refine tkP rfl ?_
  refine R_move (v := a1) rfl ⟨fun _ => trivial, ?_⟩
  refine tkP rfl ?_
  refine R_move (v := a2) rfl ⟨fun _ => trivial, ?_⟩
  refine tkP rfl ?_
  refine R_build TB_178 rfl (by decide) H fun t15 H => ⟨fun _ => trivial, ?_⟩
  refine alt_n rfl ?_ vp_none
  refine H_mkSl TZ_185 (by decide) rfl H rfl fun t16 h ⟨S, S_2, S_3, H⟩ => ⟨(hcons rfl (still_1 S_3 hat12) (hcons rfl (still_1 S_2 hat9) (hcons rfl (still_1 S hat7) hnil))), ?_⟩
  refine alt_n rfl ?_ vp_none
  refine H_app TZ_185 TU_185 H fun t17 h ⟨S_4, H⟩ => ⟨(hskip rfl (hskip rfl (hcons rfl (still_1 S_4 hat7) hnil))), ?_⟩
  refine tkP rfl ?_
  refine R_nil H fun t18 H => ⟨fun _ => trivial, ?_⟩
  refine tkP rfl ?_
  refine R_fld TF_188_2 H fun t19 H => ⟨fun _ => trivial, ?_⟩
  refine alt_n rfl ?_ vp_none
  refine H_store1 TS_185 H fun h H => ⟨(hskip rfl hnil), ?_⟩
  refine vp_done ?_
  refine resH_of rfl ?_
  exact H
/-! ### (pub/tidwallbtree.DoorMapNode[int, int]).DoorAppend -/
def DoorMapNode_ii_DoorAppend.sh (a0 : Value) (a1 : Value) (h : Heap) (Q : Value → Heap → Prop) : Prop :=
    box 175 a0 h fun t2 h =>
    box 175 a1 h fun t3 h =>
    fld 0 t2 fun t4 =>
    load1 t4 h fun t5 =>
    nilck t5 fun t6 =>
    fld 3 t6 fun t7 =>
    load1 t7 h fun t8 =>
    fld 0 t2 fun t9 =>
    load1 t9 h fun t10 =>
    nilck t10 fun t11 =>
    fld 3 t11 fun t12 =>
    load1 t12 h fun t13 =>
    nilck t13 fun t14 =>
    load1 t14 h fun t15 =>
    fld 0 t3 fun t16 =>
    load1 t16 h fun t17 =>
    mkSl (if 1 * 1 = 0 then [] else zeros [(.pointer none)] 1) 1 [(0 * 1, 1, t17)] 173 h fun t18 h =>
    still1 t4 t5 h ∧ still1 t7 t8 h ∧ still1 t9 t10 h ∧ still1 t12 t13 h ∧ still1 t14 t15 h ∧ app 173 1 8 [(.pointer none)] t15 t18 h fun t19 h =>
    still1 t4 t5 h ∧ still1 t7 t8 h ∧ nilck t8 fun t20 =>
    store1 t20 t19 h fun h =>
    Q (.tuple #[]) h
theorem DoorMapNode_ii_DoorAppend.body (a0 : Value) (a1 : Value) (h : Heap) (Q : Value → Heap → Prop) (H : DoorMapNode_ii_DoorAppend.sh a0 a1 h Q) : DoorMapNode_ii_DoorAppend.call #[a0, a1] h Q := by
  refine callsH_of (args := [a0, a1]) Try.func153 rfl rfl ?_
  unfold DoorMapNode_ii_DoorAppend.sh at H
  refine WPc_seq' ?_
  refine W_region (by kernel_rfl) ?_
  refine vl_n ?_
  refine H_box H fun t2 h H => ?_
  refine vl_n ?_
  refine H_box H fun t3 h H => ?_
  refine vl_e ?_
  refine W_drawn [0, 1, 3, 7, 15, 0, 32, 96, 224, 480, 992, 2016, 0, 4096, 12288, 32736, 65535, 131071] (.take 0 (.take 1 (.take 2 (.take 3 (.take 4 (.take 5 (.take 6 (.take 7 (.take 8 (.take 9 (.take 10 (.take 11 (.take 12 (.take 13 (.alt 14 (.alt 15 (.take 16 (.alt 17 .done .none)) .none) .none))))))))))))))) mixed (by kernel_rfl) ?_
  refine tkP rfl ?_
  refine R_fld TF_175_0 H fun t4 H => ⟨fun _ => trivial, ?_⟩
  refine tkL rfl ?_
  refine R_load1 T1_173 H fun at5 t5 hat5 _ H => ?_
  refine tkP rfl ?_
  refine R_nil H fun t6 H => ⟨fun _ => trivial, ?_⟩
  refine tkP rfl ?_
  refine R_fld TF_188_3 H fun t7 H => ⟨fun _ => trivial, ?_⟩
  refine tkL rfl ?_
  refine R_load1 T1_186 H fun at8 t8 hat8 _ H => ?_
  refine tkP rfl ?_
  refine R_fld TF_175_0 H fun t9 H => ⟨fun _ => trivial, ?_⟩
  refine tkL rfl ?_
  refine R_load1 T1_173 H fun at10 t10 hat10 _ H => ?_
  refine tkP rfl ?_
  refine R_nil H fun t11 H => ⟨fun _ => trivial, ?_⟩
  refine tkP rfl ?_
  refine R_fld TF_188_3 H fun t12 H => ⟨fun _ => trivial, ?_⟩
  refine tkL rfl ?_
  refine R_load1 T1_186 H fun at13 t13 hat13 _ H => ?_
  refine tkP rfl ?_
  refine R_nil H fun t14 H => ⟨fun _ => trivial, ?_⟩
  refine tkL rfl ?_
  refine R_load1 T1_194 H fun at15 t15 hat15 _ H => ?_
  refine tkP rfl ?_
  refine R_fld TF_175_0 H fun t16 H => ⟨fun _ => trivial, ?_⟩
  refine tkL rfl ?_
  refine R_load1 T1_173 H fun at17 t17 hat17 _ H => ?_
  refine alt_n rfl ?_ vp_none
  refine H_mkSl TZ_194 (by decide) rfl H rfl fun t18 h ⟨S, S_2, S_3, S_4, S_5, H⟩ => ⟨(hskip rfl (hcons rfl (still_1 S_5 hat15) (hcons rfl (still_1 S_4 hat13) (hcons rfl (still_1 S_3 hat10) (hcons rfl (still_1 S_2 hat8) (hcons rfl (still_1 S hat5) hnil)))))), ?_⟩
  refine alt_n rfl ?_ vp_none
  refine H_app TZ_194 TU_194 H fun t19 h ⟨S_6, S_7, H⟩ => ⟨(hskip rfl (hskip rfl (hskip rfl (hcons rfl (still_1 S_7 hat8) (hcons rfl (still_1 S_6 hat5) hnil))))), ?_⟩
  refine tkP rfl ?_
  refine R_nil H fun t20 H => ⟨fun _ => trivial, ?_⟩
  refine alt_n rfl ?_ vp_none
  refine H_store1 TS_194 H fun h H => ⟨(hskip rfl (hskip rfl hnil)), ?_⟩
  refine vp_done ?_
  refine resH_of rfl ?_
  exact H
/-! ### (*pub/tidwallbtree.mapNode[int, int]).leaf -/
def mapNode_ii_leaf.sh (a0 : Value) (h : Heap) (Q : Value → Heap → Prop) : Prop :=
    nilck a0 fun t4 =>
    fld 3 t4 fun t5 =>
    load1 t5 h fun t6 =>
    eqNilP t6 fun t7 =>
    Q t7 h
theorem mapNode_ii_leaf.body (a0 : Value) (h : Heap) (Q : Value → Heap → Prop) (H : mapNode_ii_leaf.sh a0 h Q) : mapNode_ii_leaf.call #[a0] h Q := by
  refine callsH_of (args := [a0]) Try.func126 rfl rfl ?_
  unfold mapNode_ii_leaf.sh at H
  refine WPc_seq' ?_
  refine W_region (by kernel_rfl) ?_
  refine vl_n ?_
  refine H_of_R (R_assign (v := (.bool false)) rfl ?_)
  refine vl_e ?_
  refine WPc_seq' ?_
  refine W_region (by kernel_rfl) ?_
  refine vl_n ?_
  refine H_of_R (R_move (v := a0) rfl ?_)
  refine vl_n ?_
  refine H_of_R (R_nil H fun t4 H => ?_)
  refine vl_n ?_
  refine H_of_R (R_fld TF_188_3 H fun t5 H => ?_)
  refine vl_n ?_
  refine H_of_R (R_load1 T1_186 H fun _ t6 _ _ H => ?_)
  refine vl_n ?_
  refine H_of_R (R_eqNilP Try.underlying186 rfl H fun t7 H => ?_)
  refine vl_n ?_
  refine H_of_R (R_assign (v := t7) rfl ?_)
  refine vl_e ?_
  refine WPc_ret ?_
  refine resH_of rfl ?_
  exact H
/-! ### (*pub/tidwallbtree.mapNode[int, int]).updateCount -/
def mapNode_ii_updateCount.j3 (s0 : Value) (s2 : Value) (h : Heap) (K1 : List Value → Heap → Prop) (Q : Value → Heap → Prop) : Prop :=
    arith (· + ·) s2 (.int .i64 1) fun t24 =>
    K1 [t24] h
def mapNode_ii_updateCount.j2 (s0 : Value) (s2 : Value) (h : Heap) (K1 : List Value → Heap → Prop) (Q : Value → Heap → Prop) : Prop :=
    nilck s0 fun t26 =>
    fld 1 t26 fun t27 =>
    load1 t27 h fun t28 =>
    nilck s0 fun t30 =>
    fld 3 t30 fun t31 =>
    load1 t31 h fun t32 =>
    nilck t32 fun t33 =>
    load1 t33 h fun t34 =>
    idx 1 t34 s2 fun t36 =>
    load1 t36 h fun t37 =>
    nilck t37 fun t38 =>
    fld 1 t38 fun t39 =>
    load1 t39 h fun t40 =>
    arith (· + ·) t28 t40 fun t41 =>
    nilck s0 fun t42 =>
    fld 1 t42 fun t43 =>
    store1 t43 t41 h fun h =>
    mapNode_ii_updateCount.j3 s0 s2 h K1 Q
def mapNode_ii_updateCount.l1.b (c0 : Value) (s2 : Value) (h : Heap) (K1 : List Value → Heap → Prop) (Q : Value → Heap → Prop) : Prop :=
    nilck c0 fun t16 =>
    fld 3 t16 fun t17 =>
    load1 t17 h fun t18 =>
    nilck t18 fun t19 =>
    load1 t19 h fun t20 =>
    lenV t20 fun t21 =>
    cmpI (fun a b => decide (a < b)) s2 t21 fun t22 =>
    ifV t22
    (mapNode_ii_updateCount.j2 c0 s2 h K1 Q)
    (Q (.tuple #[]) h)
def mapNode_ii_updateCount.sh (a0 : Value) (h : Heap) (Q : Value → Heap → Prop) : Prop :=
    nilck a0 fun t5 =>
    fld 2 t5 fun t6 =>
    load1 t6 h fun t7 =>
    lenV t7 fun t8 =>
    nilck a0 fun t9 =>
    fld 1 t9 fun t10 =>
    store1 t10 t8 h fun h =>
    mapNode_ii_leaf.call #[a0] h fun t12 h =>
    notV t12 fun t13 =>
    ifV t13
    (loopC (fun c s h K1 => mapNode_ii_updateCount.l1.b (c.getD 0 undef) (s.getD 0 undef) h K1 Q) [a0] [(.int .i64 0)] h)
    (Q (.tuple #[]) h)
theorem mapNode_ii_updateCount.body (a0 : Value) (h : Heap) (Q : Value → Heap → Prop) (H : mapNode_ii_updateCount.sh a0 h Q) : mapNode_ii_updateCount.call #[a0] h Q := by
  refine callsH_of (args := [a0]) Try.func115 rfl rfl ?_
  unfold mapNode_ii_updateCount.sh at H
  refine WPc_seq' ?_
  refine W_region (by kernel_rfl) ?_
  refine vl_n ?_
  refine H_of_R (R_move (v := a0) rfl ?_)
  refine vl_n ?_
  refine H_of_R (R_move (v := a0) rfl ?_)
  refine vl_n ?_
  refine H_of_R (R_nil H fun t5 H => ?_)
  refine vl_n ?_
  refine H_of_R (R_fld TF_188_2 H fun t6 H => ?_)
  refine vl_n ?_
  refine H_of_R (R_load1 T1_185 H fun _ t7 _ _ H => ?_)
  refine vl_n ?_
  refine H_of_R (R_len Try.underlying185 H fun t8 H => ?_)
  refine vl_n ?_
  refine H_of_R (R_nil H fun t9 H => ?_)
  refine vl_n ?_
  refine H_of_R (R_fld TF_188_1 H fun t10 H => ?_)
  refine vl_n ?_
  refine H_store1 TS_3 H fun h H => ?_
  refine vl_e ?_
  refine WPc_seq' ?_
  refine W_region (by kernel_rfl) ?_
  refine vl_n ?_
  refine H_of_R (R_move (v := a0) rfl ?_)
  refine vl_n ?_
  refine H_call HB_126 H fun t12 h H => ?_
  refine vl_n ?_
  refine H_of_R (R_not H fun t13 H => ?_)
  refine vl_e ?_
  obtain ⟨b, hc, H1, H2⟩ := H
  refine WPc_cond hc (fun hh => ?_) (fun hh => ?_)
  · have H := H1 hh; clear H1 H2
    refine WPc_seq' ?_
    refine W_region (by kernel_rfl) ?_
    refine vl_n ?_
    refine H_of_R (R_assign (v := (.int .i64 0)) rfl ?_)
    refine vl_e ?_
    refine WPc_block ?_
    refine loop_at (fun e => [e 2]) (fun e => [e 0]) H rfl rfl ?_
    intro K1 e1 h H hin1
    replace H : mapNode_ii_updateCount.l1.b (e1 0) (e1 2) h K1 Q := H
    unfold mapNode_ii_updateCount.l1.b at H
    clear hin1
    refine WPc_seq (fun e h => mapNode_ii_updateCount.j2 (e 0) (e 2) h K1 Q ∧ [e1 0] = [e 0]) ?_ (fun e h ⟨H, hq1⟩ => ?_)
    rotate_left
    · unfold mapNode_ii_updateCount.j2 at H
      refine WPc_seq (fun e h => mapNode_ii_updateCount.j3 (e 0) (e 2) h K1 Q ∧ [e1 0] = [e 0]) ?_ (fun e h ⟨H, hq1⟩ => ?_)
      rotate_left
      · unfold mapNode_ii_updateCount.j3 at H
        refine W_region (by kernel_rfl) ?_
        refine vl_n ?_
        refine H_of_R (R_move (v := (e 2)) rfl ?_)
        refine vl_n ?_
        refine H_of_R (R_add H fun t24 H => ?_)
        refine vl_n ?_
        refine H_of_R (R_assign (v := t24) rfl ?_)
        refine vl_e ?_
        exact ⟨H, hq1⟩
      refine WPc_block ?_
      refine W_drawn [0, 1, 3, 7, 0, 16, 48, 112, 240, 496, 0, 2032, 4080, 8176, 16368, 32752, 65535, 131071, 262143, 524287] (.take 0 (.take 1 (.take 2 (.take 3 (.take 4 (.take 5 (.take 6 (.take 7 (.take 8 (.take 9 (.take 10 (.take 11 (.take 12 (.take 13 (.take 14 (.take 15 (.take 16 (.take 17 (.take 18 (.alt 19 .done .none)))))))))))))))))))) mixed (by kernel_rfl) ?_
      refine tkP rfl ?_
      refine R_move (v := (e 0)) rfl ⟨fun _ => trivial, ?_⟩
      refine tkP rfl ?_
      refine R_nil H fun t26 H => ⟨fun _ => trivial, ?_⟩
      refine tkP rfl ?_
      refine R_fld TF_188_1 H fun t27 H => ⟨fun _ => trivial, ?_⟩
      refine tkL rfl ?_
      refine R_load1 T1_3 H fun at28 t28 hat28 _ H => ?_
      refine tkP rfl ?_
      refine R_move (v := (e 0)) rfl ⟨fun _ => trivial, ?_⟩
      refine tkP rfl ?_
      refine R_nil H fun t30 H => ⟨fun _ => trivial, ?_⟩
      refine tkP rfl ?_
      refine R_fld TF_188_3 H fun t31 H => ⟨fun _ => trivial, ?_⟩
      refine tkL rfl ?_
      refine R_load1 T1_186 H fun at32 t32 hat32 _ H => ?_
      refine tkP rfl ?_
      refine R_nil H fun t33 H => ⟨fun _ => trivial, ?_⟩
      refine tkL rfl ?_
      refine R_load1 T1_194 H fun at34 t34 hat34 _ H => ?_
      refine tkP rfl ?_
      refine R_move (v := (e 2)) rfl ⟨fun _ => trivial, ?_⟩
      refine tkP rfl ?_
      refine R_idx TE_194 H fun t36 H => ⟨fun _ => trivial, ?_⟩
      refine tkL rfl ?_
      refine R_load1 T1_173 H fun at37 t37 hat37 _ H => ?_
      refine tkP rfl ?_
      refine R_nil H fun t38 H => ⟨fun _ => trivial, ?_⟩
      refine tkP rfl ?_
      refine R_fld TF_188_1 H fun t39 H => ⟨fun _ => trivial, ?_⟩
      refine tkL rfl ?_
      refine R_load1 T1_3 H fun at40 t40 hat40 _ H => ?_
      refine tkP rfl ?_
      refine R_add H fun t41 H => ⟨fun _ => trivial, ?_⟩
      refine tkP rfl ?_
      refine R_nil H fun t42 H => ⟨fun _ => trivial, ?_⟩
      refine tkP rfl ?_
      refine R_fld TF_188_1 H fun t43 H => ⟨fun _ => trivial, ?_⟩
      refine alt_n rfl ?_ vp_none
      refine H_store1 TS_3 H fun h H => ⟨(hskip rfl (hskip rfl (hskip rfl (hskip rfl (hskip rfl hnil))))), ?_⟩
      refine vp_done ?_
      exact ⟨H, hq1⟩
    refine WPc_seq' ?_
    refine W_region (by kernel_rfl) ?_
    refine vl_n ?_
    refine H_of_R (R_move (v := (e1 2)) rfl ?_)
    refine vl_n ?_
    refine H_of_R (R_move (v := (e1 0)) rfl ?_)
    refine vl_n ?_
    refine H_of_R (R_nil H fun t16 H => ?_)
    refine vl_n ?_
    refine H_of_R (R_fld TF_188_3 H fun t17 H => ?_)
    refine vl_n ?_
    refine H_of_R (R_load1 T1_186 H fun _ t18 _ _ H => ?_)
    refine vl_n ?_
    refine H_of_R (R_nil H fun t19 H => ?_)
    refine vl_n ?_
    refine H_of_R (R_load1 T1_194 H fun _ t20 _ _ H => ?_)
    refine vl_n ?_
    refine H_of_R (R_len Try.underlying194 H fun t21 H => ?_)
    refine vl_n ?_
    refine H_of_R (R_lss H fun t22 H => ?_)
    refine vl_e ?_
    obtain ⟨b, hc, H1, H2⟩ := H
    refine WPc_cond hc (fun hh => ?_) (fun hh => ?_)
    · have H := H1 hh; clear H1 H2
      refine WPc_skip ?_
      exact ⟨H, rfl⟩
    · have H := H2 hh; clear H1 H2
      refine WPc_exit ?_
      refine resH_of rfl ?_
      exact H
  · have H := H2 hh; clear H1 H2
    refine WPc_skip ?_
    refine resH_of rfl ?_
    exact H
/-! ### (pub/tidwallbtree.DoorMapNode[int, int]).DoorUpdateCount -/
def DoorMapNode_ii_DoorUpdateCount.sh (a0 : Value) (h : Heap) (Q : Value → Heap → Prop) : Prop :=
    box 175 a0 h fun t1 h =>
    fld 0 t1 fun t2 =>
    load1 t2 h fun t3 =>
    mapNode_ii_updateCount.call #[t3] h fun t4 h =>
    Q (.tuple #[]) h
theorem DoorMapNode_ii_DoorUpdateCount.body (a0 : Value) (h : Heap) (Q : Value → Heap → Prop) (H : DoorMapNode_ii_DoorUpdateCount.sh a0 h Q) : DoorMapNode_ii_DoorUpdateCount.call #[a0] h Q := by
  refine callsH_of (args := [a0]) Try.func154 rfl rfl ?_
  unfold DoorMapNode_ii_DoorUpdateCount.sh at H
  refine WPc_seq' ?_
  refine W_region (by kernel_rfl) ?_
  refine vl_n ?_
  refine H_box H fun t1 h H => ?_
  refine vl_e ?_
  refine W_region (by kernel_rfl) ?_
  refine vl_n ?_
  refine H_of_R (R_fld TF_175_0 H fun t2 H => ?_)
  refine vl_n ?_
  refine H_of_R (R_load1 T1_173 H fun _ t3 _ _ H => ?_)
  refine vl_n ?_
  refine H_call HB_115 H fun t4 h H => ?_
  refine vl_e ?_
  refine resH_of rfl ?_
  exact H
/-! ### impl.plantedMap -/
def i_plantedMap.j3 (s4 : Value) (s5 : Value) (h : Heap) (Q : Value → Heap → Prop) : Prop :=
    loadN 1 s5 h fun t45 =>
    DoorMapNode_ii_DoorUpdateCount.call #[t45] h fun t46 h =>
    loadN 1 s5 h fun t47 =>
    storeN 1 s4 t47 h fun h =>
    loadN 1 s4 h fun r4 =>
    Q r4 h
def i_plantedMap.j6 (s0 : Value) (s4 : Value) (s5 : Value) (s33 : Value) (s34 : Value) (s35 : Value) (h : Heap) (K1 : List Value → Heap → Prop) (Q : Value → Heap → Prop) : Prop :=
    arith (· + ·) s35 (.int .i64 1) fun t44 =>
    K1 [t44] h
def i_plantedMap.j5 (s0 : Value) (s4 : Value) (s5 : Value) (s33 : Value) (s34 : Value) (s35 : Value) (h : Heap) (K1 : List Value → Heap → Prop) (Q : Value → Heap → Prop) : Prop :=
    idx 3 s33 s35 fun t37 =>
    loadN 3 t37 h fun t38 =>
    alloc [(.slice none 0 0), (.slice none 0 0), (.int .i64 0)] 25 h fun t9 h =>
    storeN 3 t9 t38 h fun h =>
    loadN 1 s5 h fun t39 =>
    loadN 3 t9 h fun t41 =>
    i_plantedMap.call #[s0, t41] h fun t42 h =>
    stillN 1 s5 t39 h ∧ DoorMapNode_ii_DoorAppend.call #[t39, t42] h fun t43 h =>
    i_plantedMap.j6 s0 s4 s5 s33 s34 s35 h K1 Q
def i_plantedMap.l4.b (c0 : Value) (c4 : Value) (c5 : Value) (c33 : Value) (c34 : Value) (s35 : Value) (h : Heap) (K1 : List Value → Heap → Prop) (Q : Value → Heap → Prop) : Prop :=
    cmpI (fun a b => decide (a < b)) s35 c34 fun t36 =>
    ifV t36
    (i_plantedMap.j5 c0 c4 c5 c33 c34 s35 h K1 Q)
    (i_plantedMap.j3 c4 c5 h Q)
def i_plantedMap.j2 (s0 : Value) (s3 : Value) (s4 : Value) (s5 : Value) (h : Heap) (Q : Value → Heap → Prop) : Prop :=
    fld 1 s3 fun t32 =>
    load1 t32 h fun t33 =>
    lenV t33 fun t34 =>
    loopC (fun c s h K1 => i_plantedMap.l4.b (c.getD 0 undef) (c.getD 1 undef) (c.getD 2 undef) (c.getD 3 undef) (c.getD 4 undef) (s.getD 0 undef) h K1 Q) [s0, s4, s5, t33, t34] [(.int .i64 0)] h
def i_plantedMap.j9 (s0 : Value) (s3 : Value) (s4 : Value) (s5 : Value) (s19 : Value) (s20 : Value) (s21 : Value) (h : Heap) (K1 : List Value → Heap → Prop) (Q : Value → Heap → Prop) : Prop :=
    arith (· + ·) s21 (.int .i64 1) fun t31 =>
    K1 [t31] h
def i_plantedMap.j8 (s0 : Value) (s3 : Value) (s4 : Value) (s5 : Value) (s19 : Value) (s20 : Value) (s21 : Value) (h : Heap) (K1 : List Value → Heap → Prop) (Q : Value → Heap → Prop) : Prop :=
    idx 2 s19 s21 fun t23 =>
    loadN 2 t23 h fun t24 =>
    alloc [(.int .i64 0), (.int .i64 0)] 27 h fun t7 h =>
    storeN 2 t7 t24 h fun h =>
    loadN 1 s5 h fun t25 =>
    fld 0 t7 fun t26 =>
    load1 t26 h fun t27 =>
    fld 1 t7 fun t28 =>
    load1 t28 h fun t29 =>
    DoorMapNode_ii_DoorItem.call #[t25, t27, t29] h fun t30 h =>
    i_plantedMap.j9 s0 s3 s4 s5 s19 s20 s21 h K1 Q
def i_plantedMap.l7.b (c0 : Value) (c3 : Value) (c4 : Value) (c5 : Value) (c19 : Value) (c20 : Value) (s21 : Value) (h : Heap) (K1 : List Value → Heap → Prop) (Q : Value → Heap → Prop) : Prop :=
    cmpI (fun a b => decide (a < b)) s21 c20 fun t22 =>
    ifV t22
    (i_plantedMap.j8 c0 c3 c4 c5 c19 c20 s21 h K1 Q)
    (i_plantedMap.j2 c0 c3 c4 c5 h Q)
def i_plantedMap.j1 (s0 : Value) (s3 : Value) (s4 : Value) (s5 : Value) (h : Heap) (Q : Value → Heap → Prop) : Prop :=
    fld 0 s3 fun t18 =>
    load1 t18 h fun t19 =>
    lenV t19 fun t20 =>
    loopC (fun c s h K1 => i_plantedMap.l7.b (c.getD 0 undef) (c.getD 1 undef) (c.getD 2 undef) (c.getD 3 undef) (c.getD 4 undef) (c.getD 5 undef) (s.getD 0 undef) h K1 Q) [s0, s3, s4, s5, t19, t20] [(.int .i64 0)] h
def i_plantedMap.sh (a0 : Value) (a1 : Value) (h : Heap) (Q : Value → Heap → Prop) : Prop :=
    box 25 a1 h fun t3 h =>
    alloc [(.pointer none)] 175 h fun t4 h =>
    Map_ii_DoorLeaf.call #[a0] h fun t11 h =>
    alloc [(.pointer none)] 175 h fun t5 h =>
    storeN 1 t5 t11 h fun h =>
    fld 1 t3 fun t12 =>
    load1 t12 h fun t13 =>
    lenV t13 fun t14 =>
    cmpI (fun a b => decide (a > b)) t14 (.int .i64 0) fun t15 =>
    ifV t15
    (Map_ii_DoorInner.call #[a0] h fun t17 h =>
    storeN 1 t5 t17 h fun h =>
    i_plantedMap.j1 a0 t3 t4 t5 h Q)
    (i_plantedMap.j1 a0 t3 t4 t5 h Q)
theorem i_plantedMap.body (a0 : Value) (a1 : Value) (h : Heap) (Q : Value → Heap → Prop) (H : i_plantedMap.sh a0 a1 h Q) : i_plantedMap.call #[a0, a1] h Q := by
  refine callsH_of (args := [a0, a1]) Try.func110 rfl rfl ?_
  unfold i_plantedMap.sh at H
  refine WPc_seq' ?_
  refine W_region (by kernel_rfl) ?_
  refine vl_n ?_
  refine H_box H fun t3 h H => ?_
  refine vl_n ?_
  refine H_alloc TV_175 H fun t4 h H => ?_
  refine vl_e ?_
  refine WPc_seq' ?_
  refine W_region (by kernel_rfl) ?_
  refine vl_n ?_
  refine H_of_R (R_move (v := a0) rfl ?_)
  refine vl_n ?_
  refine H_call HB_150 H fun t11 h H => ?_
  refine vl_n ?_
  refine H_alloc TV_175 H fun t5 h H => ?_
  refine vl_n ?_
  refine H_storeN TS_175 H fun h H => ?_
  refine vl_e ?_
  refine WPc_seq (fun e h => i_plantedMap.j1 (e 0) (e 3) (e 4) (e 5) h Q) ?_ (fun e h H => ?_)
  rotate_left
  · unfold i_plantedMap.j1 at H
    refine WPc_seq (fun e h => i_plantedMap.j2 (e 0) (e 3) (e 4) (e 5) h Q) ?_ (fun e h H => ?_)
    rotate_left
    · unfold i_plantedMap.j2 at H
      refine WPc_seq (fun e h => i_plantedMap.j3 (e 4) (e 5) h Q) ?_ (fun e h H => ?_)
      rotate_left
      · unfold i_plantedMap.j3 at H
        refine WPc_seq' ?_
        refine W_region (by kernel_rfl) ?_
        refine vl_n ?_
        refine H_of_R (R_loadN TN_175 H fun _ t45 _ _ H _ _ => ?_)
        refine vl_n ?_
        refine H_call HB_154 H fun t46 h H => ?_
        refine vl_e ?_
        refine WPc_seq' ?_
        refine W_region (by kernel_rfl) ?_
        refine vl_n ?_
        refine H_of_R (R_loadN TN_175 H fun _ t47 _ _ H _ _ => ?_)
        refine vl_n ?_
        refine H_storeN TS_175 H fun h H => ?_
        refine vl_e ?_
        refine WPc_ret ?_
        refine resH_of rfl ?_
        refine resL_N TN_175 ?_
        refine loadN_imp H fun r4 H => ?_
        exact H
      refine WPc_seq' ?_
      refine W_region (by kernel_rfl) ?_
      refine vl_n ?_
      refine H_of_R (R_fld TF_25_1 H fun t32 H => ?_)
      refine vl_n ?_
      refine H_of_R (R_load1 T1_23 H fun _ t33 _ _ H => ?_)
      refine vl_n ?_
      refine H_of_R (R_len Try.underlying23 H fun t34 H => ?_)
      refine vl_n ?_
      refine H_of_R (R_move (v := (.int .i64 0)) rfl ?_)
      refine vl_e ?_
      refine WPc_block ?_
      refine loop_at (fun e => [e 35]) (fun e => [e 0, e 4, e 5, e 33, e 34]) H rfl rfl ?_
      intro K1 e1 h H hin1
      replace H : i_plantedMap.l4.b (e1 0) (e1 4) (e1 5) (e1 33) (e1 34) (e1 35) h K1 Q := H
      unfold i_plantedMap.l4.b at H
      clear hin1
      refine WPc_seq' ?_
      refine W_region (by kernel_rfl) ?_
      refine vl_n ?_
      refine H_of_R (R_lss H fun t36 H => ?_)
      refine vl_e ?_
      refine WPc_seq (fun e h => i_plantedMap.j5 (e 0) (e 4) (e 5) (e 33) (e 34) (e 35) h K1 Q ∧ [e1 0, e1 4, e1 5, e1 33, e1 34] = [e 0, e 4, e 5, e 33, e 34]) ?_ (fun e h ⟨H, hq1⟩ => ?_)
      rotate_left
      · unfold i_plantedMap.j5 at H
        refine WPc_seq (fun e h => i_plantedMap.j6 (e 0) (e 4) (e 5) (e 33) (e 34) (e 35) h K1 Q ∧ [e1 0, e1 4, e1 5, e1 33, e1 34] = [e 0, e 4, e 5, e 33, e 34]) ?_ (fun e h ⟨H, hq1⟩ => ?_)
        rotate_left
        · unfold i_plantedMap.j6 at H
          refine W_region (by kernel_rfl) ?_
          refine vl_n ?_
          refine H_of_R (R_add H fun t44 H => ?_)
          refine vl_n ?_
          refine H_of_R (R_move (v := t44) rfl ?_)
          refine vl_e ?_
          exact ⟨H, hq1⟩
        refine WPc_block ?_
        refine WPc_seq' ?_
        refine W_region (by kernel_rfl) ?_
        refine vl_n ?_
        refine H_of_R (R_idx TE_23 H fun t37 H => ?_)
        refine vl_n ?_
        refine H_of_R (R_loadN TN_25 H fun _ t38 _ _ H _ _ => ?_)
        refine vl_n ?_
        refine H_alloc TV_25 H fun t9 h H => ?_
        refine vl_n ?_
        refine H_storeN TS_25 H fun h H => ?_
        refine vl_e ?_
        refine W_drawn [0, 0, 0, 6, 15] (.take 0 (.take 1 (.take 2 (.alt 3 (.alt 4 .done .none) .none)))) mixed (by kernel_rfl) ?_
        refine tkL rfl ?_
        refine R_loadN TN_175 H fun at39 xt39 hat39 _ H St39 hSt39 => ?_
        refine tkP rfl ?_
        refine R_move (v := (e 0)) rfl ⟨fun _ => trivial, ?_⟩
        refine tkL rfl ?_
        refine R_loadN TN_25 H fun at41 xt41 hat41 _ H St41 hSt41 => ?_
        refine alt_n rfl ?_ vp_none
        refine H_call HB_110 H fun t42 h ⟨S, H⟩ => ⟨(hskip rfl (hcons rfl (hSt39 _ (still_N S hat39 rfl)) hnil)), ?_⟩
        refine alt_n rfl ?_ vp_none
        refine H_call HB_153 H fun t43 h H => ⟨(hskip rfl hnil), ?_⟩
        refine vp_done ?_
        exact ⟨H, hq1⟩
      obtain ⟨b, hc, H1, H2⟩ := H
      refine WPc_cond hc (fun hh => ?_) (fun hh => ?_)
      · have H := H1 hh; clear H1 H2
        refine WPc_skip ?_
        exact ⟨H, rfl⟩
      · have H := H2 hh; clear H1 H2
        refine WPc_exit ?_
        exact H
    refine WPc_seq' ?_
    refine W_region (by kernel_rfl) ?_
    refine vl_n ?_
    refine H_of_R (R_fld TF_25_0 H fun t18 H => ?_)
    refine vl_n ?_
    refine H_of_R (R_load1 T1_22 H fun _ t19 _ _ H => ?_)
    refine vl_n ?_
    refine H_of_R (R_len Try.underlying22 H fun t20 H => ?_)
    refine vl_n ?_
    refine H_of_R (R_move (v := (.int .i64 0)) rfl ?_)
    refine vl_e ?_
    refine WPc_block ?_
    refine loop_at (fun e => [e 21]) (fun e => [e 0, e 3, e 4, e 5, e 19, e 20]) H rfl rfl ?_
    intro K1 e1 h H hin1
    replace H : i_plantedMap.l7.b (e1 0) (e1 3) (e1 4) (e1 5) (e1 19) (e1 20) (e1 21) h K1 Q := H
    unfold i_plantedMap.l7.b at H
    clear hin1
    refine WPc_seq' ?_
    refine W_region (by kernel_rfl) ?_
    refine vl_n ?_
    refine H_of_R (R_lss H fun t22 H => ?_)
    refine vl_e ?_
    refine WPc_seq (fun e h => i_plantedMap.j8 (e 0) (e 3) (e 4) (e 5) (e 19) (e 20) (e 21) h K1 Q ∧ [e1 0, e1 3, e1 4, e1 5, e1 19, e1 20] = [e 0, e 3, e 4, e 5, e 19, e 20]) ?_ (fun e h ⟨H, hq1⟩ => ?_)
    rotate_left
    · unfold i_plantedMap.j8 at H
      refine WPc_seq (fun e h => i_plantedMap.j9 (e 0) (e 3) (e 4) (e 5) (e 19) (e 20) (e 21) h K1 Q ∧ [e1 0, e1 3, e1 4, e1 5, e1 19, e1 20] = [e 0, e 3, e 4, e 5, e 19, e 20]) ?_ (fun e h ⟨H, hq1⟩ => ?_)
      rotate_left
      · unfold i_plantedMap.j9 at H
        refine W_region (by kernel_rfl) ?_
        refine vl_n ?_
        refine H_of_R (R_add H fun t31 H => ?_)
        refine vl_n ?_
        refine H_of_R (R_move (v := t31) rfl ?_)
        refine vl_e ?_
        exact ⟨H, hq1⟩
      refine WPc_block ?_
      refine WPc_seq' ?_
      refine W_region (by kernel_rfl) ?_
      refine vl_n ?_
      refine H_of_R (R_idx TE_22 H fun t23 H => ?_)
      refine vl_n ?_
      refine H_of_R (R_loadN TN_27 H fun _ t24 _ _ H _ _ => ?_)
      refine vl_n ?_
      refine H_alloc TV_27 H fun t7 h H => ?_
      refine vl_n ?_
      refine H_storeN TS_27 H fun h H => ?_
      refine vl_e ?_
      refine W_region (by kernel_rfl) ?_
      refine vl_n ?_
      refine H_of_R (R_loadN TN_175 H fun _ t25 _ _ H _ _ => ?_)
      refine vl_n ?_
      refine H_of_R (R_fld TF_27_0 H fun t26 H => ?_)
      refine vl_n ?_
      refine H_of_R (R_load1 T1_3 H fun _ t27 _ _ H => ?_)
      refine vl_n ?_
      refine H_of_R (R_fld TF_27_1 H fun t28 H => ?_)
      refine vl_n ?_
      refine H_of_R (R_load1 T1_3 H fun _ t29 _ _ H => ?_)
      refine vl_n ?_
      refine H_call HB_152 H fun t30 h H => ?_
      refine vl_e ?_
      exact ⟨H, hq1⟩
    obtain ⟨b, hc, H1, H2⟩ := H
    refine WPc_cond hc (fun hh => ?_) (fun hh => ?_)
    · have H := H1 hh; clear H1 H2
      refine WPc_skip ?_
      exact ⟨H, rfl⟩
    · have H := H2 hh; clear H1 H2
      refine WPc_exit ?_
      exact H
  refine WPc_seq' ?_
  refine W_region (by kernel_rfl) ?_
  refine vl_n ?_
  refine H_of_R (R_fld TF_25_1 H fun t12 H => ?_)
  refine vl_n ?_
  refine H_of_R (R_load1 T1_23 H fun _ t13 _ _ H => ?_)
  refine vl_n ?_
  refine H_of_R (R_len Try.underlying23 H fun t14 H => ?_)
  refine vl_n ?_
  refine H_of_R (R_gtr H fun t15 H => ?_)
  refine vl_e ?_
  obtain ⟨b, hc, H1, H2⟩ := H
  refine WPc_cond hc (fun hh => ?_) (fun hh => ?_)
  · have H := H1 hh; clear H1 H2
    refine W_region (by kernel_rfl) ?_
    refine vl_n ?_
    refine H_of_R (R_move (v := a0) rfl ?_)
    refine vl_n ?_
    refine H_call HB_151 H fun t17 h H => ?_
    refine vl_n ?_
    refine H_storeN TS_175 H fun h H => ?_
    refine vl_e ?_
    exact H
  · have H := H2 hh; clear H1 H2
    refine WPc_skip ?_
    exact H
/-! ### impl.standMap -/
def i_standMap.j1 (s5 : Value) (h : Heap) (Q : Value → Heap → Prop) : Prop :=
    Q s5 h
def i_standMap.sh (a0 : Value) (a1 : Value) (h : Heap) (Q : Value → Heap → Prop) : Prop :=
    box 25 a1 h fun t3 h =>
    NewMap_ii.call #[a0] h fun t7 h =>
    fld 0 t3 fun t8 =>
    load1 t8 h fun t9 =>
    lenV t9 fun t10 =>
    cmpI (fun a b => decide (a > b)) t10 (.int .i64 0) fun t11 =>
    br t11 false (fld 1 t3 fun t13 =>
    load1 t13 h fun t14 =>
    lenV t14 fun t15 =>
    cmpI (fun a b => decide (a > b)) t15 (.int .i64 0) fun t16 =>
    ifV t16
    (loadN 3 t3 h fun t20 =>
    i_plantedMap.call #[t7, t20] h fun t21 h =>
    Map_ii_DoorPlant.call #[t7, t21] h fun t22 h =>
    i_standMap.j1 t7 h Q)
    (i_standMap.j1 t7 h Q)) (loadN 3 t3 h fun t20_2 =>
    i_plantedMap.call #[t7, t20_2] h fun t21_2 h =>
    Map_ii_DoorPlant.call #[t7, t21_2] h fun t22_2 h =>
    i_standMap.j1 t7 h Q)
theorem i_standMap.body (a0 : Value) (a1 : Value) (h : Heap) (Q : Value → Heap → Prop) (H : i_standMap.sh a0 a1 h Q) : i_standMap.call #[a0, a1] h Q := by
  refine callsH_of (args := [a0, a1]) Try.func58 rfl rfl ?_
  unfold i_standMap.sh at H
  refine WPc_seq' ?_
  refine W_region (by kernel_rfl) ?_
  refine vl_n ?_
  refine H_box H fun t3 h H => ?_
  refine vl_n ?_
  refine H_of_R (R_assign (v := (.pointer none)) rfl ?_)
  refine vl_e ?_
  refine WPc_seq' ?_
  refine W_region (by kernel_rfl) ?_
  refine vl_n ?_
  refine H_of_R (R_move (v := a0) rfl ?_)
  refine vl_n ?_
  refine H_call HB_108 H fun t7 h H => ?_
  refine vl_n ?_
  refine H_of_R (R_assign (v := t7) rfl ?_)
  refine vl_e ?_
  refine WPc_seq (fun e h => i_standMap.j1 (e 5) h Q) ?_ (fun e h H => ?_)
  rotate_left
  · unfold i_standMap.j1 at H
    refine WPc_seq' ?_
    refine W_region (by kernel_rfl) ?_
    refine vl_n ?_
    refine H_of_R (R_move (v := (e 5)) rfl ?_)
    refine vl_n ?_
    refine H_of_R (R_assign (v := (e 5)) rfl ?_)
    refine vl_e ?_
    refine WPc_ret ?_
    refine resH_of rfl ?_
    exact H
  refine WPc_seq' ?_
  refine W_region (by kernel_rfl) ?_
  refine vl_n ?_
  refine H_of_R (R_fld TF_25_0 H fun t8 H => ?_)
  refine vl_n ?_
  refine H_of_R (R_load1 T1_22 H fun _ t9 _ _ H => ?_)
  refine vl_n ?_
  refine H_of_R (R_len Try.underlying22 H fun t10 H => ?_)
  refine vl_n ?_
  refine H_of_R (R_gtr H fun t11 H => ?_)
  refine vl_n ?_
  refine H_of_R (R_move (v := t11) rfl ?_)
  obtain ⟨b, hb, H1, H2⟩ := H
  cases b
  · have H := H1 rfl; clear H1 H2
    refine vl_y rfl hb ?_
    refine H_of_R (R_fld TF_25_1 H fun t13 H => ?_)
    refine vl_y rfl hb ?_
    refine H_of_R (R_load1 T1_23 H fun _ t14 _ _ H => ?_)
    refine vl_y rfl hb ?_
    refine H_of_R (R_len Try.underlying23 H fun t15 H => ?_)
    refine vl_y rfl hb ?_
    refine H_of_R (R_gtr H fun t16 H => ?_)
    refine vl_n ?_
    refine H_of_R (R_pickC (v := t16) false hb rfl ?_)
    refine vl_e ?_
    obtain ⟨b_2, hc, H1, H2⟩ := H
    refine WPc_cond hc (fun hh => ?_) (fun hh => ?_)
    · have H := H1 hh; clear H1 H2
      refine W_region (by kernel_rfl) ?_
      refine vl_n ?_
      refine H_of_R (R_move (v := t7) rfl ?_)
      refine vl_n ?_
      refine H_of_R (R_move (v := t7) rfl ?_)
      refine vl_n ?_
      refine H_of_R (R_loadN TN_25 H fun _ t20 _ _ H _ _ => ?_)
      refine vl_n ?_
      refine H_call HB_110 H fun t21 h H => ?_
      refine vl_n ?_
      refine H_call HB_109 H fun t22 h H => ?_
      refine vl_e ?_
      exact H
    · have H := H2 hh; clear H1 H2
      refine WPc_skip ?_
      exact H
  · have H := H2 rfl; clear H1 H2
    refine vl_s rfl (nbF hb) ?_
    refine vl_s rfl (nbF hb) ?_
    refine vl_s rfl (nbF hb) ?_
    refine vl_s rfl (nbF hb) ?_
    refine vl_n ?_
    refine H_of_R (R_pickC (v := (.bool true)) true hb rfl ?_)
    refine vl_e ?_
    refine WPc_cond (t := true) rfl (fun _ => ?_) (fun hh => by cases hh)
    refine W_region (by kernel_rfl) ?_
    refine vl_n ?_
    refine H_of_R (R_move (v := t7) rfl ?_)
    refine vl_n ?_
    refine H_of_R (R_move (v := t7) rfl ?_)
    refine vl_n ?_
    refine H_of_R (R_loadN TN_25 H fun _ t20_2 _ _ H _ _ => ?_)
    refine vl_n ?_
    refine H_call HB_110 H fun t21_2 h H => ?_
    refine vl_n ?_
    refine H_call HB_109 H fun t22_2 h H => ?_
    refine vl_e ?_
    exact H
/-! ### (*pub/tidwallbtree.Map[int, int]).Height -/
def Map_ii_Height.j1 (s3 : Value) (h : Heap) (Q : Value → Heap → Prop) : Prop :=
    Q s3 h
def Map_ii_Height.j3 (s3 : Value) (s4 : Value) (h : Heap) (K1 : List Value → Heap → Prop) (Q : Value → Heap → Prop) : Prop :=
    nilck s4 fun t19 =>
    fld 3 t19 fun t20 =>
    load1 t20 h fun t21 =>
    nilck t21 fun t22 =>
    load1 t22 h fun t23 =>
    idx 1 t23 (.int .i64 0) fun t24 =>
    load1 t24 h fun t25 =>
    K1 [s3, t25] h
def Map_ii_Height.l2.b (s3 : Value) (s4 : Value) (h : Heap) (K1 : List Value → Heap → Prop) (Q : Value → Heap → Prop) : Prop :=
    arith (· + ·) s3 (.int .i64 1) fun t15 =>
    mapNode_ii_leaf.call #[s4] h fun t17 h =>
    ifV t17
    (Map_ii_Height.j1 t15 h Q)
    (Map_ii_Height.j3 t15 s4 h K1 Q)
def Map_ii_Height.sh (a0 : Value) (h : Heap) (Q : Value → Heap → Prop) : Prop :=
    nilck a0 fun t6 =>
    fld 2 t6 fun t7 =>
    load1 t7 h fun t8 =>
    neNilP t8 fun t9 =>
    ifV t9
    (nilck a0 fun t11 =>
    fld 2 t11 fun t12 =>
    load1 t12 h fun t13 =>
    loopC (fun c s h K1 => Map_ii_Height.l2.b (s.getD 0 undef) (s.getD 1 undef) h K1 Q) [] [(.int .i64 0), t13] h)
    (Map_ii_Height.j1 (.int .i64 0) h Q)
theorem Map_ii_Height.body (a0 : Value) (h : Heap) (Q : Value → Heap → Prop) (H : Map_ii_Height.sh a0 h Q) : Map_ii_Height.call #[a0] h Q := by
  refine callsH_of (args := [a0]) Try.func99 rfl rfl ?_
  unfold Map_ii_Height.sh at H
  refine WPc_seq' ?_
  refine W_region (by kernel_rfl) ?_
  refine vl_n ?_
  refine H_of_R (R_assign (v := (.int .i64 0)) rfl ?_)
  refine vl_e ?_
  refine WPc_seq' ?_
  refine W_region (by kernel_rfl) ?_
  refine vl_n ?_
  refine H_of_R (R_assign (v := (.int .i64 0)) rfl ?_)
  refine vl_e ?_
  refine WPc_seq (fun e h => Map_ii_Height.j1 (e 3) h Q) ?_ (fun e h H => ?_)
  rotate_left
  · unfold Map_ii_Height.j1 at H
    refine WPc_seq' ?_
    refine W_region (by kernel_rfl) ?_
    refine vl_n ?_
    refine H_of_R (R_move (v := (e 3)) rfl ?_)
    refine vl_n ?_
    refine H_of_R (R_assign (v := (e 3)) rfl ?_)
    refine vl_e ?_
    refine WPc_ret ?_
    refine resH_of rfl ?_
    exact H
  refine WPc_seq' ?_
  refine W_region (by kernel_rfl) ?_
  refine vl_n ?_
  refine H_of_R (R_move (v := a0) rfl ?_)
  refine vl_n ?_
  refine H_of_R (R_nil H fun t6 H => ?_)
  refine vl_n ?_
  refine H_of_R (R_fld TF_182_2 H fun t7 H => ?_)
  refine vl_n ?_
  refine H_of_R (R_load1 T1_173 H fun _ t8 _ _ H => ?_)
  refine vl_n ?_
  refine H_of_R (R_neNilP Try.underlying173 rfl H fun t9 H => ?_)
  refine vl_e ?_
  obtain ⟨b, hc, H1, H2⟩ := H
  refine WPc_cond hc (fun hh => ?_) (fun hh => ?_)
  · have H := H1 hh; clear H1 H2
    refine WPc_seq' ?_
    refine W_region (by kernel_rfl) ?_
    refine vl_n ?_
    refine H_of_R (R_move (v := a0) rfl ?_)
    refine vl_n ?_
    refine H_of_R (R_nil H fun t11 H => ?_)
    refine vl_n ?_
    refine H_of_R (R_fld TF_182_2 H fun t12 H => ?_)
    refine vl_n ?_
    refine H_of_R (R_load1 T1_173 H fun _ t13 _ _ H => ?_)
    refine vl_n ?_
    refine H_of_R (R_assign (v := t13) rfl ?_)
    refine vl_e ?_
    refine WPc_block ?_
    refine loop_at (fun e => [e 3, e 4]) (fun e => []) H rfl rfl ?_
    intro K1 e1 h H hin1
    replace H : Map_ii_Height.l2.b (e1 3) (e1 4) h K1 Q := H
    unfold Map_ii_Height.l2.b at H
    clear hin1
    refine WPc_block ?_
    refine WPc_seq' ?_
    refine W_region (by kernel_rfl) ?_
    refine vl_n ?_
    refine H_of_R (R_move (v := (e1 3)) rfl ?_)
    refine vl_n ?_
    refine H_of_R (R_add H fun t15 H => ?_)
    refine vl_n ?_
    refine H_of_R (R_assign (v := t15) rfl ?_)
    refine vl_e ?_
    refine WPc_seq (fun e h => Map_ii_Height.j3 (e 3) (e 4) h K1 Q) ?_ (fun e h H => ?_)
    rotate_left
    · unfold Map_ii_Height.j3 at H
      refine W_region (by kernel_rfl) ?_
      refine vl_n ?_
      refine H_of_R (R_move (v := (e 4)) rfl ?_)
      refine vl_n ?_
      refine H_of_R (R_nil H fun t19 H => ?_)
      refine vl_n ?_
      refine H_of_R (R_fld TF_188_3 H fun t20 H => ?_)
      refine vl_n ?_
      refine H_of_R (R_load1 T1_186 H fun _ t21 _ _ H => ?_)
      refine vl_n ?_
      refine H_of_R (R_nil H fun t22 H => ?_)
      refine vl_n ?_
      refine H_of_R (R_load1 T1_194 H fun _ t23 _ _ H => ?_)
      refine vl_n ?_
      refine H_of_R (R_idx TE_194 H fun t24 H => ?_)
      refine vl_n ?_
      refine H_of_R (R_load1 T1_173 H fun _ t25 _ _ H => ?_)
      refine vl_n ?_
      refine H_of_R (R_assign (v := t25) rfl ?_)
      refine vl_e ?_
      exact ⟨H, rfl⟩
    refine WPc_seq' ?_
    refine W_region (by kernel_rfl) ?_
    refine vl_n ?_
    refine H_of_R (R_move (v := (e1 4)) rfl ?_)
    refine vl_n ?_
    refine H_call HB_126 H fun t17 h H => ?_
    refine vl_e ?_
    obtain ⟨b, hc, H1, H2⟩ := H
    refine WPc_cond hc (fun hh => ?_) (fun hh => ?_)
    · have H := H1 hh; clear H1 H2
      refine WPc_exit ?_
      exact H
    · have H := H2 hh; clear H1 H2
      refine WPc_skip ?_
      exact H
  · have H := H2 hh; clear H1 H2
    refine WPc_skip ?_
    exact H
/-! ### (*pub/tidwallbtree.Map[int, int]).Len -/
def Map_ii_Len.sh (a0 : Value) (h : Heap) (Q : Value → Heap → Prop) : Prop :=
    nilck a0 fun t4 =>
    fld 3 t4 fun t5 =>
    load1 t5 h fun t6 =>
    Q t6 h
theorem Map_ii_Len.body (a0 : Value) (h : Heap) (Q : Value → Heap → Prop) (H : Map_ii_Len.sh a0 h Q) : Map_ii_Len.call #[a0] h Q := by
  refine callsH_of (args := [a0]) Try.func100 rfl rfl ?_
  unfold Map_ii_Len.sh at H
  refine WPc_seq' ?_
  refine W_region (by kernel_rfl) ?_
  refine vl_n ?_
  refine H_of_R (R_assign (v := (.int .i64 0)) rfl ?_)
  refine vl_e ?_
  refine WPc_seq' ?_
  refine W_region (by kernel_rfl) ?_
  refine vl_n ?_
  refine H_of_R (R_move (v := a0) rfl ?_)
  refine vl_n ?_
  refine H_of_R (R_nil H fun t4 H => ?_)
  refine vl_n ?_
  refine H_of_R (R_fld TF_182_3 H fun t5 H => ?_)
  refine vl_n ?_
  refine H_of_R (R_load1 T1_3 H fun _ t6 _ _ H => ?_)
  refine vl_n ?_
  refine H_of_R (R_assign (v := t6) rfl ?_)
  refine vl_e ?_
  refine WPc_ret ?_
  refine resH_of rfl ?_
  exact H

end Go.Proofs.Ytlihjljdndbpdaa
end
section
namespace Go.Proofs.Ytlihjljdndbpdaa
open Go.Hp
set_option linter.unusedVariables false
set_option linter.unusedSimpArgs false
variable {h0 h : Heap} {Z E : List Rg} {Q : Value → Heap → Prop}

theorem Map_ii_newNode_leaf {tb : Nat} {iso : Int} (hi : cl h tb 0 = some (.int .u64 iso)) (H : ∀ n h', St h [] [(n, 0, [.int .u64 iso, .int .i64 0, .slice none 0 0, .pointer none])] h' → Q (ptr n 0) h') : Map_ii_newNode.call #[ptr tb 0, .bool true] h Q := by
  refine Map_ii_newNode.body _ _ _ _ ?_
  unfold Map_ii_newNode.sh
  have s := St.start h
  refine s.r_alloc fun n h s => ?_
  refine r_nil ?_
  refine r_fld ?_
  refine s.r_loadB hi ?_
  refine r_nil ?_
  refine r_fld ?_
  refine St.r_store0 s 0 rfl (by simp) rfl ?_
  intro h s
  try simp only [List.set_cons_zero, List.set_cons_succ] at s
  refine r_not ?_
  refine r_if (fun e => absurd e (by decide)) (fun _ => ?_)
  unfold Map_ii_newNode.j1
  exact H n h s

theorem Map_ii_newNode_inner {tb : Nat} {iso : Int} (hi : cl h tb 0 = some (.int .u64 iso)) (H : ∀ n kb h', St h [] [(n, 0, [.int .u64 iso, .int .i64 0, .slice none 0 0, ptr kb 0]), (kb, 0, [.slice none 0 0])] h' → Q (ptr n 0) h') : Map_ii_newNode.call #[ptr tb 0, .bool false] h Q := by
  refine Map_ii_newNode.body _ _ _ _ ?_
  unfold Map_ii_newNode.sh
  have s := St.start h
  refine s.r_alloc fun n h s => ?_
  refine r_nil ?_
  refine r_fld ?_
  refine s.r_loadB hi ?_
  refine r_nil ?_
  refine r_fld ?_
  refine St.r_store0 s 0 rfl (by simp) rfl ?_
  intro h s
  try simp only [List.set_cons_zero, List.set_cons_succ] at s
  refine r_not ?_
  refine r_if (fun _ => ?_) (fun e => absurd e (by decide))
  refine s.r_alloc fun kb h s => ?_
  refine r_nil ?_
  refine r_fld ?_
  refine St.r_store0 s 1 rfl (by simp) rfl ?_; intro h s
  unfold Map_ii_newNode.j1
  exact H n kb h (s.perm (by ((apply perm_rg; intro f; simp only [List.set_cons_zero, List.set_cons_succ, List.eraseIdx_cons_zero, List.eraseIdx_cons_succ, List.cons_append, List.nil_append, List.map_append, List.map_cons, List.map_nil, List.sum_append, List.sum_cons, List.sum_nil, List.map_flatMap, Nat.add_zero, Nat.zero_add]; ac_rfl))))

theorem Map_ii_DoorLeaf_ok {tb : Nat} {iso : Int} (hi : cl h tb 0 = some (.int .u64 iso)) (H : ∀ n h', St h [] [(n, 0, [.int .u64 iso, .int .i64 0, .slice none 0 0, .pointer none])] h' → Q (.agg #[ptr n 0]) h') : Map_ii_DoorLeaf.call #[ptr tb 0] h Q := by
  refine Map_ii_DoorLeaf.body _ _ _ ?_
  unfold Map_ii_DoorLeaf.sh
  have s := St.start h
  refine s.r_alloc fun b h s => ?_
  refine Map_ii_newNode_leaf (s.base hi) fun n h s1 => ?_
  have s := s.join s1
  (apply r_build; (simp only [fillV, fill1, Value.cells, zeros_succ, zeros_zero, List.size_toArray, List.length_cons, List.length_nil, List.length_append, List.take_succ_cons, List.take_zero, List.take_nil, List.drop_succ_cons, List.drop_zero, List.drop_nil, List.cons_append, List.nil_append, List.append_nil, Nat.reduceAdd, Nat.reduceMul, Nat.reduceLeDiff, Nat.reduceEqDiff, and_self, and_true, true_and, if_true, Nat.le_refl, Nat.zero_add, Nat.add_zero, Nat.zero_mul, reduceIte, if_false] <;> rfl))
  refine St.r_storeN0 s 1 rfl rfl (by simp) (by simp [one1]) ?_; intro h s
  refine St.r_loadN0 s 1 rfl (by simp) ?_
  exact H n h (s.sub (by simp))

theorem Map_ii_DoorInner_ok {tb : Nat} {iso : Int} (hi : cl h tb 0 = some (.int .u64 iso)) (H : ∀ n kb h', St h [] [(n, 0, [.int .u64 iso, .int .i64 0, .slice none 0 0, ptr kb 0]), (kb, 0, [.slice none 0 0])] h' → Q (.agg #[ptr n 0]) h') : Map_ii_DoorInner.call #[ptr tb 0] h Q := by
  refine Map_ii_DoorInner.body _ _ _ ?_
  unfold Map_ii_DoorInner.sh
  have s := St.start h
  refine s.r_alloc fun b h s => ?_
  refine Map_ii_newNode_inner (s.base hi) fun n kb h s1 => ?_
  have s := s.join s1
  (apply r_build; (simp only [fillV, fill1, Value.cells, zeros_succ, zeros_zero, List.size_toArray, List.length_cons, List.length_nil, List.length_append, List.take_succ_cons, List.take_zero, List.take_nil, List.drop_succ_cons, List.drop_zero, List.drop_nil, List.cons_append, List.nil_append, List.append_nil, Nat.reduceAdd, Nat.reduceMul, Nat.reduceLeDiff, Nat.reduceEqDiff, and_self, and_true, true_and, if_true, Nat.le_refl, Nat.zero_add, Nat.add_zero, Nat.zero_mul, reduceIte, if_false] <;> rfl))
  refine St.r_storeN0 s 2 rfl rfl (by simp) (by simp [one1]) ?_; intro h s
  refine St.r_loadN0 s 2 rfl (by simp) ?_
  exact H n kb h (s.sub (by simp))

theorem mapNode_ii_leaf_ok {n : Nat} {a : Option Addr} (hn : cl h n 3 = some (.pointer a)) (H : Q (.bool a.isNone) h) : mapNode_ii_leaf.call #[ptr n 0] h Q := by
  refine mapNode_ii_leaf.body _ _ _ ?_
  unfold mapNode_ii_leaf.sh
  have s := St.start h
  refine r_nil ?_
  refine r_fld ?_
  refine s.r_loadB hn ?_
  refine r_eqNilP ?_
  exact H

theorem DoorItem_ok {n b o len : Nat} {c1 c2 iv kp : Value} {xs sp : List Value} {x y : Int} (s : St h0 Z ((n, 0, [c1, c2, iv, kp]) :: (b, o, xs ++ sp) :: E) h) (w : Own 2 iv len b o xs sp) (hl : len ≤ 2147483647)
    (H : ∀ iv' b' o' sp' h', St h0 Z ((n, 0, [c1, c2, iv', kp]) :: (b', o', (xs ++ [.int .i64 y, .int .i64 x]) ++ sp') :: E) h' → Own 2 iv' (len + 1) b' o' (xs ++ [.int .i64 y, .int .i64 x]) sp' → Q (.tuple #[]) h') :
    DoorMapNode_ii_DoorItem.call #[.agg #[ptr n 0], .int .i64 x, .int .i64 y] h Q := by
  refine DoorMapNode_ii_DoorItem.body _ _ _ _ _ ?_
  unfold DoorMapNode_ii_DoorItem.sh
  refine St.r_box (cs := [ptr n 0]) s fun t h s => ?_
  refine r_fld ?_
  refine St.r_load0 s 0 rfl rfl ?_
  refine r_fld ?_
  refine St.r_load0 s 0 rfl rfl ?_
  refine r_nil ?_
  refine r_fld ?_
  refine St.r_load0 s 1 rfl rfl ?_
  (apply r_build; (simp only [fillV, fill1, Value.cells, zeros_succ, zeros_zero, List.size_toArray, List.length_cons, List.length_nil, List.length_append, List.take_succ_cons, List.take_zero, List.take_nil, List.drop_succ_cons, List.drop_zero, List.drop_nil, List.cons_append, List.nil_append, List.append_nil, Nat.reduceAdd, Nat.reduceMul, Nat.reduceLeDiff, Nat.reduceEqDiff, and_self, and_true, true_and, if_true, Nat.le_refl, Nat.zero_add, Nat.add_zero, Nat.zero_mul, reduceIte, if_false] <;> rfl))
  refine St.r_mkSl (sz := 2) (cs := [.int .i64 y, .int .i64 x]) s (by ((simp only [fillV, fill1, Value.cells, zeros_succ, zeros_zero, List.size_toArray, List.length_cons, List.length_nil, List.length_append, List.take_succ_cons, List.take_zero, List.take_nil, List.drop_succ_cons, List.drop_zero, List.drop_nil, List.cons_append, List.nil_append, List.append_nil, Nat.reduceAdd, Nat.reduceMul, Nat.reduceLeDiff, Nat.reduceEqDiff, and_self, and_true, true_and, if_true, Nat.le_refl, Nat.zero_add, Nat.add_zero, Nat.zero_mul, reduceIte, if_false] <;> rfl))) rfl fun q h s w1 => ?_
  refine And.intro (by exact St.r_still0 s 1 rfl rfl) ?_
  refine And.intro (by exact St.r_still0 s 1 rfl rfl) ?_
  refine And.intro (by exact St.r_still0 s 2 rfl rfl) ?_
  refine St.r_app s 3 (sz := 2) (n := 1) (new := [.int .i64 y, .int .i64 x]) rfl w rfl (w1.rdl s 0 rfl) (by simp [one1]) (by omega) (by omega) fun v' b' o' sp' h s w' => ?_
  refine And.intro (by exact St.r_still0 s 1 rfl rfl) ?_
  refine r_nil ?_
  refine r_fld ?_
  refine St.r_store0 s 2 rfl (by simp) w'.one ?_; intro h s
  exact H v' b' o' sp' h (s.sub (by simp)) w'

theorem DoorAppend_ok {n kb b o len m : Nat} {c1 c2 iv kv : Value} {xs sp : List Value} (s : St h0 Z ((n, 0, [c1, c2, iv, ptr kb 0]) :: (kb, 0, [kv]) :: (b, o, xs ++ sp) :: E) h) (w : Own 1 kv len b o xs sp) (hl : len ≤ 2147483647)
    (H : ∀ kv' b' o' sp' h', St h0 Z ((n, 0, [c1, c2, iv, ptr kb 0]) :: (kb, 0, [kv']) :: (b', o', (xs ++ [ptr m 0]) ++ sp') :: E) h' → Own 1 kv' (len + 1) b' o' (xs ++ [ptr m 0]) sp' → Q (.tuple #[]) h') :
    DoorMapNode_ii_DoorAppend.call #[.agg #[ptr n 0], .agg #[ptr m 0]] h Q := by
  refine DoorMapNode_ii_DoorAppend.body _ _ _ _ ?_
  unfold DoorMapNode_ii_DoorAppend.sh
  refine St.r_box (cs := [ptr n 0]) s fun t h s => ?_
  refine St.r_box (cs := [ptr m 0]) s fun t2 h s => ?_
  refine r_fld ?_
  refine St.r_load0 s 1 rfl rfl ?_
  refine r_nil ?_
  refine r_fld ?_
  refine St.r_load0 s 2 rfl rfl ?_
  refine r_fld ?_
  refine St.r_load0 s 1 rfl rfl ?_
  refine r_nil ?_
  refine r_fld ?_
  refine St.r_load0 s 2 rfl rfl ?_
  refine r_nil ?_
  refine St.r_load0 s 3 rfl rfl ?_
  refine r_fld ?_
  refine St.r_load0 s 0 rfl rfl ?_
  refine St.r_mkSl (sz := 1) (cs := [ptr m 0]) s (by ((simp only [fillV, fill1, Value.cells, zeros_succ, zeros_zero, List.size_toArray, List.length_cons, List.length_nil, List.length_append, List.take_succ_cons, List.take_zero, List.take_nil, List.drop_succ_cons, List.drop_zero, List.drop_nil, List.cons_append, List.nil_append, List.append_nil, Nat.reduceAdd, Nat.reduceMul, Nat.reduceLeDiff, Nat.reduceEqDiff, and_self, and_true, true_and, if_true, Nat.le_refl, Nat.zero_add, Nat.add_zero, Nat.zero_mul, reduceIte, if_false] <;> rfl))) rfl fun q h s w1 => ?_
  refine And.intro (by exact St.r_still0 s 2 rfl rfl) ?_
  refine And.intro (by exact St.r_still0 s 3 rfl rfl) ?_
  refine And.intro (by exact St.r_still0 s 2 rfl rfl) ?_
  refine And.intro (by exact St.r_still0 s 3 rfl rfl) ?_
  refine And.intro (by exact St.r_still0 s 4 rfl rfl) ?_
  refine St.r_app s 5 (sz := 1) (n := 1) (new := [ptr m 0]) rfl w rfl (w1.rdl s 0 rfl) (by simp [one1]) (by omega) (by omega) fun v' b' o' sp' h s w' => ?_
  refine And.intro (by exact St.r_still0 s 2 rfl rfl) ?_
  refine And.intro (by exact St.r_still0 s 3 rfl rfl) ?_
  refine r_nil ?_
  refine St.r_store0 s 4 rfl (by simp) w'.one ?_; intro h s
  exact H v' b' o' sp' h (s.drop 3) w'

theorem updateCount_leaf {n b o len : Nat} {c1 c2 iv : Value} {xs sp : List Value} (s : St h0 Z ((n, 0, [c1, c2, iv, .pointer none]) :: E) h) (w : Own 2 iv len b o xs sp)
    (H : ∀ h', St h0 Z ((n, 0, [c1, .int .i64 len, iv, .pointer none]) :: E) h' → Q (.tuple #[]) h') : mapNode_ii_updateCount.call #[ptr n 0] h Q := by
  refine mapNode_ii_updateCount.body _ _ _ ?_
  unfold mapNode_ii_updateCount.sh
  refine r_nil ?_
  refine r_fld ?_
  refine St.r_load0 s 0 rfl rfl ?_
  refine w.lenV ?_
  refine r_nil ?_
  refine r_fld ?_
  refine St.r_store0 s 0 rfl (by simp) rfl ?_
  intro h s
  try simp only [List.set_cons_zero, List.set_cons_succ] at s
  refine mapNode_ii_leaf_ok (a := none) (s.get (k := 0) (j := 3) rfl (by simp)) ?_
  refine r_not ?_
  refine r_if (fun e => absurd e (by decide)) (fun _ => ?_)
  exact H _ s

theorem updateCount_inner {n kb b o rb ro len : Nat} {c1 c2 iv kv : Value} {xs sp ksp : List Value} {ids : List Nat} {c : Nat → Int} (s : St h0 Z ((n, 0, [c1, c2, iv, ptr kb 0]) :: (kb, 0, [kv]) :: (rb, ro, (ids.map fun m => ptr m 0) ++ ksp) :: E) h)
    (w : Own 2 iv len b o xs sp) (wkid : Own 1 kv ids.length rb ro (ids.map fun m => ptr m 0) ksp) (hids : ids.length ≤ 4294967296)
    (hc : ∀ j (hj : j < ids.length), ∃ a1 a2 a3, (ids[j], 0, [a1, .int .i64 (c j), a2, a3]) ∈ E ++ Z) (hb : ∀ j, j ≤ ids.length → 0 ≤ (len : Int) + ((List.range j).map c).sum ∧ (len : Int) + ((List.range j).map c).sum ≤ 9223372036854775807)
    (H : ∀ h', St h0 Z ((n, 0, [c1, .int .i64 ((len : Int) + ((List.range ids.length).map c).sum), iv, ptr kb 0]) :: (kb, 0, [kv]) :: (rb, ro, (ids.map fun m => ptr m 0) ++ ksp) :: E) h' → Q (.tuple #[]) h') : mapNode_ii_updateCount.call #[ptr n 0] h Q := by
  refine mapNode_ii_updateCount.body _ _ _ ?_
  unfold mapNode_ii_updateCount.sh
  refine r_nil ?_
  refine r_fld ?_
  refine St.r_load0 s 0 rfl rfl ?_
  refine w.lenV ?_
  refine r_nil ?_
  refine r_fld ?_
  refine St.r_store0 s 0 rfl (by simp) rfl ?_
  intro h s
  try simp only [List.set_cons_zero, List.set_cons_succ] at s
  refine mapNode_ii_leaf_ok (a := some ⟨kb, 0, none⟩) (s.get (k := 0) (j := 3) rfl (by simp)) ?_
  refine r_not ?_
  refine r_if (fun _ => ?_) (fun e => absurd e (by simp))
  refine loop_intro (fun t h => ∃ j : Nat, t = [.int .i64 j] ∧ j ≤ ids.length ∧ St h0 Z ((n, 0, [c1, .int .i64 ((len : Int) + ((List.range j).map c).sum), iv, ptr kb 0]) :: (kb, 0, [kv]) :: (rb, ro, (ids.map fun m => ptr m 0) ++ ksp) :: E) h)
    (fun t _ => ids.length - (Hp.iv (t.getD 0 undef)).toNat) ⟨0, rfl, by omega, by simpa using s⟩ ?_
  rintro t h ⟨j, rfl, hj, s⟩
  unfold mapNode_ii_updateCount.l1.b
  refine r_nil ?_
  refine r_fld ?_
  refine St.r_load0 s 0 rfl rfl ?_
  refine r_nil ?_
  refine St.r_load0 s 1 rfl rfl ?_
  refine wkid.lenV ?_
  refine r_cmpI ?_
  refine r_if (fun hlt => ?_) (fun hge => ?_)
  · have hlt : j < ids.length := by simpa using hlt
    unfold mapNode_ii_updateCount.j2
    refine r_nil ?_
    refine r_fld ?_
    refine St.r_load0 s 0 rfl rfl ?_
    refine r_nil ?_
    refine r_fld ?_
    refine St.r_load0 s 0 rfl rfl ?_
    refine r_nil ?_
    refine St.r_load0 s 1 rfl rfl ?_
    refine wkid.idx (n := j) rfl hlt ?_
    refine s.r_load1 2 rfl (v := ptr ids[j] 0) (by rw [Nat.mul_one, List.getElem?_append_left (by simpa using hlt), List.getElem?_map, List.getElem?_eq_getElem hlt]; rfl) ?_
    obtain ⟨a1, a2, a3, hm⟩ := hc j hlt
    refine r_nil ?_
    refine r_fld ?_
    refine s.r_loadM (xs := [a1, .int .i64 (c j), a2, a3]) (by simp only [List.cons_append, List.mem_cons]; exact .inr (.inr (.inr hm))) rfl ?_
    refine r_add (z := (len : Int) + ((List.range (j + 1)).map c).sum) ?_ ?_
    · have := hb (j + 1) hlt
      rw [List.range_succ, List.map_append, List.sum_append] at this ⊢
      simp only [List.map_cons, List.map_nil, List.sum_cons, List.sum_nil] at this ⊢
      rw [i64w (by omega) (by omega)]; omega
    · refine r_nil ?_
      refine r_fld ?_
      refine St.r_store0 s 0 rfl (by simp) rfl ?_
      intro h s
      try simp only [List.set_cons_zero, List.set_cons_succ] at s
      unfold mapNode_ii_updateCount.j3
      refine r_add (z := ((j + 1 : Nat) : Int)) (by rw [i64w (by omega) (by omega)]; omega) ?_
      exact ⟨⟨j + 1, rfl, hlt, s⟩, by simp; omega⟩
  · have hge : j = ids.length := by simp at hge; omega
    subst hge
    exact H h s

theorem DoorUpdateCount_leaf {n b o len : Nat} {c1 c2 iv : Value} {xs sp : List Value} (s : St h0 Z ((n, 0, [c1, c2, iv, .pointer none]) :: E) h) (w : Own 2 iv len b o xs sp)
    (H : ∀ h', St h0 Z ((n, 0, [c1, .int .i64 len, iv, .pointer none]) :: E) h' → Q (.tuple #[]) h') : DoorMapNode_ii_DoorUpdateCount.call #[.agg #[ptr n 0]] h Q := by
  refine DoorMapNode_ii_DoorUpdateCount.body _ _ _ ?_
  unfold DoorMapNode_ii_DoorUpdateCount.sh
  refine St.r_box (cs := [ptr n 0]) s fun t h s => ?_
  refine r_fld ?_
  refine St.r_load0 s 0 rfl rfl ?_
  refine updateCount_leaf (s.front 1 rfl) w fun h s => ?_
  exact H h ((s.front 1 rfl).drop 1)

theorem DoorUpdateCount_inner {n kb b o rb ro len : Nat} {c1 c2 iv kv : Value} {xs sp ksp : List Value} {ids : List Nat} {c : Nat → Int} (s : St h0 Z ((n, 0, [c1, c2, iv, ptr kb 0]) :: (kb, 0, [kv]) :: (rb, ro, (ids.map fun m => ptr m 0) ++ ksp) :: E) h)
    (w : Own 2 iv len b o xs sp) (wkid : Own 1 kv ids.length rb ro (ids.map fun m => ptr m 0) ksp) (hids : ids.length ≤ 4294967296)
    (hc : ∀ j (hj : j < ids.length), ∃ a1 a2 a3, (ids[j], 0, [a1, .int .i64 (c j), a2, a3]) ∈ E ++ Z) (hb : ∀ j, j ≤ ids.length → 0 ≤ (len : Int) + ((List.range j).map c).sum ∧ (len : Int) + ((List.range j).map c).sum ≤ 9223372036854775807)
    (H : ∀ h', St h0 Z ((n, 0, [c1, .int .i64 ((len : Int) + ((List.range ids.length).map c).sum), iv, ptr kb 0]) :: (kb, 0, [kv]) :: (rb, ro, (ids.map fun m => ptr m 0) ++ ksp) :: E) h' → Q (.tuple #[]) h') : DoorMapNode_ii_DoorUpdateCount.call #[.agg #[ptr n 0]] h Q := by
  refine DoorMapNode_ii_DoorUpdateCount.body _ _ _ ?_
  unfold DoorMapNode_ii_DoorUpdateCount.sh
  refine St.r_box (cs := [ptr n 0]) s fun t h s => ?_
  refine r_fld ?_
  refine St.r_load0 s 0 rfl rfl ?_
  refine updateCount_inner (((s.front 3 rfl).front 3 rfl).front 3 rfl) w wkid hids (fun j hj => ?_) hb fun h s => ?_
  · obtain ⟨a1, a2, a3, hm⟩ := hc j hj
    exact ⟨a1, a2, a3, List.mem_cons_of_mem _ hm⟩
  · exact H h ((s.front 3 rfl).drop 1)
end Go.Proofs.Ytlihjljdndbpdaa
end
section
namespace Go.Proofs.Ytlihjljdndbpdaa
open Go.Hp
set_option linter.unusedVariables false
set_option linter.unusedSimpArgs false
variable {h0 h : Heap} {Z E : List Rg} {Q : Value → Heap → Prop}

abbrev It := Int × Int
/-- An item as the laws have it. -/
abbrev encA (p : It) : List Value := [.int .i64 p.1, .int .i64 p.2]
/-- A node as data in memory: its items and its kids. -/
def ArgT (h : Heap) : {k : Nat} → PT It k → Value → Value → Prop
  | 0, its, vi, vk => Rdl 2 h vi (its : List It).length ((its : List It).flatMap encA) ∧ ∃ a cap, vk = .slice a 0 cap
  | k + 1, t, vi, vk => Rdl 2 h vi t.1.length (t.1.flatMap encA) ∧ t.2 ≠ [] ∧ ∃ cs : List (Value × Value × Int), cs.length = t.2.length ∧ Rdl 3 h vk cs.length (cs.flatMap fun c => [c.1, c.2.1, .int .i64 c.2.2]) ∧
      ∀ j (h1 : j < t.2.length) (h2 : j < cs.length), ArgT h t.2[j] cs[j].1 cs[j].2.1
theorem ArgT.fr {h h' : Heap} (f : Fr (fun _ _ => False) h h') : ∀ {k : Nat} {x : PT It k} {vi vk : Value}, ArgT h x vi vk → ArgT h' x vi vk
  | 0, _, _, _, ⟨h1, h2⟩ => ⟨h1.fr f (fun _ _ e => e), h2⟩
  | k + 1, _, _, _, ⟨h1, h2, cs, h3, h4, h5⟩ => ⟨h1.fr f (fun _ _ e => e), h2, cs, h3, h4.fr f (fun _ _ e => e), fun j j1 j2 => ArgT.fr f (h5 j j1 j2)⟩

theorem ArgT.one {h : Heap} : ∀ {k : Nat} {x : PT It k} {vi vk : Value}, ArgT h x vi vk → one1 vi = true ∧ one1 vk = true
  | 0, _, _, _, ⟨h1, _, _, h2⟩ => ⟨h1.one, by rw [h2]; rfl⟩
  | k + 1, _, _, _, ⟨h1, h2, cs, h3, h4, h5⟩ => ⟨h1.one, h4.one⟩
theorem plant_items {t3 t5 n : Nat} {a0 t4 vi vk vc c1 c2 kp : Value} {its : List It} (hr : Rdl 2 h0 vi its.length (its.flatMap encA)) (hl : its.length ≤ 2147483647)
    (s : St h0 Z ((t5, 0, [ptr n 0]) :: (t3, 0, [vi, vk, vc]) :: (n, 0, [c1, c2, .slice none 0 0, kp]) :: E) h)
    (H : ∀ iv ib io isp h', St h0 Z ((t5, 0, [ptr n 0]) :: (t3, 0, [vi, vk, vc]) :: (n, 0, [c1, c2, iv, kp]) :: (ib, io, its.flatMap enc ++ isp) :: E) h' → Own 2 iv its.length ib io (its.flatMap enc) isp → i_plantedMap.j2 a0 (ptr t3 0) t4 (ptr t5 0) h' Q) :
    i_plantedMap.j1 a0 (ptr t3 0) t4 (ptr t5 0) h Q := by
  unfold i_plantedMap.j1
  refine r_fld ?_
  refine St.r_load0 s 1 rfl rfl ?_
  refine (hr.st s).lenV ?_
  refine loop_intro (fun t h => ∃ j : Nat, t = [.int .i64 j] ∧ j ≤ its.length ∧ ∃ iv ib io isp, St h0 Z ((t5, 0, [ptr n 0]) :: (t3, 0, [vi, vk, vc]) :: (n, 0, [c1, c2, iv, kp]) :: (ib, io, (its.take j).flatMap enc ++ isp) :: E) h ∧ Own 2 iv j ib io ((its.take j).flatMap enc) isp)
    (fun t _ => its.length - (Hp.iv (t.getD 0 undef)).toNat) ⟨0, rfl, by omega, _, 0, 0, [], (s.empty 0 0).perm (by ((apply perm_rg; intro f; simp only [List.set_cons_zero, List.set_cons_succ, List.eraseIdx_cons_zero, List.eraseIdx_cons_succ, List.cons_append, List.nil_append, List.map_append, List.map_cons, List.map_nil, List.sum_append, List.sum_cons, List.sum_nil, List.map_flatMap, Nat.add_zero, Nat.zero_add]; ac_rfl))), Own.nil 2 0 0⟩ ?_
  rintro t h ⟨j, rfl, hj, iv, ib, io, isp, s, w⟩
  unfold i_plantedMap.l7.b
  refine r_cmpI ?_
  refine r_if (fun hlt => ?_) (fun hge => ?_)
  · have hlt : j < its.length := by simpa using hlt
    unfold i_plantedMap.j8
    refine (hr.st s).at rfl (fun _ => rfl) rfl rfl hlt fun b o hb => ?_
    refine hb.loadN rfl ?_
    refine s.r_alloc fun t7 h s => ?_
    refine St.r_storeN0 s 0 rfl rfl (by simp) (by simp [one1]) ?_
    intro h s
    try simp only [List.set_cons_zero, List.set_cons_succ] at s
    refine St.r_loadN0 s 1 rfl (by simp) ?_
    refine r_fld ?_
    refine St.r_load0 s 0 rfl rfl ?_
    refine r_fld ?_
    refine St.r_load0 s 0 rfl rfl ?_
    refine DoorItem_ok ((s.front 4 rfl).front 4 rfl) w (by omega) fun iv' b' o' sp' h s w' => ?_
    unfold i_plantedMap.j9
    refine r_add (z := ((j + 1 : Nat) : Int)) (by rw [i64w (by omega) (by omega)]; omega) ?_
    have ht : (its.take (j + 1)).flatMap enc = (its.take j).flatMap enc ++ enc its[j] := by
      rw [List.take_succ_eq_append_getElem hlt, List.flatMap_append]; simp
    refine ⟨⟨j + 1, rfl, hlt, iv', b', o', sp', ?_, by rw [ht]; exact w'⟩, by simp; omega⟩
    rw [ht]
    exact (s.perm (E' := (t7, 0, encA its[j]) :: (t5, 0, [ptr n 0]) :: (t3, 0, [vi, vk, vc]) :: (n, 0, [c1, c2, iv', kp]) :: (b', o', ((its.take j).flatMap enc ++ enc its[j]) ++ sp') :: E) (by ((apply perm_rg; intro f; simp only [List.set_cons_zero, List.set_cons_succ, List.eraseIdx_cons_zero, List.eraseIdx_cons_succ, List.cons_append, List.nil_append, List.map_append, List.map_cons, List.map_nil, List.sum_append, List.sum_cons, List.sum_nil, List.map_flatMap, Nat.add_zero, Nat.zero_add]; ac_rfl)))).drop 1
  · have hge : j = its.length := by simp at hge; omega
    subst hge
    rw [List.take_length] at s w
    exact H _ _ _ _ h s w

theorem i_plantedMap_ok : ∀ {k : Nat} (x : PT It k) {h : Heap} {tb : Nat} {iso : Int} {vi vk vc : Value} {Q : Value → Heap → Prop}, cl h tb 0 = some (.int .u64 iso) → ArgT h x vi vk → x.Sh 2147483647 → x.items.length ≤ 4611686018427387903 → one1 vc = true →
    (∀ (t : GT It k) h', t.pt = x → t.Wf enc 2 iso → t.Cn → t.Mine → St h [] (t.rgs enc true) h' → Q (.agg #[ptr t.id 0]) h') → i_plantedMap.call #[ptr tb 0, .agg #[vi, vk, vc]] h Q
  | 0, its, h, tb, iso, vi, vk, vc, Q, hi, ⟨hr, ⟨a, cap, hvk⟩⟩, hsh, hsz, hvc, H => by
    subst hvk
    refine i_plantedMap.body _ _ _ _ ?_
    unfold i_plantedMap.sh
    have s := St.start h
    refine St.r_box (cs := [vi, .slice a 0 cap, vc]) s fun t3 h s => ?_
    refine s.r_alloc fun t4 h s => ?_
    refine Map_ii_DoorLeaf_ok (s.base hi) fun n h s1 => ?_
    have s := s.join s1
    refine s.r_alloc fun t5 h s => ?_
    refine St.r_storeN0 s 0 rfl rfl (by simp) (by simp [one1]) ?_; intro h s
    refine r_fld ?_
    refine St.r_load0 s 3 rfl rfl ?_
    refine r_len ?_
    refine r_cmpI ?_
    refine r_if (fun e => absurd e (by decide)) (fun _ => ?_)
    refine plant_items (E := [(t4, 0, [.pointer none])]) (vi := vi) (vk := .slice a 0 cap) (vc := vc) (c1 := .int .u64 iso) (c2 := .int .i64 0) (kp := .pointer none) (n := n) hr (Nat.le_trans hsh (by decide)) (s.perm (by ((apply perm_rg; intro f; simp only [List.set_cons_zero, List.set_cons_succ, List.eraseIdx_cons_zero, List.eraseIdx_cons_succ, List.cons_append, List.nil_append, List.map_append, List.map_cons, List.map_nil, List.sum_append, List.sum_cons, List.sum_nil, List.map_flatMap, Nat.add_zero, Nat.zero_add]; ac_rfl)))) fun iv ib io isp h s w => ?_
    unfold i_plantedMap.j2
    refine r_fld ?_
    refine St.r_load0 s 1 rfl rfl ?_
    refine r_len ?_
    refine loop_intro (fun t h' => t = [.int .i64 0] ∧ h' = h) (fun _ _ => 0) ⟨rfl, rfl⟩ ?_
    rintro _ _ ⟨rfl, rfl⟩
    unfold i_plantedMap.l4.b
    refine r_cmpI ?_
    refine r_if (fun e => absurd e (by decide)) (fun _ => ?_)
    unfold i_plantedMap.j3
    refine St.r_loadN0 s 0 rfl (by simp) ?_
    refine DoorUpdateCount_leaf (s.front 2 rfl) w fun h s => ?_
    refine St.r_loadN0 s 1 rfl (by simp) ?_
    refine St.r_storeN0 s 4 rfl rfl (by simp) (by simp [one1]) ?_; intro h s
    refine St.r_loadN0 s 4 rfl (by simp) ?_
    refine H (⟨true, n, iso, (its : List It).length, its, iv, ib, io, isp, 0, .slice none 0 0, 0, 0, []⟩ : Nd It) h rfl ⟨w, by simp⟩ rfl rfl ?_
    exact (s.perm (E' := (t5, 0, [ptr n 0]) :: (t3, 0, [vi, .slice a 0 cap, vc]) :: (t4, 0, [ptr n 0]) :: (n, 0, [.int .u64 iso, .int .i64 (its : List It).length, iv, .pointer none]) :: (ib, io, (its : List It).flatMap enc ++ isp) :: []) (by ((apply perm_rg; intro f; simp only [List.set_cons_zero, List.set_cons_succ, List.eraseIdx_cons_zero, List.eraseIdx_cons_succ, List.cons_append, List.nil_append, List.map_append, List.map_cons, List.map_nil, List.sum_append, List.sum_cons, List.sum_nil, List.map_flatMap, Nat.add_zero, Nat.zero_add]; ac_rfl)))).drop 3
  | k + 1, x, h, tb, iso, vi, vk, vc, Q, hi, ⟨hr, hne, cs, hcl, hrk, hks⟩, hsh, hsz, hvc, H => by
    have hkl : x.2.length ≠ 0 := fun e => hne (List.length_eq_zero_iff.1 e)
    refine i_plantedMap.body _ _ _ _ ?_
    unfold i_plantedMap.sh
    have s := St.start h
    refine St.r_box (cs := [vi, vk, vc]) s fun t3 h s => ?_
    refine s.r_alloc fun t4 h s => ?_
    refine Map_ii_DoorLeaf_ok (s.base hi) fun n0 h s1 => ?_
    have s := s.join s1
    refine s.r_alloc fun t5 h s => ?_
    refine St.r_storeN0 s 0 rfl rfl (by simp) (by simp [one1]) ?_; intro h s
    refine r_fld ?_
    refine St.r_load0 s 3 rfl rfl ?_
    refine (hrk.st s).lenV ?_
    refine r_cmpI ?_
    refine r_if (fun _ => ?_) (fun e => absurd (of_decide_eq_false e) (by omega))
    refine Map_ii_DoorInner_ok (s.base hi) fun n kb h s1 => ?_
    have s := s.join s1
    refine St.r_storeN0 s 2 rfl rfl (by simp) (by simp [one1]) ?_; intro h s
    refine plant_items (its := x.1) (E := [(t4, 0, [.pointer none]), (kb, 0, [.slice none 0 0])]) (vi := vi) (vk := vk) (vc := vc) (c1 := .int .u64 iso) (c2 := .int .i64 0) (kp := ptr kb 0) (n := n) hr (Nat.le_trans hsh.1 (by decide))
      ((s.perm (E' := (n0, 0, [.int .u64 iso, .int .i64 0, .slice none 0 0, .pointer none]) :: (t5, 0, [ptr n 0]) :: (t3, 0, [vi, vk, vc]) :: (n, 0, [.int .u64 iso, .int .i64 0, .slice none 0 0, ptr kb 0]) :: [(t4, 0, [.pointer none]), (kb, 0, [.slice none 0 0])]) (by ((apply perm_rg; intro f; simp only [List.set_cons_zero, List.set_cons_succ, List.eraseIdx_cons_zero, List.eraseIdx_cons_succ, List.cons_append, List.nil_append, List.map_append, List.map_cons, List.map_nil, List.sum_append, List.sum_cons, List.sum_nil, List.map_flatMap, Nat.add_zero, Nat.zero_add]; ac_rfl)))).drop 1) fun iv ib io isp h s w => ?_
    unfold i_plantedMap.j2
    refine r_fld ?_
    refine St.r_load0 s 1 rfl rfl ?_
    refine (hrk.st s).lenV ?_
    refine loop_intro (fun t h' => ∃ j : Nat, t = [.int .i64 j] ∧ j ≤ x.2.length ∧ ∃ (ts : List (GT It k)) (kv : Value) (rb ro : Nat) (ksp : List Value), ts.map GT.pt = x.2.take j ∧ (∀ t, t ∈ ts → t.Wf enc 2 iso ∧ t.Cn ∧ t.Mine) ∧ Own 1 kv j rb ro ((ts.map GT.id).map fun m => ptr m 0) ksp ∧
        St _ [] ((t5, 0, [ptr n 0]) :: (t3, 0, [vi, vk, vc]) :: (t4, 0, [.pointer none]) :: (n, 0, [.int .u64 iso, .int .i64 0, iv, ptr kb 0]) :: (ib, io, x.1.flatMap enc ++ isp) :: (kb, 0, [kv]) :: (rb, ro, ((ts.map GT.id).map fun m => ptr m 0) ++ ksp) :: ts.flatMap (GT.rgs enc true)) h')
      (fun t _ => x.2.length - (Hp.iv (t.getD 0 undef)).toNat) ⟨0, rfl, by omega, [], .slice none 0 0, 0, 0, [], rfl, (fun t ht => absurd ht List.not_mem_nil), Own.nil 1 0 0, (s.empty 0 0).perm (by ((apply perm_rg; intro f; simp only [List.set_cons_zero, List.set_cons_succ, List.eraseIdx_cons_zero, List.eraseIdx_cons_succ, List.cons_append, List.nil_append, List.map_append, List.map_cons, List.map_nil, List.sum_append, List.sum_cons, List.sum_nil, List.map_flatMap, Nat.add_zero, Nat.zero_add]; ac_rfl)))⟩ ?_
    rintro t h ⟨j, rfl, hj, ts, kv, rb, ro, ksp, hts, hw, wkk, s⟩
    have htl : ts.length = j := by have := congrArg List.length hts; simp at this; omega
    unfold i_plantedMap.l4.b
    refine r_cmpI ?_
    refine r_if (fun hlt => ?_) (fun hge => ?_)
    · have hlt : j < x.2.length := by simp at hlt; omega
      unfold i_plantedMap.j5
      refine (hrk.st s).at (n := j) rfl (fun _ => rfl) rfl rfl (by omega) fun b o hb => ?_
      refine hb.loadN rfl ?_
      refine s.r_alloc fun t9 h s => ?_
      have hak := hks j hlt (by omega)
      refine St.r_storeN0 s 0 rfl rfl (by simp) (by simp [hak.one]; rfl) ?_; intro h s
      refine St.r_loadN0 s 1 rfl (by simp) ?_
      refine St.r_loadN0 s 0 rfl (by simp) ?_
      refine i_plantedMap_ok x.2[j] (s.base hi) (hak.fr s.fr) (hsh.2.2 _ (List.getElem_mem hlt)) ?_ rfl fun t h ht1 ht2 ht3 ht4 s1 => ?_
      · have h1 : x.items.length = x.1.length + ((x.2.map PT.items).map List.length).sum := inter_length _ _
        have h2 : (x.2[j].items).length ≤ ((x.2.map PT.items).map List.length).sum := mem_le_sum (by
          rw [List.map_map]; exact List.mem_map.2 ⟨x.2[j], List.getElem_mem hlt, rfl⟩)
        omega
      have s := (s.join s1).perm List.perm_append_comm
      refine ⟨St.r_stillN0 s 1 rfl (by simp) rfl, ?_⟩
      refine DoorAppend_ok (((s.front 7 rfl).front 7 rfl).front 6 rfl) wkk (by have := hsh.1; have := hsh.2.1; omega) fun kv' b' o' sp' h s w' => ?_
      unfold i_plantedMap.j6
      refine r_add (z := ((j + 1 : Nat) : Int)) (by have := hsh.1; have := hsh.2.1; rw [i64w (by omega) (by omega)]; omega) ?_
      refine ⟨⟨j + 1, rfl, hlt, ts ++ [t], kv', b', o', sp', ?_, fun t' ht' => ?_, ?_, ?_⟩, by simp; omega⟩
      · rw [List.map_append, hts, List.take_succ_eq_append_getElem hlt, List.map_cons, ht1]; rfl
      · rcases List.mem_append.1 ht' with e | e
        · exact hw t' e
        · rw [List.mem_singleton.1 e]; exact ⟨ht2, ht3, ht4⟩
      · rw [List.map_append, List.map_append]; exact w'
      · refine (s.perm (E' := (t9, 0, [cs[j].1, cs[j].2.1, .int .i64 cs[j].2.2]) :: _) ?_).drop 1
        rw [List.map_append, List.map_append, List.flatMap_append, List.flatMap_cons, List.flatMap_nil, List.append_nil]
        ((apply perm_rg; intro f; simp only [List.set_cons_zero, List.set_cons_succ, List.eraseIdx_cons_zero, List.eraseIdx_cons_succ, List.cons_append, List.nil_append, List.map_append, List.map_cons, List.map_nil, List.sum_append, List.sum_cons, List.sum_nil, List.map_flatMap, Nat.add_zero, Nat.zero_add]; ac_rfl))
    · have hge : j = x.2.length := by simp at hge; omega
      subst hge
      rw [List.take_length] at hts
      unfold i_plantedMap.j3
      refine St.r_loadN0 s 0 rfl (by simp) ?_
      have hsum : ∀ i, i ≤ ts.length → ((List.range i).map fun j => (ts.map fun t => t.nd.cnt)[j]?.getD 0).sum = ((((ts.map fun t => t.pt.items).map List.length).take i).sum : Nat) := fun i hi => by
        rw [sum_range _ i (by simpa using hi), ← List.map_take, GT.Cn.sum (fun t ht => (hw t (List.mem_of_mem_take ht)).2.1), ← List.map_take, ← List.map_take]
      have hit : x.items.length = x.1.length + ((ts.map fun t => t.pt.items).map List.length).sum := by
        have h1 : x.items.length = x.1.length + ((x.2.map PT.items).map List.length).sum := inter_length _ _
        rw [h1, ← hts, List.map_map, List.map_map, List.map_map]; rfl
      have hxl : ts.length ≤ 2147483648 := by have := hsh.1; have := hsh.2.1; omega
      refine DoorUpdateCount_inner (c := fun j => (ts.map fun t => t.nd.cnt)[j]?.getD 0) (ids := ts.map GT.id) (((s.front 6 rfl).front 6 rfl).front 5 rfl) w (by simpa [htl] using wkk) (by simp; omega) (fun i hi => ?_) (fun i hi => ?_) fun h s => ?_
      · have hi' : i < ts.length := by simpa using hi
        obtain ⟨a1, a2, a3, hm⟩ := GT.top (enc := enc) (hw ts[i] (List.getElem_mem hi')).2.2.nd
        refine ⟨a1, a2, a3, ?_⟩
        simp only [List.getElem_map, List.getElem?_map, List.getElem?_eq_getElem hi', Option.map_some, Option.getD_some]
        refine List.mem_append.2 (.inl ?_)
        refine List.mem_cons_of_mem _ (List.mem_cons_of_mem _ (List.mem_cons_of_mem _ (List.mem_cons_of_mem _ ?_)))
        exact List.mem_flatMap.2 ⟨ts[i], List.getElem_mem hi', hm⟩
      · rw [hsum i (by simpa using hi)]
        have := sum_take_le ((ts.map fun t => t.pt.items).map List.length) i
        omega
      · rw [show (ts.map GT.id).length = ts.length by simp, hsum _ (Nat.le_refl _), List.take_of_length_le (by simp)] at s
        refine St.r_loadN0 s 3 rfl (by simp) ?_
        refine St.r_storeN0 s 5 rfl rfl (by simp) (by simp [one1]) ?_; intro h s
        refine St.r_loadN0 s 5 rfl (by simp) ?_
        have hpt : GT.pt (h := k + 1) ((⟨true, n, iso, (x.1.length : Int) + (((ts.map fun t => t.pt.items).map List.length).sum : Nat), x.1, iv, ib, io, isp, kb, kv, rb, ro, ksp⟩ : Nd It), ts) = x := by
          show (x.1, ts.map GT.pt) = x
          rw [hts]; rfl
        refine H ((⟨true, n, iso, (x.1.length : Int) + (((ts.map fun t => t.pt.items).map List.length).sum : Nat), x.1, iv, ib, io, isp, kb, kv, rb, ro, ksp⟩ : Nd It), ts) h hpt ⟨⟨w, by simp⟩, by rw [htl]; exact wkk, by rw [htl]; exact hsh.2.1, fun t ht => ⟨(hw t ht).1, fun e => by simp at e⟩⟩ ⟨by rw [hpt, hit, Int.natCast_add], fun t ht => (hw t ht).2.1⟩ ⟨rfl, fun t ht => (hw t ht).2.2⟩ ?_
        refine (s.perm (E' := (t5, 0, [ptr n 0]) :: (t3, 0, [vi, vk, vc]) :: (t4, 0, [ptr n 0]) :: _) ?_).drop 3
        unfold GT.rgs Nd.inner
        simp only [if_true]
        ((apply perm_rg; intro f; simp only [List.set_cons_zero, List.set_cons_succ, List.eraseIdx_cons_zero, List.eraseIdx_cons_succ, List.cons_append, List.nil_append, List.map_append, List.map_cons, List.map_nil, List.sum_append, List.sum_cons, List.sum_nil, List.map_flatMap, Nat.add_zero, Nat.zero_add]; ac_rfl))
end Go.Proofs.Ytlihjljdndbpdaa
end
section
namespace Go.Proofs.Ytlihjljdndbpdaa
open Go.Hp
set_option maxRecDepth 100000
set_option maxHeartbeats 8000000
set_option linter.unusedVariables false
set_option linter.unusedSimpArgs false

/-! ### (*pub/tidwallbtree.Map[int, int]).copy -/
def Map_ii_copy.j2 (s5 : Value) (h : Heap) (Q : Value → Heap → Prop) : Prop :=
    Q s5 h
def Map_ii_copy.j1 (s0 : Value) (s1 : Value) (s5 : Value) (h : Heap) (Q : Value → Heap → Prop) : Prop :=
    mapNode_ii_leaf.call #[s1] h fun t109 h =>
    notV t109 fun t110 =>
    ifV t110
    (alloc [(.slice none 0 0)] 194 h fun t112 h =>
    nilck s5 fun t113 =>
    fld 3 t113 fun t114 =>
    store1 t114 t112 h fun h =>
    nilck s5 fun t116 =>
    fld 3 t116 fun t117 =>
    load1 t117 h fun t118 =>
    nilck s1 fun t120 =>
    fld 3 t120 fun t121 =>
    load1 t121 h fun t122 =>
    nilck t122 fun t123 =>
    load1 t123 h fun t124 =>
    lenV t124 fun t125 =>
    nilck s0 fun t127 =>
    fld 7 t127 fun t128 =>
    load1 t128 h fun t129 =>
    arith (· + ·) t129 (.int .i64 1) fun t130 =>
    mks 173 1 8 [(.pointer none)] t125 t130 h fun t131 h =>
    still1 t117 t118 h ∧ nilck t118 fun t132 =>
    store1 t132 t131 h fun h =>
    nilck s5 fun t134 =>
    fld 3 t134 fun t135 =>
    load1 t135 h fun t136 =>
    nilck t136 fun t137 =>
    load1 t137 h fun t138 =>
    nilck s1 fun t140 =>
    fld 3 t140 fun t141 =>
    load1 t141 h fun t142 =>
    nilck t142 fun t143 =>
    load1 t143 h fun t144 =>
    cpy 1 t138 t144 h fun t145 h =>
    Map_ii_copy.j2 s5 h Q)
    (Map_ii_copy.j2 s5 h Q)
def Map_ii_copy.j5 (s0 : Value) (s1 : Value) (s5 : Value) (s6 : Value) (h : Heap) (K1 : List Value → Heap → Prop) (Q : Value → Heap → Prop) : Prop :=
    arith (· + ·) s6 (.int .i64 1) fun t58 =>
    K1 [t58] h
def Map_ii_copy.j4 (s0 : Value) (s1 : Value) (s5 : Value) (s6 : Value) (h : Heap) (K1 : List Value → Heap → Prop) (Q : Value → Heap → Prop) : Prop :=
    nilck s5 fun t60 =>
    fld 2 t60 fun t61 =>
    load1 t61 h fun t62 =>
    nilck s5 fun t65 =>
    fld 2 t65 fun t66 =>
    load1 t66 h fun t67 =>
    idx 2 t67 s6 fun t69 =>
    fld 0 t69 fun t70 =>
    load1 t70 h fun t71 =>
    False
def Map_ii_copy.l3.b (c0 : Value) (c1 : Value) (c5 : Value) (s6 : Value) (h : Heap) (K1 : List Value → Heap → Prop) (Q : Value → Heap → Prop) : Prop :=
    nilck c5 fun t52 =>
    fld 2 t52 fun t53 =>
    load1 t53 h fun t54 =>
    lenV t54 fun t55 =>
    cmpI (fun a b => decide (a < b)) s6 t55 fun t56 =>
    ifV t56
    (Map_ii_copy.j4 c0 c1 c5 s6 h K1 Q)
    (Map_ii_copy.j1 c0 c1 c5 h Q)
def Map_ii_copy.j8 (s0 : Value) (s1 : Value) (s5 : Value) (s7 : Value) (h : Heap) (K1 : List Value → Heap → Prop) (Q : Value → Heap → Prop) : Prop :=
    arith (· + ·) s7 (.int .i64 1) fun t89 =>
    K1 [t89] h
def Map_ii_copy.j7 (s0 : Value) (s1 : Value) (s5 : Value) (s7 : Value) (h : Heap) (K1 : List Value → Heap → Prop) (Q : Value → Heap → Prop) : Prop :=
    nilck s5 fun t91 =>
    fld 2 t91 fun t92 =>
    load1 t92 h fun t93 =>
    nilck s5 fun t96 =>
    fld 2 t96 fun t97 =>
    load1 t97 h fun t98 =>
    idx 2 t98 s7 fun t100 =>
    fld 0 t100 fun t101 =>
    load1 t101 h fun t102 =>
    False
def Map_ii_copy.l6.b (c0 : Value) (c1 : Value) (c5 : Value) (s7 : Value) (h : Heap) (K1 : List Value → Heap → Prop) (Q : Value → Heap → Prop) : Prop :=
    nilck c5 fun t83 =>
    fld 2 t83 fun t84 =>
    load1 t84 h fun t85 =>
    lenV t85 fun t86 =>
    cmpI (fun a b => decide (a < b)) s7 t86 fun t87 =>
    ifV t87
    (Map_ii_copy.j7 c0 c1 c5 s7 h K1 Q)
    (Map_ii_copy.j1 c0 c1 c5 h Q)
def Map_ii_copy.sh (a0 : Value) (a1 : Value) (h : Heap) (Q : Value → Heap → Prop) : Prop :=
    alloc [(.int .u64 0), (.int .i64 0), (.slice none 0 0), (.pointer none)] 188 h fun t8 h =>
    nilck a0 fun t11 =>
    fld 0 t11 fun t12 =>
    load1 t12 h fun t13 =>
    nilck t8 fun t14 =>
    fld 0 t14 fun t15 =>
    store1 t15 t13 h fun h =>
    nilck a1 fun t18 =>
    fld 1 t18 fun t19 =>
    load1 t19 h fun t20 =>
    nilck t8 fun t21 =>
    fld 1 t21 fun t22 =>
    store1 t22 t20 h fun h =>
    nilck a1 fun t25 =>
    fld 2 t25 fun t26 =>
    load1 t26 h fun t27 =>
    lenV t27 fun t28 =>
    nilck a1 fun t30 =>
    fld 2 t30 fun t31 =>
    load1 t31 h fun t32 =>
    capV t32 fun t33 =>
    mks 178 2 16 [(.int .i64 0), (.int .i64 0)] t28 t33 h fun t34 h =>
    nilck t8 fun t35 =>
    fld 2 t35 fun t36 =>
    store1 t36 t34 h fun h =>
    nilck t8 fun t38 =>
    fld 2 t38 fun t39 =>
    load1 t39 h fun t40 =>
    nilck a1 fun t42 =>
    fld 2 t42 fun t43 =>
    load1 t43 h fun t44 =>
    cpy 2 t40 t44 h fun t45 h =>
    nilck a0 fun t47 =>
    fld 8 t47 fun t48 =>
    load1 t48 h fun t49 =>
    ifV t49
    (loopC (fun c s h K1 => Map_ii_copy.l3.b (c.getD 0 undef) (c.getD 1 undef) (c.getD 2 undef) (s.getD 0 undef) h K1 Q) [a0, a1, t8] [(.int .i64 0)] h)
    (nilck a0 fun t78 =>
    fld 9 t78 fun t79 =>
    load1 t79 h fun t80 =>
    ifV t80
    (loopC (fun c s h K1 => Map_ii_copy.l6.b (c.getD 0 undef) (c.getD 1 undef) (c.getD 2 undef) (s.getD 0 undef) h K1 Q) [a0, a1, t8] [(.int .i64 0)] h)
    (Map_ii_copy.j1 a0 a1 t8 h Q))
theorem Map_ii_copy.body (a0 : Value) (a1 : Value) (h : Heap) (Q : Value → Heap → Prop) (H : Map_ii_copy.sh a0 a1 h Q) : Map_ii_copy.call #[a0, a1] h Q := by
  refine callsH_of (args := [a0, a1]) Try.func166 rfl rfl ?_
  unfold Map_ii_copy.sh at H
  refine WPc_seq' ?_
  refine W_region (by kernel_rfl) ?_
  refine vl_n ?_
  refine H_of_R (R_assign (v := (.pointer none)) rfl ?_)
  refine vl_e ?_
  refine WPc_seq' ?_
  refine W_region (by kernel_rfl) ?_
  refine vl_n ?_
  refine H_alloc TV_188 H fun t8 h H => ?_
  refine vl_n ?_
  refine H_of_R (R_assign (v := t8) rfl ?_)
  refine vl_e ?_
  refine WPc_seq' ?_
  refine W_region (by kernel_rfl) ?_
  refine vl_n ?_
  refine H_of_R (R_move (v := t8) rfl ?_)
  refine vl_n ?_
  refine H_of_R (R_move (v := a0) rfl ?_)
  refine vl_n ?_
  refine H_of_R (R_nil H fun t11 H => ?_)
  refine vl_n ?_
  refine H_of_R (R_fld TF_182_0 H fun t12 H => ?_)
  refine vl_n ?_
  refine H_of_R (R_load1 T1_179 H fun _ t13 _ _ H => ?_)
  refine vl_n ?_
  refine H_of_R (R_nil H fun t14 H => ?_)
  refine vl_n ?_
  refine H_of_R (R_fld TF_188_0 H fun t15 H => ?_)
  refine vl_n ?_
  refine H_store1 TS_179 H fun h H => ?_
  refine vl_e ?_
  refine WPc_seq' ?_
  refine W_region (by kernel_rfl) ?_
  refine vl_n ?_
  refine H_of_R (R_move (v := t8) rfl ?_)
  refine vl_n ?_
  refine H_of_R (R_move (v := a1) rfl ?_)
  refine vl_n ?_
  refine H_of_R (R_nil H fun t18 H => ?_)
  refine vl_n ?_
  refine H_of_R (R_fld TF_188_1 H fun t19 H => ?_)
  refine vl_n ?_
  refine H_of_R (R_load1 T1_3 H fun _ t20 _ _ H => ?_)
  refine vl_n ?_
  refine H_of_R (R_nil H fun t21 H => ?_)
  refine vl_n ?_
  refine H_of_R (R_fld TF_188_1 H fun t22 H => ?_)
  refine vl_n ?_
  refine H_store1 TS_3 H fun h H => ?_
  refine vl_e ?_
  refine WPc_seq' ?_
  refine W_drawn [0, 0, 2, 6, 14, 30, 0, 64, 192, 448, 960, 2046, 4095, 8191, 16383] (.take 0 (.take 1 (.take 2 (.take 3 (.take 4 (.take 5 (.take 6 (.take 7 (.take 8 (.take 9 (.take 10 (.alt 11 (.take 12 (.take 13 (.alt 14 .done .none))) .none)))))))))))) mixed (by kernel_rfl) ?_
  refine tkP rfl ?_
  refine R_move (v := t8) rfl ⟨fun _ => trivial, ?_⟩
  refine tkP rfl ?_
  refine R_move (v := a1) rfl ⟨fun _ => trivial, ?_⟩
  refine tkP rfl ?_
  refine R_nil H fun t25 H => ⟨fun _ => trivial, ?_⟩
  refine tkP rfl ?_
  refine R_fld TF_188_2 H fun t26 H => ⟨fun _ => trivial, ?_⟩
  refine tkL rfl ?_
  refine R_load1 T1_185 H fun at27 t27 hat27 _ H => ?_
  refine tkP rfl ?_
  refine R_len Try.underlying185 H fun t28 H => ⟨fun _ => trivial, ?_⟩
  refine tkP rfl ?_
  refine R_move (v := a1) rfl ⟨fun _ => trivial, ?_⟩
  refine tkP rfl ?_
  refine R_nil H fun t30 H => ⟨fun _ => trivial, ?_⟩
  refine tkP rfl ?_
  refine R_fld TF_188_2 H fun t31 H => ⟨fun _ => trivial, ?_⟩
  refine tkL rfl ?_
  refine R_load1 T1_185 H fun at32 t32 hat32 _ H => ?_
  refine tkP rfl ?_
  refine R_cap Try.underlying185 H fun t33 H => ⟨fun _ => trivial, ?_⟩
  refine alt_n rfl ?_ vp_none
  refine H_mks TZ_185 rfl H fun t34 h H => ⟨(hskip rfl (hskip rfl hnil)), ?_⟩
  refine tkP rfl ?_
  refine R_nil H fun t35 H => ⟨fun _ => trivial, ?_⟩
  refine tkP rfl ?_
  refine R_fld TF_188_2 H fun t36 H => ⟨fun _ => trivial, ?_⟩
  refine alt_n rfl ?_ vp_none
  refine H_store1 TS_185 H fun h H => ⟨hnil, ?_⟩
  refine vp_done ?_
  refine WPc_seq' ?_
  refine W_drawn [0, 1, 3, 7, 0, 16, 48, 112, 255] (.take 0 (.take 1 (.take 2 (.take 3 (.take 4 (.take 5 (.take 6 (.take 7 (.alt 8 .done .none))))))))) mixed (by kernel_rfl) ?_
  refine tkP rfl ?_
  refine R_move (v := t8) rfl ⟨fun _ => trivial, ?_⟩
  refine tkP rfl ?_
  refine R_nil H fun t38 H => ⟨fun _ => trivial, ?_⟩
  refine tkP rfl ?_
  refine R_fld TF_188_2 H fun t39 H => ⟨fun _ => trivial, ?_⟩
  refine tkL rfl ?_
  refine R_load1 T1_185 H fun at40 t40 hat40 _ H => ?_
  refine tkP rfl ?_
  refine R_move (v := a1) rfl ⟨fun _ => trivial, ?_⟩
  refine tkP rfl ?_
  refine R_nil H fun t42 H => ⟨fun _ => trivial, ?_⟩
  refine tkP rfl ?_
  refine R_fld TF_188_2 H fun t43 H => ⟨fun _ => trivial, ?_⟩
  refine tkL rfl ?_
  refine R_load1 T1_185 H fun at44 t44 hat44 _ H => ?_
  refine alt_n rfl ?_ vp_none
  refine H_cpy TE_185 H fun t45 h H => ⟨(hskip rfl (hskip rfl hnil)), ?_⟩
  refine vp_done ?_
  refine WPc_seq (fun e h => Map_ii_copy.j1 (e 0) (e 1) (e 5) h Q) ?_ (fun e h H => ?_)
  rotate_left
  · unfold Map_ii_copy.j1 at H
    refine WPc_seq (fun e h => Map_ii_copy.j2 (e 5) h Q) ?_ (fun e h H => ?_)
    rotate_left
    · unfold Map_ii_copy.j2 at H
      refine WPc_seq' ?_
      refine W_region (by kernel_rfl) ?_
      refine vl_n ?_
      refine H_of_R (R_move (v := (e 5)) rfl ?_)
      refine vl_n ?_
      refine H_of_R (R_assign (v := (e 5)) rfl ?_)
      refine vl_e ?_
      refine WPc_ret ?_
      refine resH_of rfl ?_
      exact H
    refine WPc_seq' ?_
    refine W_region (by kernel_rfl) ?_
    refine vl_n ?_
    refine H_of_R (R_move (v := (e 1)) rfl ?_)
    refine vl_n ?_
    refine H_call HB_126 H fun t109 h H => ?_
    refine vl_n ?_
    refine H_of_R (R_not H fun t110 H => ?_)
    refine vl_e ?_
    obtain ⟨b, hc, H1, H2⟩ := H
    refine WPc_cond hc (fun hh => ?_) (fun hh => ?_)
    · have H := H1 hh; clear H1 H2
      refine WPc_seq' ?_
      refine W_region (by kernel_rfl) ?_
      refine vl_n ?_
      refine H_of_R (R_move (v := (e 5)) rfl ?_)
      refine vl_n ?_
      refine H_alloc TV_194 H fun t112 h H => ?_
      refine vl_n ?_
      refine H_of_R (R_nil H fun t113 H => ?_)
      refine vl_n ?_
      refine H_of_R (R_fld TF_188_3 H fun t114 H => ?_)
      refine vl_n ?_
      refine H_store1 TS_186 H fun h H => ?_
      refine vl_e ?_
      refine WPc_seq' ?_
      refine W_drawn [0, 1, 3, 7, 0, 16, 48, 112, 240, 496, 1008, 0, 2048, 6144, 14336, 30720, 65520, 131071, 262143] (.take 0 (.take 1 (.take 2 (.take 3 (.take 4 (.take 5 (.take 6 (.take 7 (.take 8 (.take 9 (.take 10 (.take 11 (.take 12 (.take 13 (.take 14 (.take 15 (.alt 16 (.take 17 (.alt 18 .done .none)) .none))))))))))))))))) mixed (by kernel_rfl) ?_
      refine tkP rfl ?_
      refine R_move (v := (e 5)) rfl ⟨fun _ => trivial, ?_⟩
      refine tkP rfl ?_
      refine R_nil H fun t116 H => ⟨fun _ => trivial, ?_⟩
      refine tkP rfl ?_
      refine R_fld TF_188_3 H fun t117 H => ⟨fun _ => trivial, ?_⟩
      refine tkL rfl ?_
      refine R_load1 T1_186 H fun at118 t118 hat118 _ H => ?_
      refine tkP rfl ?_
      refine R_move (v := (e 1)) rfl ⟨fun _ => trivial, ?_⟩
      refine tkP rfl ?_
      refine R_nil H fun t120 H => ⟨fun _ => trivial, ?_⟩
      refine tkP rfl ?_
      refine R_fld TF_188_3 H fun t121 H => ⟨fun _ => trivial, ?_⟩
      refine tkL rfl ?_
      refine R_load1 T1_186 H fun at122 t122 hat122 _ H => ?_
      refine tkP rfl ?_
      refine R_nil H fun t123 H => ⟨fun _ => trivial, ?_⟩
      refine tkL rfl ?_
      refine R_load1 T1_194 H fun at124 t124 hat124 _ H => ?_
      refine tkP rfl ?_
      refine R_len Try.underlying194 H fun t125 H => ⟨fun _ => trivial, ?_⟩
      refine tkP rfl ?_
      refine R_move (v := (e 0)) rfl ⟨fun _ => trivial, ?_⟩
      refine tkP rfl ?_
      refine R_nil H fun t127 H => ⟨fun _ => trivial, ?_⟩
      refine tkP rfl ?_
      refine R_fld TF_182_6 H fun t128 H => ⟨fun _ => trivial, ?_⟩
      refine tkL rfl ?_
      refine R_load1 T1_3 H fun at129 t129 hat129 _ H => ?_
      refine tkP rfl ?_
      refine R_add H fun t130 H => ⟨fun _ => trivial, ?_⟩
      refine alt_n rfl ?_ vp_none
      refine H_mks TZ_194 rfl H fun t131 h ⟨S, H⟩ => ⟨(hskip rfl (hskip rfl (hskip rfl (hcons rfl (still_1 S hat118) hnil)))), ?_⟩
      refine tkP rfl ?_
      refine R_nil H fun t132 H => ⟨fun _ => trivial, ?_⟩
      refine alt_n rfl ?_ vp_none
      refine H_store1 TS_194 H fun h H => ⟨(hskip rfl hnil), ?_⟩
      refine vp_done ?_
      refine W_drawn [0, 1, 3, 7, 15, 31, 0, 64, 192, 448, 960, 1984, 4095] (.take 0 (.take 1 (.take 2 (.take 3 (.take 4 (.take 5 (.take 6 (.take 7 (.take 8 (.take 9 (.take 10 (.take 11 (.alt 12 .done .none))))))))))))) mixed (by kernel_rfl) ?_
      refine tkP rfl ?_
      refine R_move (v := (e 5)) rfl ⟨fun _ => trivial, ?_⟩
      refine tkP rfl ?_
      refine R_nil H fun t134 H => ⟨fun _ => trivial, ?_⟩
      refine tkP rfl ?_
      refine R_fld TF_188_3 H fun t135 H => ⟨fun _ => trivial, ?_⟩
      refine tkL rfl ?_
      refine R_load1 T1_186 H fun at136 t136 hat136 _ H => ?_
      refine tkP rfl ?_
      refine R_nil H fun t137 H => ⟨fun _ => trivial, ?_⟩
      refine tkL rfl ?_
      refine R_load1 T1_194 H fun at138 t138 hat138 _ H => ?_
      refine tkP rfl ?_
      refine R_move (v := (e 1)) rfl ⟨fun _ => trivial, ?_⟩
      refine tkP rfl ?_
      refine R_nil H fun t140 H => ⟨fun _ => trivial, ?_⟩
      refine tkP rfl ?_
      refine R_fld TF_188_3 H fun t141 H => ⟨fun _ => trivial, ?_⟩
      refine tkL rfl ?_
      refine R_load1 T1_186 H fun at142 t142 hat142 _ H => ?_
      refine tkP rfl ?_
      refine R_nil H fun t143 H => ⟨fun _ => trivial, ?_⟩
      refine tkL rfl ?_
      refine R_load1 T1_194 H fun at144 t144 hat144 _ H => ?_
      refine alt_n rfl ?_ vp_none
      refine H_cpy TE_194 H fun t145 h H => ⟨(hskip rfl (hskip rfl (hskip rfl (hskip rfl hnil)))), ?_⟩
      refine vp_done ?_
      exact H
    · have H := H2 hh; clear H1 H2
      refine WPc_skip ?_
      exact H
  refine WPc_seq' ?_
  refine W_region (by kernel_rfl) ?_
  refine vl_n ?_
  refine H_of_R (R_move (v := a0) rfl ?_)
  refine vl_n ?_
  refine H_of_R (R_nil H fun t47 H => ?_)
  refine vl_n ?_
  refine H_of_R (R_fld TF_182_7 H fun t48 H => ?_)
  refine vl_n ?_
  refine H_of_R (R_load1 T1_4 H fun _ t49 _ _ H => ?_)
  refine vl_e ?_
  obtain ⟨b, hc, H1, H2⟩ := H
  refine WPc_cond hc (fun hh => ?_) (fun hh => ?_)
  · have H := H1 hh; clear H1 H2
    refine WPc_seq' ?_
    refine W_region (by kernel_rfl) ?_
    refine vl_n ?_
    refine H_of_R (R_assign (v := (.int .i64 0)) rfl ?_)
    refine vl_e ?_
    refine WPc_block ?_
    refine loop_at (fun e => [e 6]) (fun e => [e 0, e 1, e 5]) H rfl rfl ?_
    intro K1 e1 h H hin1
    replace H : Map_ii_copy.l3.b (e1 0) (e1 1) (e1 5) (e1 6) h K1 Q := H
    unfold Map_ii_copy.l3.b at H
    clear hin1
    refine WPc_seq (fun e h => Map_ii_copy.j4 (e 0) (e 1) (e 5) (e 6) h K1 Q ∧ [e1 0, e1 1, e1 5] = [e 0, e 1, e 5]) ?_ (fun e h ⟨H, hq1⟩ => ?_)
    rotate_left
    · unfold Map_ii_copy.j4 at H
      refine WPc_seq (fun e h => Map_ii_copy.j5 (e 0) (e 1) (e 5) (e 6) h K1 Q ∧ [e1 0, e1 1, e1 5] = [e 0, e 1, e 5]) ?_ (fun e h ⟨H, hq1⟩ => ?_)
      rotate_left
      · unfold Map_ii_copy.j5 at H
        refine W_region (by kernel_rfl) ?_
        refine vl_n ?_
        refine H_of_R (R_move (v := (e 6)) rfl ?_)
        refine vl_n ?_
        refine H_of_R (R_add H fun t58 H => ?_)
        refine vl_n ?_
        refine H_of_R (R_assign (v := t58) rfl ?_)
        refine vl_e ?_
        exact ⟨H, hq1⟩
      refine WPc_block ?_
      refine W_drawn [0, 1, 3, 7, 0, 0, 32, 96, 224, 0, 992, 2016, 4064, 8160, 16352, 32736, 65535, 131071, 262143] (.take 0 (.take 1 (.take 2 (.take 3 (.take 4 (.take 5 (.take 6 (.take 7 (.take 8 (.take 9 (.take 10 (.take 11 (.take 12 (.take 13 (.take 14 (.alt 15 (.take 16 (.take 17 (.alt 18 .done .none))) .none)))))))))))))))) mixed (by kernel_rfl) ?_
      refine tkP rfl ?_
      refine R_move (v := (e 5)) rfl ⟨fun _ => trivial, ?_⟩
      refine tkP rfl ?_
      refine R_nil H fun t60 H => ⟨fun _ => trivial, ?_⟩
      refine tkP rfl ?_
      refine R_fld TF_188_2 H fun t61 H => ⟨fun _ => trivial, ?_⟩
      refine tkL rfl ?_
      refine R_load1 T1_185 H fun at62 t62 hat62 _ H => ?_
      refine tkP rfl ?_
      refine R_move (v := (e 6)) rfl ⟨fun _ => trivial, ?_⟩
      refine tkP rfl ?_
      refine R_move (v := (e 5)) rfl ⟨fun _ => trivial, ?_⟩
      refine tkP rfl ?_
      refine R_nil H fun t65 H => ⟨fun _ => trivial, ?_⟩
      refine tkP rfl ?_
      refine R_fld TF_188_2 H fun t66 H => ⟨fun _ => trivial, ?_⟩
      refine tkL rfl ?_
      refine R_load1 T1_185 H fun at67 t67 hat67 _ H => ?_
      refine tkP rfl ?_
      refine R_move (v := (e 6)) rfl ⟨fun _ => trivial, ?_⟩
      refine tkP rfl ?_
      refine R_idx TE_185 H fun t69 H => ⟨fun _ => trivial, ?_⟩
      refine tkP rfl ?_
      refine R_fld TF_178_0 H fun t70 H => ⟨fun _ => trivial, ?_⟩
      refine tkL rfl ?_
      refine R_load1 T1_3 H fun at71 t71 hat71 _ H => ?_
      refine tkP rfl ?_
      refine R_mkI Try.underlying3 (by intro k hk; cases hk) ⟨fun _ => trivial, ?_⟩
      exact H.elim
    refine WPc_seq' ?_
    refine W_region (by kernel_rfl) ?_
    refine vl_n ?_
    refine H_of_R (R_move (v := (e1 6)) rfl ?_)
    refine vl_n ?_
    refine H_of_R (R_move (v := (e1 5)) rfl ?_)
    refine vl_n ?_
    refine H_of_R (R_nil H fun t52 H => ?_)
    refine vl_n ?_
    refine H_of_R (R_fld TF_188_2 H fun t53 H => ?_)
    refine vl_n ?_
    refine H_of_R (R_load1 T1_185 H fun _ t54 _ _ H => ?_)
    refine vl_n ?_
    refine H_of_R (R_len Try.underlying185 H fun t55 H => ?_)
    refine vl_n ?_
    refine H_of_R (R_lss H fun t56 H => ?_)
    refine vl_e ?_
    obtain ⟨b, hc, H1, H2⟩ := H
    refine WPc_cond hc (fun hh => ?_) (fun hh => ?_)
    · have H := H1 hh; clear H1 H2
      refine WPc_skip ?_
      exact ⟨H, rfl⟩
    · have H := H2 hh; clear H1 H2
      refine WPc_exit ?_
      exact H
  · have H := H2 hh; clear H1 H2
    refine WPc_seq' ?_
    refine W_region (by kernel_rfl) ?_
    refine vl_n ?_
    refine H_of_R (R_move (v := a0) rfl ?_)
    refine vl_n ?_
    refine H_of_R (R_nil H fun t78 H => ?_)
    refine vl_n ?_
    refine H_of_R (R_fld TF_182_8 H fun t79 H => ?_)
    refine vl_n ?_
    refine H_of_R (R_load1 T1_4 H fun _ t80 _ _ H => ?_)
    refine vl_e ?_
    obtain ⟨b_2, hc_2, H1, H2⟩ := H
    refine WPc_cond hc_2 (fun hh => ?_) (fun hh => ?_)
    · have H := H1 hh; clear H1 H2
      refine WPc_seq' ?_
      refine W_region (by kernel_rfl) ?_
      refine vl_n ?_
      refine H_of_R (R_assign (v := (.int .i64 0)) rfl ?_)
      refine vl_e ?_
      refine WPc_block ?_
      refine loop_at (fun e => [e 7]) (fun e => [e 0, e 1, e 5]) H rfl rfl ?_
      intro K1 e1 h H hin1
      replace H : Map_ii_copy.l6.b (e1 0) (e1 1) (e1 5) (e1 7) h K1 Q := H
      unfold Map_ii_copy.l6.b at H
      clear hin1
      refine WPc_seq (fun e h => Map_ii_copy.j7 (e 0) (e 1) (e 5) (e 7) h K1 Q ∧ [e1 0, e1 1, e1 5] = [e 0, e 1, e 5]) ?_ (fun e h ⟨H, hq1⟩ => ?_)
      rotate_left
      · unfold Map_ii_copy.j7 at H
        refine WPc_seq (fun e h => Map_ii_copy.j8 (e 0) (e 1) (e 5) (e 7) h K1 Q ∧ [e1 0, e1 1, e1 5] = [e 0, e 1, e 5]) ?_ (fun e h ⟨H, hq1⟩ => ?_)
        rotate_left
        · unfold Map_ii_copy.j8 at H
          refine W_region (by kernel_rfl) ?_
          refine vl_n ?_
          refine H_of_R (R_move (v := (e 7)) rfl ?_)
          refine vl_n ?_
          refine H_of_R (R_add H fun t89 H => ?_)
          refine vl_n ?_
          refine H_of_R (R_assign (v := t89) rfl ?_)
          refine vl_e ?_
          exact ⟨H, hq1⟩
        refine WPc_block ?_
        refine W_drawn [0, 1, 3, 7, 0, 0, 32, 96, 224, 0, 992, 2016, 4064, 8160, 16352, 32736, 65535, 131071, 262143] (.take 0 (.take 1 (.take 2 (.take 3 (.take 4 (.take 5 (.take 6 (.take 7 (.take 8 (.take 9 (.take 10 (.take 11 (.take 12 (.take 13 (.take 14 (.alt 15 (.take 16 (.take 17 (.alt 18 .done .none))) .none)))))))))))))))) mixed (by kernel_rfl) ?_
        refine tkP rfl ?_
        refine R_move (v := (e 5)) rfl ⟨fun _ => trivial, ?_⟩
        refine tkP rfl ?_
        refine R_nil H fun t91 H => ⟨fun _ => trivial, ?_⟩
        refine tkP rfl ?_
        refine R_fld TF_188_2 H fun t92 H => ⟨fun _ => trivial, ?_⟩
        refine tkL rfl ?_
        refine R_load1 T1_185 H fun at93 t93 hat93 _ H => ?_
        refine tkP rfl ?_
        refine R_move (v := (e 7)) rfl ⟨fun _ => trivial, ?_⟩
        refine tkP rfl ?_
        refine R_move (v := (e 5)) rfl ⟨fun _ => trivial, ?_⟩
        refine tkP rfl ?_
        refine R_nil H fun t96 H => ⟨fun _ => trivial, ?_⟩
        refine tkP rfl ?_
        refine R_fld TF_188_2 H fun t97 H => ⟨fun _ => trivial, ?_⟩
        refine tkL rfl ?_
        refine R_load1 T1_185 H fun at98 t98 hat98 _ H => ?_
        refine tkP rfl ?_
        refine R_move (v := (e 7)) rfl ⟨fun _ => trivial, ?_⟩
        refine tkP rfl ?_
        refine R_idx TE_185 H fun t100 H => ⟨fun _ => trivial, ?_⟩
        refine tkP rfl ?_
        refine R_fld TF_178_0 H fun t101 H => ⟨fun _ => trivial, ?_⟩
        refine tkL rfl ?_
        refine R_load1 T1_3 H fun at102 t102 hat102 _ H => ?_
        refine tkP rfl ?_
        refine R_mkI Try.underlying3 (by intro k hk; cases hk) ⟨fun _ => trivial, ?_⟩
        exact H.elim
      refine WPc_seq' ?_
      refine W_region (by kernel_rfl) ?_
      refine vl_n ?_
      refine H_of_R (R_move (v := (e1 7)) rfl ?_)
      refine vl_n ?_
      refine H_of_R (R_move (v := (e1 5)) rfl ?_)
      refine vl_n ?_
      refine H_of_R (R_nil H fun t83 H => ?_)
      refine vl_n ?_
      refine H_of_R (R_fld TF_188_2 H fun t84 H => ?_)
      refine vl_n ?_
      refine H_of_R (R_load1 T1_185 H fun _ t85 _ _ H => ?_)
      refine vl_n ?_
      refine H_of_R (R_len Try.underlying185 H fun t86 H => ?_)
      refine vl_n ?_
      refine H_of_R (R_lss H fun t87 H => ?_)
      refine vl_e ?_
      obtain ⟨b, hc, H1, H2⟩ := H
      refine WPc_cond hc (fun hh => ?_) (fun hh => ?_)
      · have H := H1 hh; clear H1 H2
        refine WPc_skip ?_
        exact ⟨H, rfl⟩
      · have H := H2 hh; clear H1 H2
        refine WPc_exit ?_
        exact H
    · have H := H2 hh; clear H1 H2
      refine WPc_skip ?_
      exact H
/-! ### (*pub/tidwallbtree.Map[int, int]).isoLoad -/
def Map_ii_isoLoad.j1 (s1 : Value) (h : Heap) (Q : Value → Heap → Prop) : Prop :=
    nilck s1 fun t29 =>
    load1 t29 h fun t30 =>
    Q t30 h
def Map_ii_isoLoad.sh (a0 : Value) (a1 : Value) (a2 : Value) (h : Heap) (Q : Value → Heap → Prop) : Prop :=
    br a2 true (nilck a1 fun t10 =>
    load1 t10 h fun t11 =>
    nilck t11 fun t12 =>
    fld 0 t12 fun t13 =>
    load1 t13 h fun t14 =>
    nilck a0 fun t16 =>
    fld 0 t16 fun t17 =>
    load1 t17 h fun t18 =>
    cmpI (fun a b => a != b) t14 t18 fun t19 =>
    ifV t19
    (nilck a1 fun t24 =>
    load1 t24 h fun t25 =>
    Map_ii_copy.call #[a0, t25] h fun t26 h =>
    nilck a1 fun t27 =>
    store1 t27 t26 h fun h =>
    Map_ii_isoLoad.j1 a1 h Q)
    (Map_ii_isoLoad.j1 a1 h Q)) (Map_ii_isoLoad.j1 a1 h Q)
theorem Map_ii_isoLoad.body (a0 : Value) (a1 : Value) (a2 : Value) (h : Heap) (Q : Value → Heap → Prop) (H : Map_ii_isoLoad.sh a0 a1 a2 h Q) : Map_ii_isoLoad.call #[a0, a1, a2] h Q := by
  refine callsH_of (args := [a0, a1, a2]) Try.func125 rfl rfl ?_
  unfold Map_ii_isoLoad.sh at H
  refine WPc_seq' ?_
  refine W_region (by kernel_rfl) ?_
  refine vl_n ?_
  refine H_of_R (R_assign (v := (.pointer none)) rfl ?_)
  refine vl_e ?_
  refine WPc_seq (fun e h => Map_ii_isoLoad.j1 (e 1) h Q) ?_ (fun e h H => ?_)
  rotate_left
  · unfold Map_ii_isoLoad.j1 at H
    refine WPc_seq' ?_
    refine W_region (by kernel_rfl) ?_
    refine vl_n ?_
    refine H_of_R (R_move (v := (e 1)) rfl ?_)
    refine vl_n ?_
    refine H_of_R (R_nil H fun t29 H => ?_)
    refine vl_n ?_
    refine H_of_R (R_load1 T1_173 H fun _ t30 _ _ H => ?_)
    refine vl_n ?_
    refine H_of_R (R_assign (v := t30) rfl ?_)
    refine vl_e ?_
    refine WPc_ret ?_
    refine resH_of rfl ?_
    exact H
  refine WPc_seq' ?_
  refine W_drawn [0, 1, 3, 7, 15, 31, 63, 127, 3, 259, 771, 1795, 4095, 8191] (.take 0 (.take 1 (.take 2 (.take 3 (.take 4 (.take 5 (.take 6 (.take 7 (.take 8 (.take 9 (.take 10 (.take 11 (.take 12 (.take 13 .done)))))))))))))) mixed (by kernel_rfl) ?_
  refine tkP rfl ?_
  refine R_move (v := a2) rfl ⟨fun _ => trivial, ?_⟩
  refine tkP rfl ?_
  refine R_move (v := a2) rfl ⟨fun _ => trivial, ?_⟩
  obtain ⟨b, hb, H1, H2⟩ := H
  cases b
  · have H := H2 rfl; clear H1 H2
    refine tk_s rfl rfl (nbT hb) ?_
    refine tk_s rfl rfl (nbT hb) ?_
    refine tk_s rfl rfl (nbT hb) ?_
    refine tk_s rfl rfl (nbT hb) ?_
    refine tk_s rfl rfl (nbT hb) ?_
    refine tk_s rfl rfl (nbT hb) ?_
    refine tk_s rfl rfl (nbT hb) ?_
    refine tk_s rfl rfl (nbT hb) ?_
    refine tk_s rfl rfl (nbT hb) ?_
    refine tk_s rfl rfl (nbT hb) ?_
    refine tk_s rfl rfl (nbT hb) ?_
    refine tkP rfl ?_
    refine R_pickC (v := (.bool false)) false hb rfl ⟨fun _ => trivial, ?_⟩
    refine vp_done ?_
    refine WPc_cond (t := false) rfl (fun hh => by cases hh) (fun _ => ?_)
    refine WPc_skip ?_
    exact H
  · have H := H1 rfl; clear H1 H2
    refine tkPy rfl rfl hb ?_
    refine R_move (v := a1) rfl ⟨fun _ => trivial, ?_⟩
    refine tkPy rfl rfl hb ?_
    refine R_nil H fun t10 H => ⟨fun _ => trivial, ?_⟩
    refine tkLy rfl rfl hb ?_
    refine R_load1 T1_173 H fun at11 t11 hat11 _ H => ?_
    refine tkPy rfl rfl hb ?_
    refine R_nil H fun t12 H => ⟨fun _ => trivial, ?_⟩
    refine tkPy rfl rfl hb ?_
    refine R_fld TF_188_0 H fun t13 H => ⟨fun _ => trivial, ?_⟩
    refine tkLy rfl rfl hb ?_
    refine R_load1 T1_179 H fun at14 t14 hat14 _ H => ?_
    refine tkPy rfl rfl hb ?_
    refine R_move (v := a0) rfl ⟨fun _ => trivial, ?_⟩
    refine tkPy rfl rfl hb ?_
    refine R_nil H fun t16 H => ⟨fun _ => trivial, ?_⟩
    refine tkPy rfl rfl hb ?_
    refine R_fld TF_182_0 H fun t17 H => ⟨fun _ => trivial, ?_⟩
    refine tkLy rfl rfl hb ?_
    refine R_load1 T1_179 H fun at18 t18 hat18 _ H => ?_
    refine tkPy rfl rfl hb ?_
    refine R_neI H fun t19 H => ⟨fun _ => trivial, ?_⟩
    refine tkP rfl ?_
    refine R_pickC (v := t19) true hb rfl ⟨fun _ => trivial, ?_⟩
    refine vp_done ?_
    obtain ⟨b_2, hc, H1, H2⟩ := H
    refine WPc_cond hc (fun hh => ?_) (fun hh => ?_)
    · have H := H1 hh; clear H1 H2
      refine W_region (by kernel_rfl) ?_
      refine vl_n ?_
      refine H_of_R (R_move (v := a1) rfl ?_)
      refine vl_n ?_
      refine H_of_R (R_move (v := a0) rfl ?_)
      refine vl_n ?_
      refine H_of_R (R_move (v := a1) rfl ?_)
      refine vl_n ?_
      refine H_of_R (R_nil H fun t24 H => ?_)
      refine vl_n ?_
      refine H_of_R (R_load1 T1_173 H fun _ t25 _ _ H => ?_)
      refine vl_n ?_
      refine H_call HB_166 H fun t26 h H => ?_
      refine vl_n ?_
      refine H_of_R (R_nil H fun t27 H => ?_)
      refine vl_n ?_
      refine H_store1 TS_173 H fun h H => ?_
      refine vl_e ?_
      exact H
    · have H := H2 hh; clear H1 H2
      refine WPc_skip ?_
      exact H

end Go.Proofs.Ytlihjljdndbpdaa
end
section
namespace Go.Proofs.Ytlihjljdndbpdaa
open Go.Hp
set_option maxRecDepth 100000
set_option maxHeartbeats 8000000
set_option linter.unusedVariables false
set_option linter.unusedSimpArgs false

/-! ### (*pub/tidwallbtree.Map[int, int]).nodeKeyValues -/
def Map_ii_nodeKeyValues.j2 (s0 : Value) (s2 : Value) (s3 : Value) (s4 : Value) (s12 : Value) (h : Heap) (Q : Value → Heap → Prop) : Prop :=
    nilck s12 fun t103 =>
    fld 3 t103 fun t104 =>
    load1 t104 h fun t105 =>
    nilck t105 fun t106 =>
    load1 t106 h fun t107 =>
    nilck s12 fun t109 =>
    fld 3 t109 fun t110 =>
    load1 t110 h fun t111 =>
    nilck t111 fun t112 =>
    load1 t112 h fun t113 =>
    lenV t113 fun t114 =>
    arith (· - ·) t114 (.int .i64 1) fun t115 =>
    idx 1 t107 t115 fun t116 =>
    Map_ii_nodeKeyValues.call #[s0, t116, s2, s3, s4] h fun t120 h =>
    extr 0 t120 fun t121 =>
    extr 1 t120 fun t122 =>
    Q (.tuple #[t121, t122]) h
def Map_ii_nodeKeyValues.j5 (s0 : Value) (s2 : Value) (s3 : Value) (s4 : Value) (s12 : Value) (s14 : Value) (h : Heap) (K1 : List Value → Heap → Prop) (Q : Value → Heap → Prop) : Prop :=
    arith (· + ·) s14 (.int .i64 1) fun t62 =>
    K1 [s2, s3, t62] h
def Map_ii_nodeKeyValues.j4 (s0 : Value) (s2 : Value) (s3 : Value) (s4 : Value) (s12 : Value) (s14 : Value) (h : Heap) (K1 : List Value → Heap → Prop) (Q : Value → Heap → Prop) : Prop :=
    nilck s12 fun t66 =>
    fld 3 t66 fun t67 =>
    load1 t67 h fun t68 =>
    nilck t68 fun t69 =>
    load1 t69 h fun t70 =>
    idx 1 t70 s14 fun t72 =>
    Map_ii_nodeKeyValues.call #[s0, t72, s2, s3, s4] h fun t76 h =>
    extr 0 t76 fun t77 =>
    extr 1 t76 fun t78 =>
    nilck s12 fun t81 =>
    fld 2 t81 fun t82 =>
    load1 t82 h fun t83 =>
    idx 2 t83 s14 fun t85 =>
    fld 1 t85 fun t86 =>
    load1 t86 h fun t87 =>
    mkSl (if 1 * 1 = 0 then [] else zeros [(.int .i64 0)] 1) 1 [(0 * 1, 1, t87)] 3 h fun t88 h =>
    app 3 1 8 [(.int .i64 0)] t77 t88 h fun t89 h =>
    nilck s12 fun t92 =>
    fld 2 t92 fun t93 =>
    load1 t93 h fun t94 =>
    idx 2 t94 s14 fun t96 =>
    fld 0 t96 fun t97 =>
    load1 t97 h fun t98 =>
    mkSl (if 1 * 1 = 0 then [] else zeros [(.int .i64 0)] 1) 1 [(0 * 1, 1, t98)] 3 h fun t99 h =>
    app 3 1 8 [(.int .i64 0)] t78 t99 h fun t100 h =>
    Map_ii_nodeKeyValues.j5 s0 t89 t100 s4 s12 s14 h K1 Q
def Map_ii_nodeKeyValues.l3.b (c0 : Value) (c4 : Value) (c12 : Value) (s2 : Value) (s3 : Value) (s14 : Value) (h : Heap) (K1 : List Value → Heap → Prop) (Q : Value → Heap → Prop) : Prop :=
    nilck c12 fun t56 =>
    fld 2 t56 fun t57 =>
    load1 t57 h fun t58 =>
    lenV t58 fun t59 =>
    cmpI (fun a b => decide (a < b)) s14 t59 fun t60 =>
    ifV t60
    (Map_ii_nodeKeyValues.j4 c0 s2 s3 c4 c12 s14 h K1 Q)
    (Map_ii_nodeKeyValues.j2 c0 s2 s3 c4 c12 h Q)
def Map_ii_nodeKeyValues.j1 (s0 : Value) (s2 : Value) (s3 : Value) (s4 : Value) (s12 : Value) (h : Heap) (Q : Value → Heap → Prop) : Prop :=
    loopC (fun c s h K1 => Map_ii_nodeKeyValues.l3.b (c.getD 0 undef) (c.getD 1 undef) (c.getD 2 undef) (s.getD 0 undef) (s.getD 1 undef) (s.getD 2 undef) h K1 Q) [s0, s4, s12] [s2, s3, (.int .i64 0)] h
def Map_ii_nodeKeyValues.j6 (s2 : Value) (s3 : Value) (h : Heap) (Q : Value → Heap → Prop) : Prop :=
    Q (.tuple #[s2, s3]) h
def Map_ii_nodeKeyValues.j9 (s2 : Value) (s3 : Value) (s12 : Value) (s13 : Value) (h : Heap) (K1 : List Value → Heap → Prop) (Q : Value → Heap → Prop) : Prop :=
    arith (· + ·) s13 (.int .i64 1) fun t29 =>
    K1 [s2, s3, t29] h
def Map_ii_nodeKeyValues.j8 (s2 : Value) (s3 : Value) (s12 : Value) (s13 : Value) (h : Heap) (K1 : List Value → Heap → Prop) (Q : Value → Heap → Prop) : Prop :=
    nilck s12 fun t32 =>
    fld 2 t32 fun t33 =>
    load1 t33 h fun t34 =>
    idx 2 t34 s13 fun t36 =>
    fld 1 t36 fun t37 =>
    load1 t37 h fun t38 =>
    mkSl (if 1 * 1 = 0 then [] else zeros [(.int .i64 0)] 1) 1 [(0 * 1, 1, t38)] 3 h fun t39 h =>
    app 3 1 8 [(.int .i64 0)] s2 t39 h fun t40 h =>
    nilck s12 fun t43 =>
    fld 2 t43 fun t44 =>
    load1 t44 h fun t45 =>
    idx 2 t45 s13 fun t47 =>
    fld 0 t47 fun t48 =>
    load1 t48 h fun t49 =>
    mkSl (if 1 * 1 = 0 then [] else zeros [(.int .i64 0)] 1) 1 [(0 * 1, 1, t49)] 3 h fun t50 h =>
    app 3 1 8 [(.int .i64 0)] s3 t50 h fun t51 h =>
    Map_ii_nodeKeyValues.j9 t40 t51 s12 s13 h K1 Q
def Map_ii_nodeKeyValues.l7.b (c12 : Value) (s2 : Value) (s3 : Value) (s13 : Value) (h : Heap) (K1 : List Value → Heap → Prop) (Q : Value → Heap → Prop) : Prop :=
    nilck c12 fun t23 =>
    fld 2 t23 fun t24 =>
    load1 t24 h fun t25 =>
    lenV t25 fun t26 =>
    cmpI (fun a b => decide (a < b)) s13 t26 fun t27 =>
    ifV t27
    (Map_ii_nodeKeyValues.j8 s2 s3 c12 s13 h K1 Q)
    (Map_ii_nodeKeyValues.j6 s2 s3 h Q)
def Map_ii_nodeKeyValues.sh (a0 : Value) (a1 : Value) (a2 : Value) (a3 : Value) (a4 : Value) (h : Heap) (Q : Value → Heap → Prop) : Prop :=
    Map_ii_isoLoad.call #[a0, a1, a4] h fun t18 h =>
    mapNode_ii_leaf.call #[t18] h fun t20 h =>
    ifV t20
    (loopC (fun c s h K1 => Map_ii_nodeKeyValues.l7.b (c.getD 0 undef) (s.getD 0 undef) (s.getD 1 undef) (s.getD 2 undef) h K1 Q) [t18] [a2, a3, (.int .i64 0)] h)
    (Map_ii_nodeKeyValues.j1 a0 a2 a3 a4 t18 h Q)
theorem Map_ii_nodeKeyValues.body (a0 : Value) (a1 : Value) (a2 : Value) (a3 : Value) (a4 : Value) (h : Heap) (Q : Value → Heap → Prop) (H : Map_ii_nodeKeyValues.sh a0 a1 a2 a3 a4 h Q) : Map_ii_nodeKeyValues.call #[a0, a1, a2, a3, a4] h Q := by
  refine callsH_of (args := [a0, a1, a2, a3, a4]) Try.func193 rfl rfl ?_
  unfold Map_ii_nodeKeyValues.sh at H
  refine WPc_seq' ?_
  refine W_region (by kernel_rfl) ?_
  refine vl_n ?_
  refine H_of_R (R_assign (v := (.slice none 0 0)) rfl ?_)
  refine vl_n ?_
  refine H_of_R (R_assign (v := (.slice none 0 0)) rfl ?_)
  refine vl_e ?_
  refine WPc_seq' ?_
  refine W_region (by kernel_rfl) ?_
  refine vl_n ?_
  refine H_of_R (R_move (v := a0) rfl ?_)
  refine vl_n ?_
  refine H_of_R (R_move (v := a1) rfl ?_)
  refine vl_n ?_
  refine H_of_R (R_move (v := a4) rfl ?_)
  refine vl_n ?_
  refine H_call HB_125 H fun t18 h H => ?_
  refine vl_n ?_
  refine H_of_R (R_assign (v := t18) rfl ?_)
  refine vl_e ?_
  refine WPc_seq (fun e h => Map_ii_nodeKeyValues.j1 (e 0) (e 2) (e 3) (e 4) (e 12) h Q) ?_ (fun e h H => ?_)
  rotate_left
  · unfold Map_ii_nodeKeyValues.j1 at H
    refine WPc_seq (fun e h => Map_ii_nodeKeyValues.j2 (e 0) (e 2) (e 3) (e 4) (e 12) h Q) ?_ (fun e h H => ?_)
    rotate_left
    · unfold Map_ii_nodeKeyValues.j2 at H
      refine WPc_seq' ?_
      refine W_drawn [0, 0, 2, 6, 14, 30, 62, 0, 128, 384, 896, 1920, 3968, 8064, 16256, 32766, 0, 0, 0, 524287, 1048575, 1048575, 4194303, 8388607] (.take 0 (.take 1 (.take 2 (.take 3 (.take 4 (.take 5 (.take 6 (.take 7 (.take 8 (.take 9 (.take 10 (.take 11 (.take 12 (.take 13 (.take 14 (.take 15 (.take 16 (.take 17 (.take 18 (.alt 19 (.take 20 (.take 21 (.take 22 (.take 23 .done)))) .none)))))))))))))))))))) mixed (by kernel_rfl) ?_
      refine tkP rfl ?_
      refine R_move (v := (e 0)) rfl ⟨fun _ => trivial, ?_⟩
      refine tkP rfl ?_
      refine R_move (v := (e 12)) rfl ⟨fun _ => trivial, ?_⟩
      refine tkP rfl ?_
      refine R_nil H fun t103 H => ⟨fun _ => trivial, ?_⟩
      refine tkP rfl ?_
      refine R_fld TF_188_3 H fun t104 H => ⟨fun _ => trivial, ?_⟩
      refine tkL rfl ?_
      refine R_load1 T1_186 H fun at105 t105 hat105 _ H => ?_
      refine tkP rfl ?_
      refine R_nil H fun t106 H => ⟨fun _ => trivial, ?_⟩
      refine tkL rfl ?_
      refine R_load1 T1_194 H fun at107 t107 hat107 _ H => ?_
      refine tkP rfl ?_
      refine R_move (v := (e 12)) rfl ⟨fun _ => trivial, ?_⟩
      refine tkP rfl ?_
      refine R_nil H fun t109 H => ⟨fun _ => trivial, ?_⟩
      refine tkP rfl ?_
      refine R_fld TF_188_3 H fun t110 H => ⟨fun _ => trivial, ?_⟩
      refine tkL rfl ?_
      refine R_load1 T1_186 H fun at111 t111 hat111 _ H => ?_
      refine tkP rfl ?_
      refine R_nil H fun t112 H => ⟨fun _ => trivial, ?_⟩
      refine tkL rfl ?_
      refine R_load1 T1_194 H fun at113 t113 hat113 _ H => ?_
      refine tkP rfl ?_
      refine R_len Try.underlying194 H fun t114 H => ⟨fun _ => trivial, ?_⟩
      refine tkP rfl ?_
      refine R_sub H fun t115 H => ⟨fun _ => trivial, ?_⟩
      refine tkP rfl ?_
      refine R_idx TE_194 H fun t116 H => ⟨fun _ => trivial, ?_⟩
      refine tkP rfl ?_
      refine R_move (v := (e 2)) rfl ⟨fun _ => trivial, ?_⟩
      refine tkP rfl ?_
      refine R_move (v := (e 3)) rfl ⟨fun _ => trivial, ?_⟩
      refine tkP rfl ?_
      refine R_move (v := (e 4)) rfl ⟨fun _ => trivial, ?_⟩
      refine alt_n rfl ?_ vp_none
      refine H_call HB_193 H fun t120 h H => ⟨(hskip rfl (hskip rfl (hskip rfl (hskip rfl hnil)))), ?_⟩
      refine tkP rfl ?_
      refine R_ext H fun t121 H => ⟨fun _ => trivial, ?_⟩
      refine tkP rfl ?_
      refine R_ext H fun t122 H => ⟨fun _ => trivial, ?_⟩
      refine tkP rfl ?_
      refine R_assign (v := t121) rfl ⟨fun _ => trivial, ?_⟩
      refine tkP rfl ?_
      refine R_assign (v := t122) rfl ⟨fun _ => trivial, ?_⟩
      refine vp_done ?_
      refine WPc_ret ?_
      refine resH_of rfl ?_
      exact H
    refine WPc_seq' ?_
    refine W_region (by kernel_rfl) ?_
    refine vl_n ?_
    refine H_of_R (R_assign (v := (.int .i64 0)) rfl ?_)
    refine vl_e ?_
    refine WPc_block ?_
    refine loop_at (fun e => [e 2, e 3, e 14]) (fun e => [e 0, e 4, e 12]) H rfl rfl ?_
    intro K1 e1 h H hin1
    replace H : Map_ii_nodeKeyValues.l3.b (e1 0) (e1 4) (e1 12) (e1 2) (e1 3) (e1 14) h K1 Q := H
    unfold Map_ii_nodeKeyValues.l3.b at H
    clear hin1
    refine WPc_seq (fun e h => Map_ii_nodeKeyValues.j4 (e 0) (e 2) (e 3) (e 4) (e 12) (e 14) h K1 Q ∧ [e1 0, e1 4, e1 12] = [e 0, e 4, e 12]) ?_ (fun e h ⟨H, hq1⟩ => ?_)
    rotate_left
    · unfold Map_ii_nodeKeyValues.j4 at H
      refine WPc_seq (fun e h => Map_ii_nodeKeyValues.j5 (e 0) (e 2) (e 3) (e 4) (e 12) (e 14) h K1 Q ∧ [e1 0, e1 4, e1 12] = [e 0, e 4, e 12]) ?_ (fun e h ⟨H, hq1⟩ => ?_)
      rotate_left
      · unfold Map_ii_nodeKeyValues.j5 at H
        refine W_region (by kernel_rfl) ?_
        refine vl_n ?_
        refine H_of_R (R_move (v := (e 14)) rfl ?_)
        refine vl_n ?_
        refine H_of_R (R_add H fun t62 H => ?_)
        refine vl_n ?_
        refine H_of_R (R_assign (v := t62) rfl ?_)
        refine vl_e ?_
        exact ⟨H, hq1⟩
      refine WPc_block ?_
      refine WPc_seq' ?_
      refine W_region (by kernel_rfl) ?_
      refine vl_n ?_
      refine H_of_R (R_move (v := (e 0)) rfl ?_)
      refine vl_n ?_
      refine H_of_R (R_move (v := (e 12)) rfl ?_)
      refine vl_n ?_
      refine H_of_R (R_nil H fun t66 H => ?_)
      refine vl_n ?_
      refine H_of_R (R_fld TF_188_3 H fun t67 H => ?_)
      refine vl_n ?_
      refine H_of_R (R_load1 T1_186 H fun _ t68 _ _ H => ?_)
      refine vl_n ?_
      refine H_of_R (R_nil H fun t69 H => ?_)
      refine vl_n ?_
      refine H_of_R (R_load1 T1_194 H fun _ t70 _ _ H => ?_)
      refine vl_n ?_
      refine H_of_R (R_move (v := (e 14)) rfl ?_)
      refine vl_n ?_
      refine H_of_R (R_idx TE_194 H fun t72 H => ?_)
      refine vl_n ?_
      refine H_of_R (R_move (v := (e 2)) rfl ?_)
      refine vl_n ?_
      refine H_of_R (R_move (v := (e 3)) rfl ?_)
      refine vl_n ?_
      refine H_of_R (R_move (v := (e 4)) rfl ?_)
      refine vl_n ?_
      refine H_call HB_193 H fun t76 h H => ?_
      refine vl_n ?_
      refine H_of_R (R_move (v := t76) rfl ?_)
      refine vl_n ?_
      refine H_of_R (R_ext H fun t77 H => ?_)
      refine vl_n ?_
      refine H_of_R (R_ext H fun t78 H => ?_)
      refine vl_n ?_
      refine H_of_R (R_assign (v := t77) rfl ?_)
      refine vl_n ?_
      refine H_of_R (R_assign (v := t78) rfl ?_)
      refine vl_e ?_
      refine WPc_seq' ?_
      refine W_region (by kernel_rfl) ?_
      refine vl_n ?_
      refine H_of_R (R_move (v := t77) rfl ?_)
      refine vl_n ?_
      refine H_of_R (R_move (v := (e 12)) rfl ?_)
      refine vl_n ?_
      refine H_of_R (R_nil H fun t81 H => ?_)
      refine vl_n ?_
      refine H_of_R (R_fld TF_188_2 H fun t82 H => ?_)
      refine vl_n ?_
      refine H_of_R (R_load1 T1_185 H fun _ t83 _ _ H => ?_)
      refine vl_n ?_
      refine H_of_R (R_move (v := (e 14)) rfl ?_)
      refine vl_n ?_
      refine H_of_R (R_idx TE_185 H fun t85 H => ?_)
      refine vl_n ?_
      refine H_of_R (R_fld TF_178_1 H fun t86 H => ?_)
      refine vl_n ?_
      refine H_of_R (R_load1 T1_3 H fun _ t87 _ _ H => ?_)
      refine vl_n ?_
      refine H_mkSl TZ_37 (by decide) rfl H rfl fun t88 h H => ?_
      refine vl_n ?_
      refine H_app TZ_37 TU_37 H fun t89 h H => ?_
      refine vl_n ?_
      refine H_of_R (R_assign (v := t89) rfl ?_)
      refine vl_e ?_
      refine W_region (by kernel_rfl) ?_
      refine vl_n ?_
      refine H_of_R (R_move (v := t78) rfl ?_)
      refine vl_n ?_
      refine H_of_R (R_move (v := (e 12)) rfl ?_)
      refine vl_n ?_
      refine H_of_R (R_nil H fun t92 H => ?_)
      refine vl_n ?_
      refine H_of_R (R_fld TF_188_2 H fun t93 H => ?_)
      refine vl_n ?_
      refine H_of_R (R_load1 T1_185 H fun _ t94 _ _ H => ?_)
      refine vl_n ?_
      refine H_of_R (R_move (v := (e 14)) rfl ?_)
      refine vl_n ?_
      refine H_of_R (R_idx TE_185 H fun t96 H => ?_)
      refine vl_n ?_
      refine H_of_R (R_fld TF_178_0 H fun t97 H => ?_)
      refine vl_n ?_
      refine H_of_R (R_load1 T1_3 H fun _ t98 _ _ H => ?_)
      refine vl_n ?_
      refine H_mkSl TZ_37 (by decide) rfl H rfl fun t99 h H => ?_
      refine vl_n ?_
      refine H_app TZ_37 TU_37 H fun t100 h H => ?_
      refine vl_n ?_
      refine H_of_R (R_assign (v := t100) rfl ?_)
      refine vl_e ?_
      exact ⟨H, hq1⟩
    refine WPc_seq' ?_
    refine W_region (by kernel_rfl) ?_
    refine vl_n ?_
    refine H_of_R (R_move (v := (e1 14)) rfl ?_)
    refine vl_n ?_
    refine H_of_R (R_move (v := (e1 12)) rfl ?_)
    refine vl_n ?_
    refine H_of_R (R_nil H fun t56 H => ?_)
    refine vl_n ?_
    refine H_of_R (R_fld TF_188_2 H fun t57 H => ?_)
    refine vl_n ?_
    refine H_of_R (R_load1 T1_185 H fun _ t58 _ _ H => ?_)
    refine vl_n ?_
    refine H_of_R (R_len Try.underlying185 H fun t59 H => ?_)
    refine vl_n ?_
    refine H_of_R (R_lss H fun t60 H => ?_)
    refine vl_e ?_
    obtain ⟨b, hc, H1, H2⟩ := H
    refine WPc_cond hc (fun hh => ?_) (fun hh => ?_)
    · have H := H1 hh; clear H1 H2
      refine WPc_skip ?_
      exact ⟨H, rfl⟩
    · have H := H2 hh; clear H1 H2
      refine WPc_exit ?_
      exact H
  refine WPc_seq' ?_
  refine W_region (by kernel_rfl) ?_
  refine vl_n ?_
  refine H_of_R (R_move (v := t18) rfl ?_)
  refine vl_n ?_
  refine H_call HB_126 H fun t20 h H => ?_
  refine vl_e ?_
  obtain ⟨b, hc, H1, H2⟩ := H
  refine WPc_cond hc (fun hh => ?_) (fun hh => ?_)
  · have H := H1 hh; clear H1 H2
    refine WPc_seq (fun e h => Map_ii_nodeKeyValues.j6 (e 2) (e 3) h Q) ?_ (fun e h H => ?_)
    rotate_left
    · unfold Map_ii_nodeKeyValues.j6 at H
      refine WPc_seq' ?_
      refine W_region (by kernel_rfl) ?_
      refine vl_n ?_
      refine H_of_R (R_move (v := (e 2)) rfl ?_)
      refine vl_n ?_
      refine H_of_R (R_move (v := (e 3)) rfl ?_)
      refine vl_n ?_
      refine H_of_R (R_assign (v := (e 2)) rfl ?_)
      refine vl_n ?_
      refine H_of_R (R_assign (v := (e 3)) rfl ?_)
      refine vl_e ?_
      refine WPc_ret ?_
      refine resH_of rfl ?_
      exact H
    refine WPc_seq' ?_
    refine W_region (by kernel_rfl) ?_
    refine vl_n ?_
    refine H_of_R (R_assign (v := (.int .i64 0)) rfl ?_)
    refine vl_e ?_
    refine WPc_block ?_
    refine loop_at (fun e => [e 2, e 3, e 13]) (fun e => [e 12]) H rfl rfl ?_
    intro K1 e1 h H hin1
    replace H : Map_ii_nodeKeyValues.l7.b (e1 12) (e1 2) (e1 3) (e1 13) h K1 Q := H
    unfold Map_ii_nodeKeyValues.l7.b at H
    clear hin1
    refine WPc_seq (fun e h => Map_ii_nodeKeyValues.j8 (e 2) (e 3) (e 12) (e 13) h K1 Q ∧ [e1 12] = [e 12]) ?_ (fun e h ⟨H, hq1⟩ => ?_)
    rotate_left
    · unfold Map_ii_nodeKeyValues.j8 at H
      refine WPc_seq (fun e h => Map_ii_nodeKeyValues.j9 (e 2) (e 3) (e 12) (e 13) h K1 Q ∧ [e1 12] = [e 12]) ?_ (fun e h ⟨H, hq1⟩ => ?_)
      rotate_left
      · unfold Map_ii_nodeKeyValues.j9 at H
        refine W_region (by kernel_rfl) ?_
        refine vl_n ?_
        refine H_of_R (R_move (v := (e 13)) rfl ?_)
        refine vl_n ?_
        refine H_of_R (R_add H fun t29 H => ?_)
        refine vl_n ?_
        refine H_of_R (R_assign (v := t29) rfl ?_)
        refine vl_e ?_
        exact ⟨H, hq1⟩
      refine WPc_block ?_
      refine WPc_seq' ?_
      refine W_region (by kernel_rfl) ?_
      refine vl_n ?_
      refine H_of_R (R_move (v := (e 2)) rfl ?_)
      refine vl_n ?_
      refine H_of_R (R_move (v := (e 12)) rfl ?_)
      refine vl_n ?_
      refine H_of_R (R_nil H fun t32 H => ?_)
      refine vl_n ?_
      refine H_of_R (R_fld TF_188_2 H fun t33 H => ?_)
      refine vl_n ?_
      refine H_of_R (R_load1 T1_185 H fun _ t34 _ _ H => ?_)
      refine vl_n ?_
      refine H_of_R (R_move (v := (e 13)) rfl ?_)
      refine vl_n ?_
      refine H_of_R (R_idx TE_185 H fun t36 H => ?_)
      refine vl_n ?_
      refine H_of_R (R_fld TF_178_1 H fun t37 H => ?_)
      refine vl_n ?_
      refine H_of_R (R_load1 T1_3 H fun _ t38 _ _ H => ?_)
      refine vl_n ?_
      refine H_mkSl TZ_37 (by decide) rfl H rfl fun t39 h H => ?_
      refine vl_n ?_
      refine H_app TZ_37 TU_37 H fun t40 h H => ?_
      refine vl_n ?_
      refine H_of_R (R_assign (v := t40) rfl ?_)
      refine vl_e ?_
      refine W_region (by kernel_rfl) ?_
      refine vl_n ?_
      refine H_of_R (R_move (v := (e 3)) rfl ?_)
      refine vl_n ?_
      refine H_of_R (R_move (v := (e 12)) rfl ?_)
      refine vl_n ?_
      refine H_of_R (R_nil H fun t43 H => ?_)
      refine vl_n ?_
      refine H_of_R (R_fld TF_188_2 H fun t44 H => ?_)
      refine vl_n ?_
      refine H_of_R (R_load1 T1_185 H fun _ t45 _ _ H => ?_)
      refine vl_n ?_
      refine H_of_R (R_move (v := (e 13)) rfl ?_)
      refine vl_n ?_
      refine H_of_R (R_idx TE_185 H fun t47 H => ?_)
      refine vl_n ?_
      refine H_of_R (R_fld TF_178_0 H fun t48 H => ?_)
      refine vl_n ?_
      refine H_of_R (R_load1 T1_3 H fun _ t49 _ _ H => ?_)
      refine vl_n ?_
      refine H_mkSl TZ_37 (by decide) rfl H rfl fun t50 h H => ?_
      refine vl_n ?_
      refine H_app TZ_37 TU_37 H fun t51 h H => ?_
      refine vl_n ?_
      refine H_of_R (R_assign (v := t51) rfl ?_)
      refine vl_e ?_
      exact ⟨H, hq1⟩
    refine WPc_seq' ?_
    refine W_region (by kernel_rfl) ?_
    refine vl_n ?_
    refine H_of_R (R_move (v := (e1 13)) rfl ?_)
    refine vl_n ?_
    refine H_of_R (R_move (v := (e1 12)) rfl ?_)
    refine vl_n ?_
    refine H_of_R (R_nil H fun t23 H => ?_)
    refine vl_n ?_
    refine H_of_R (R_fld TF_188_2 H fun t24 H => ?_)
    refine vl_n ?_
    refine H_of_R (R_load1 T1_185 H fun _ t25 _ _ H => ?_)
    refine vl_n ?_
    refine H_of_R (R_len Try.underlying185 H fun t26 H => ?_)
    refine vl_n ?_
    refine H_of_R (R_lss H fun t27 H => ?_)
    refine vl_e ?_
    obtain ⟨b, hc, H1, H2⟩ := H
    refine WPc_cond hc (fun hh => ?_) (fun hh => ?_)
    · have H := H1 hh; clear H1 H2
      refine WPc_skip ?_
      exact ⟨H, rfl⟩
    · have H := H2 hh; clear H1 H2
      refine WPc_exit ?_
      exact H
  · have H := H2 hh; clear H1 H2
    refine WPc_skip ?_
    exact H
/-! ### (*pub/tidwallbtree.Map[int, int]).keyValues -/
def Map_ii_keyValues.j1 (s6 : Value) (s7 : Value) (h : Heap) (Q : Value → Heap → Prop) : Prop :=
    Q (.tuple #[s6, s7]) h
def Map_ii_keyValues.sh (a0 : Value) (a1 : Value) (h : Heap) (Q : Value → Heap → Prop) : Prop :=
    Map_ii_Len.call #[a0] h fun t9 h =>
    mks 3 1 8 [(.int .i64 0)] (.int .i64 0) t9 h fun t10 h =>
    Map_ii_Len.call #[a0] h fun t12 h =>
    mks 3 1 8 [(.int .i64 0)] (.int .i64 0) t12 h fun t13 h =>
    nilck a0 fun t15 =>
    fld 2 t15 fun t16 =>
    load1 t16 h fun t17 =>
    neNilP t17 fun t18 =>
    ifV t18
    (nilck a0 fun t22 =>
    fld 2 t22 fun t23 =>
    Map_ii_nodeKeyValues.call #[a0, t23, t10, t13, a1] h fun t27 h =>
    extr 0 t27 fun t28 =>
    extr 1 t27 fun t29 =>
    Map_ii_keyValues.j1 t28 t29 h Q)
    (Map_ii_keyValues.j1 t10 t13 h Q)
theorem Map_ii_keyValues.body (a0 : Value) (a1 : Value) (h : Heap) (Q : Value → Heap → Prop) (H : Map_ii_keyValues.sh a0 a1 h Q) : Map_ii_keyValues.call #[a0, a1] h Q := by
  refine callsH_of (args := [a0, a1]) Try.func149 rfl rfl ?_
  unfold Map_ii_keyValues.sh at H
  refine WPc_seq' ?_
  refine W_region (by kernel_rfl) ?_
  refine vl_n ?_
  refine H_of_R (R_assign (v := (.slice none 0 0)) rfl ?_)
  refine vl_n ?_
  refine H_of_R (R_assign (v := (.slice none 0 0)) rfl ?_)
  refine vl_e ?_
  refine WPc_seq' ?_
  refine W_region (by kernel_rfl) ?_
  refine vl_n ?_
  refine H_of_R (R_move (v := a0) rfl ?_)
  refine vl_n ?_
  refine H_call HB_100 H fun t9 h H => ?_
  refine vl_n ?_
  refine H_mks TZ_37 rfl H fun t10 h H => ?_
  refine vl_n ?_
  refine H_of_R (R_assign (v := t10) rfl ?_)
  refine vl_e ?_
  refine WPc_seq' ?_
  refine W_region (by kernel_rfl) ?_
  refine vl_n ?_
  refine H_of_R (R_move (v := a0) rfl ?_)
  refine vl_n ?_
  refine H_call HB_100 H fun t12 h H => ?_
  refine vl_n ?_
  refine H_mks TZ_37 rfl H fun t13 h H => ?_
  refine vl_n ?_
  refine H_of_R (R_assign (v := t13) rfl ?_)
  refine vl_e ?_
  refine WPc_seq (fun e h => Map_ii_keyValues.j1 (e 6) (e 7) h Q) ?_ (fun e h H => ?_)
  rotate_left
  · unfold Map_ii_keyValues.j1 at H
    refine WPc_seq' ?_
    refine W_region (by kernel_rfl) ?_
    refine vl_n ?_
    refine H_of_R (R_move (v := (e 6)) rfl ?_)
    refine vl_n ?_
    refine H_of_R (R_move (v := (e 7)) rfl ?_)
    refine vl_n ?_
    refine H_of_R (R_assign (v := (e 6)) rfl ?_)
    refine vl_n ?_
    refine H_of_R (R_assign (v := (e 7)) rfl ?_)
    refine vl_e ?_
    refine WPc_ret ?_
    refine resH_of rfl ?_
    exact H
  refine WPc_seq' ?_
  refine W_region (by kernel_rfl) ?_
  refine vl_n ?_
  refine H_of_R (R_move (v := a0) rfl ?_)
  refine vl_n ?_
  refine H_of_R (R_nil H fun t15 H => ?_)
  refine vl_n ?_
  refine H_of_R (R_fld TF_182_2 H fun t16 H => ?_)
  refine vl_n ?_
  refine H_of_R (R_load1 T1_173 H fun _ t17 _ _ H => ?_)
  refine vl_n ?_
  refine H_of_R (R_neNilP Try.underlying173 rfl H fun t18 H => ?_)
  refine vl_e ?_
  obtain ⟨b, hc, H1, H2⟩ := H
  refine WPc_cond hc (fun hh => ?_) (fun hh => ?_)
  · have H := H1 hh; clear H1 H2
    refine W_region (by kernel_rfl) ?_
    refine vl_n ?_
    refine H_of_R (R_move (v := a0) rfl ?_)
    refine vl_n ?_
    refine H_of_R (R_move (v := a0) rfl ?_)
    refine vl_n ?_
    refine H_of_R (R_nil H fun t22 H => ?_)
    refine vl_n ?_
    refine H_of_R (R_fld TF_182_2 H fun t23 H => ?_)
    refine vl_n ?_
    refine H_of_R (R_move (v := t10) rfl ?_)
    refine vl_n ?_
    refine H_of_R (R_move (v := t13) rfl ?_)
    refine vl_n ?_
    refine H_of_R (R_move (v := a1) rfl ?_)
    refine vl_n ?_
    refine H_call HB_193 H fun t27 h H => ?_
    refine vl_n ?_
    refine H_of_R (R_move (v := t27) rfl ?_)
    refine vl_n ?_
    refine H_of_R (R_ext H fun t28 H => ?_)
    refine vl_n ?_
    refine H_of_R (R_ext H fun t29 H => ?_)
    refine vl_n ?_
    refine H_of_R (R_assign (v := t28) rfl ?_)
    refine vl_n ?_
    refine H_of_R (R_assign (v := t29) rfl ?_)
    refine vl_e ?_
    exact H
  · have H := H2 hh; clear H1 H2
    refine WPc_skip ?_
    exact H
/-! ### (*pub/tidwallbtree.Map[int, int]).KeyValues -/
def Map_ii_KeyValues.sh (a0 : Value) (h : Heap) (Q : Value → Heap → Prop) : Prop :=
    Map_ii_keyValues.call #[a0, (.bool false)] h fun t5 h =>
    extr 0 t5 fun t6 =>
    extr 1 t5 fun t7 =>
    Q (.tuple #[t6, t7]) h
theorem Map_ii_KeyValues.body (a0 : Value) (h : Heap) (Q : Value → Heap → Prop) (H : Map_ii_KeyValues.sh a0 h Q) : Map_ii_KeyValues.call #[a0] h Q := by
  refine callsH_of (args := [a0]) Try.func107 rfl rfl ?_
  unfold Map_ii_KeyValues.sh at H
  refine WPc_seq' ?_
  refine W_region (by kernel_rfl) ?_
  refine vl_n ?_
  refine H_of_R (R_assign (v := (.slice none 0 0)) rfl ?_)
  refine vl_n ?_
  refine H_of_R (R_assign (v := (.slice none 0 0)) rfl ?_)
  refine vl_e ?_
  refine WPc_seq' ?_
  refine W_region (by kernel_rfl) ?_
  refine vl_n ?_
  refine H_of_R (R_move (v := a0) rfl ?_)
  refine vl_n ?_
  refine H_call HB_149 H fun t5 h H => ?_
  refine vl_n ?_
  refine H_of_R (R_ext H fun t6 H => ?_)
  refine vl_n ?_
  refine H_of_R (R_ext H fun t7 H => ?_)
  refine vl_n ?_
  refine H_of_R (R_assign (v := t6) rfl ?_)
  refine vl_n ?_
  refine H_of_R (R_assign (v := t7) rfl ?_)
  refine vl_e ?_
  refine WPc_ret ?_
  refine resH_of rfl ?_
  exact H
/-! ### impl.DKeyValues -/
def i_DKeyValues.sh (a0 : Value) (a1 : Value) (h : Heap) (Q : Value → Heap → Prop) : Prop :=
    box 25 a1 h fun t3 h =>
    loadN 3 t3 h fun t12 =>
    i_standMap.call #[a0, t12] h fun t13 h =>
    Map_ii_KeyValues.call #[t13] h fun t16 h =>
    extr 0 t16 fun t17 =>
    extr 1 t16 fun t18 =>
    Map_ii_Len.call #[t13] h fun t22 h =>
    Map_ii_Height.call #[t13] h fun t24 h =>
    Q (.tuple #[t17, t18, t22, t24]) h
theorem i_DKeyValues.body (a0 : Value) (a1 : Value) (h : Heap) (Q : Value → Heap → Prop) (H : i_DKeyValues.sh a0 a1 h Q) : i_DKeyValues.call #[a0, a1] h Q := by
  refine callsH_of (args := [a0, a1]) Try.func56 rfl rfl ?_
  unfold i_DKeyValues.sh at H
  refine WPc_seq' ?_
  refine W_region (by kernel_rfl) ?_
  refine vl_n ?_
  refine H_box H fun t3 h H => ?_
  refine vl_n ?_
  refine H_of_R (R_assign (v := (.slice none 0 0)) rfl ?_)
  refine vl_n ?_
  refine H_of_R (R_assign (v := (.slice none 0 0)) rfl ?_)
  refine vl_n ?_
  refine H_of_R (R_assign (v := (.int .i64 0)) rfl ?_)
  refine vl_n ?_
  refine H_of_R (R_assign (v := (.int .i64 0)) rfl ?_)
  refine vl_e ?_
  refine WPc_seq' ?_
  refine W_region (by kernel_rfl) ?_
  refine vl_n ?_
  refine H_of_R (R_move (v := a0) rfl ?_)
  refine vl_n ?_
  refine H_of_R (R_loadN TN_25 H fun _ t12 _ _ H _ _ => ?_)
  refine vl_n ?_
  refine H_call HB_58 H fun t13 h H => ?_
  refine vl_n ?_
  refine H_of_R (R_assign (v := t13) rfl ?_)
  refine vl_e ?_
  refine WPc_seq' ?_
  refine W_region (by kernel_rfl) ?_
  refine vl_n ?_
  refine H_of_R (R_move (v := t13) rfl ?_)
  refine vl_n ?_
  refine H_call HB_107 H fun t16 h H => ?_
  refine vl_n ?_
  refine H_of_R (R_move (v := t16) rfl ?_)
  refine vl_n ?_
  refine H_of_R (R_ext H fun t17 H => ?_)
  refine vl_n ?_
  refine H_of_R (R_ext H fun t18 H => ?_)
  refine vl_n ?_
  refine H_of_R (R_assign (v := t17) rfl ?_)
  refine vl_n ?_
  refine H_of_R (R_assign (v := t18) rfl ?_)
  refine vl_e ?_
  refine WPc_seq' ?_
  refine W_region (by kernel_rfl) ?_
  refine vl_n ?_
  refine H_of_R (R_move (v := t17) rfl ?_)
  refine vl_n ?_
  refine H_of_R (R_move (v := t18) rfl ?_)
  refine vl_n ?_
  refine H_of_R (R_move (v := t13) rfl ?_)
  refine vl_n ?_
  refine H_call HB_100 H fun t22 h H => ?_
  refine vl_n ?_
  refine H_of_R (R_move (v := t13) rfl ?_)
  refine vl_n ?_
  refine H_call HB_99 H fun t24 h H => ?_
  refine vl_n ?_
  refine H_of_R (R_assign (v := t17) rfl ?_)
  refine vl_n ?_
  refine H_of_R (R_assign (v := t18) rfl ?_)
  refine vl_n ?_
  refine H_of_R (R_assign (v := t22) rfl ?_)
  refine vl_n ?_
  refine H_of_R (R_assign (v := t24) rfl ?_)
  refine vl_e ?_
  refine WPc_ret ?_
  refine resH_of rfl ?_
  exact H
/-! ### laws.exNode -/
def l_exNode.sh (h : Heap) (Q : Value → Heap → Prop) : Prop :=
    alloc [(.slice none 0 0), (.slice none 0 0), (.int .i64 0)] 25 h fun t0 h =>
    buildV [(.int .i64 0), (.int .i64 0)] [(0, 1, (.int .i64 4)), (1, 1, (.int .i64 1))] fun t1 =>
    mkSl (if 1 * 2 = 0 then [] else zeros [(.int .i64 0), (.int .i64 0)] 1) 1 [(0 * 2, 2, t1)] 27 h fun t2 h =>
    buildV [(.int .i64 0), (.int .i64 0)] [(0, 1, (.int .i64 2)), (1, 1, (.int .i64 2))] fun t3 =>
    mkSl (if 1 * 2 = 0 then [] else zeros [(.int .i64 0), (.int .i64 0)] 1) 1 [(0 * 2, 2, t3)] 27 h fun t4 h =>
    buildV [(.slice none 0 0), (.slice none 0 0), (.int .i64 0)] [(0, 1, t4)] fun t5 =>
    buildV [(.int .i64 0), (.int .i64 0)] [(0, 1, (.int .i64 6)), (1, 1, (.int .i64 3))] fun t6 =>
    mkSl (if 1 * 2 = 0 then [] else zeros [(.int .i64 0), (.int .i64 0)] 1) 1 [(0 * 2, 2, t6)] 27 h fun t7 h =>
    buildV [(.slice none 0 0), (.slice none 0 0), (.int .i64 0)] [(0, 1, t7)] fun t8 =>
    mkSl (if 2 * 3 = 0 then [] else zeros [(.slice none 0 0), (.slice none 0 0), (.int .i64 0)] 2) 2 [(0 * 3, 3, t5), (1 * 3, 3, t8)] 25 h fun t9 h =>
    buildV [(.slice none 0 0), (.slice none 0 0), (.int .i64 0)] [(0, 1, t2), (1, 1, t9)] fun t10 =>
    storeN 3 t0 t10 h fun h =>
    loadN 3 t0 h fun r0 =>
    Q r0 h
theorem l_exNode.body (h : Heap) (Q : Value → Heap → Prop) (H : l_exNode.sh h Q) : l_exNode.call #[] h Q := by
  refine callsH_of (args := []) Try.func57 rfl rfl ?_
  unfold l_exNode.sh at H
  refine WPc_seq' ?_
  refine W_region (by kernel_rfl) ?_
  refine vl_n ?_
  refine H_alloc TV_25 H fun t0 h H => ?_
  refine vl_e ?_
  refine WPc_seq' ?_
  refine W_region (by kernel_rfl) ?_
  refine vl_n ?_
  refine H_of_R (R_build TB_27 rfl (by decide) H fun t1 H => ?_)
  refine vl_n ?_
  refine H_mkSl TZ_22 (by decide) rfl H rfl fun t2 h H => ?_
  refine vl_n ?_
  refine H_of_R (R_build TB_27 rfl (by decide) H fun t3 H => ?_)
  refine vl_n ?_
  refine H_mkSl TZ_22 (by decide) rfl H rfl fun t4 h H => ?_
  refine vl_n ?_
  refine H_of_R (R_build TB_25 rfl (by decide) H fun t5 H => ?_)
  refine vl_n ?_
  refine H_of_R (R_build TB_27 rfl (by decide) H fun t6 H => ?_)
  refine vl_n ?_
  refine H_mkSl TZ_22 (by decide) rfl H rfl fun t7 h H => ?_
  refine vl_n ?_
  refine H_of_R (R_build TB_25 rfl (by decide) H fun t8 H => ?_)
  refine vl_n ?_
  refine H_mkSl TZ_23 (by decide) rfl H rfl fun t9 h H => ?_
  refine vl_n ?_
  refine H_of_R (R_build TB_25 rfl (by decide) H fun t10 H => ?_)
  refine vl_n ?_
  refine H_storeN TS_25 H fun h H => ?_
  refine vl_e ?_
  refine WPc_ret ?_
  refine resH_of rfl ?_
  refine resL_N TN_25 ?_
  refine loadN_imp H fun r0 H => ?_
  exact H
/-! ### laws.aliveD -/
def l_aliveD.sh (h : Heap) (Q : Value → Heap → Prop) : Prop :=
    l_exNode.call #[] h fun t6 h =>
    i_DKeyValues.call #[(.int .i64 2), t6] h fun t7 h =>
    extr 0 t7 fun t8 =>
    extr 1 t7 fun t9 =>
    extr 2 t7 fun t10 =>
    extr 3 t7 fun t11 =>
    lenV t8 fun t13 =>
    cmpI (fun a b => a == b) t13 (.int .i64 3) fun t14 =>
    br t14 true (lenV t9 fun t17 =>
    cmpI (fun a b => a == b) t17 (.int .i64 3) fun t18 =>
    br t18 true (cmpI (fun a b => a == b) t10 (.int .i64 3) fun t22 =>
    br t22 true (cmpI (fun a b => a == b) t11 (.int .i64 2) fun t26 =>
    Q t26 h) (Q (.bool false) h)) (Q (.bool false) h)) (Q (.bool false) h)
theorem l_aliveD.body (h : Heap) (Q : Value → Heap → Prop) (H : l_aliveD.sh h Q) : l_aliveD.call #[] h Q := by
  refine callsH_of (args := []) Try.func14 rfl rfl ?_
  unfold l_aliveD.sh at H
  refine WPc_seq' ?_
  refine W_region (by kernel_rfl) ?_
  refine vl_n ?_
  refine H_of_R (R_assign (v := (.bool false)) rfl ?_)
  refine vl_e ?_
  refine WPc_seq' ?_
  refine W_region (by kernel_rfl) ?_
  refine vl_n ?_
  refine H_call HB_57 H fun t6 h H => ?_
  refine vl_n ?_
  refine H_call HB_56 H fun t7 h H => ?_
  refine vl_n ?_
  refine H_of_R (R_move (v := t7) rfl ?_)
  refine vl_n ?_
  refine H_of_R (R_ext H fun t8 H => ?_)
  refine vl_n ?_
  refine H_of_R (R_ext H fun t9 H => ?_)
  refine vl_n ?_
  refine H_of_R (R_ext H fun t10 H => ?_)
  refine vl_n ?_
  refine H_of_R (R_ext H fun t11 H => ?_)
  refine vl_n ?_
  refine H_of_R (R_assign (v := t8) rfl ?_)
  refine vl_n ?_
  refine H_of_R (R_assign (v := t9) rfl ?_)
  refine vl_n ?_
  refine H_of_R (R_assign (v := t10) rfl ?_)
  refine vl_n ?_
  refine H_of_R (R_assign (v := t11) rfl ?_)
  refine vl_e ?_
  refine WPc_seq' ?_
  refine W_region (by kernel_rfl) ?_
  refine vl_n ?_
  refine H_of_R (R_move (v := t8) rfl ?_)
  refine vl_n ?_
  refine H_of_R (R_len Try.underlying37 H fun t13 H => ?_)
  refine vl_n ?_
  refine H_of_R (R_eqI H fun t14 H => ?_)
  refine vl_n ?_
  refine H_of_R (R_move (v := t14) rfl ?_)
  obtain ⟨b, hb, H1, H2⟩ := H
  cases b
  · have H := H2 rfl; clear H1 H2
    refine vl_s rfl (nbT hb) ?_
    refine vl_s rfl (nbT hb) ?_
    refine vl_s rfl (nbT hb) ?_
    refine vl_n ?_
    refine H_of_R (R_pickC (v := (.bool false)) false hb rfl ?_)
    refine vl_n ?_
    refine H_of_R (R_move (v := (.bool false)) rfl ?_)
    refine vl_s rfl (nbT rfl) ?_
    refine vl_s rfl (nbT rfl) ?_
    refine vl_n ?_
    refine H_of_R (R_pickC (v := (.bool false)) false rfl rfl ?_)
    refine vl_n ?_
    refine H_of_R (R_move (v := (.bool false)) rfl ?_)
    refine vl_s rfl (nbT rfl) ?_
    refine vl_s rfl (nbT rfl) ?_
    refine vl_n ?_
    refine H_of_R (R_pickC (v := (.bool false)) false rfl rfl ?_)
    refine vl_n ?_
    refine H_of_R (R_assign (v := (.bool false)) rfl ?_)
    refine vl_e ?_
    refine WPc_ret ?_
    refine resH_of rfl ?_
    exact H
  · have H := H1 rfl; clear H1 H2
    refine vl_y rfl hb ?_
    refine H_of_R (R_move (v := t9) rfl ?_)
    refine vl_y rfl hb ?_
    refine H_of_R (R_len Try.underlying37 H fun t17 H => ?_)
    refine vl_y rfl hb ?_
    refine H_of_R (R_eqI H fun t18 H => ?_)
    refine vl_n ?_
    refine H_of_R (R_pickC (v := t18) true hb rfl ?_)
    refine vl_n ?_
    refine H_of_R (R_move (v := t18) rfl ?_)
    obtain ⟨b_2, hb_2, H1, H2⟩ := H
    cases b_2
    · have H := H2 rfl; clear H1 H2
      refine vl_s rfl (nbT hb_2) ?_
      refine vl_s rfl (nbT hb_2) ?_
      refine vl_n ?_
      refine H_of_R (R_pickC (v := (.bool false)) false hb_2 rfl ?_)
      refine vl_n ?_
      refine H_of_R (R_move (v := (.bool false)) rfl ?_)
      refine vl_s rfl (nbT rfl) ?_
      refine vl_s rfl (nbT rfl) ?_
      refine vl_n ?_
      refine H_of_R (R_pickC (v := (.bool false)) false rfl rfl ?_)
      refine vl_n ?_
      refine H_of_R (R_assign (v := (.bool false)) rfl ?_)
      refine vl_e ?_
      refine WPc_ret ?_
      refine resH_of rfl ?_
      exact H
    · have H := H1 rfl; clear H1 H2
      refine vl_y rfl hb_2 ?_
      refine H_of_R (R_move (v := t10) rfl ?_)
      refine vl_y rfl hb_2 ?_
      refine H_of_R (R_eqI H fun t22 H => ?_)
      refine vl_n ?_
      refine H_of_R (R_pickC (v := t22) true hb_2 rfl ?_)
      refine vl_n ?_
      refine H_of_R (R_move (v := t22) rfl ?_)
      obtain ⟨b_3, hb_3, H1, H2⟩ := H
      cases b_3
      · have H := H2 rfl; clear H1 H2
        refine vl_s rfl (nbT hb_3) ?_
        refine vl_s rfl (nbT hb_3) ?_
        refine vl_n ?_
        refine H_of_R (R_pickC (v := (.bool false)) false hb_3 rfl ?_)
        refine vl_n ?_
        refine H_of_R (R_assign (v := (.bool false)) rfl ?_)
        refine vl_e ?_
        refine WPc_ret ?_
        refine resH_of rfl ?_
        exact H
      · have H := H1 rfl; clear H1 H2
        refine vl_y rfl hb_3 ?_
        refine H_of_R (R_move (v := t11) rfl ?_)
        refine vl_y rfl hb_3 ?_
        refine H_of_R (R_eqI H fun t26 H => ?_)
        refine vl_n ?_
        refine H_of_R (R_pickC (v := t26) true hb_3 rfl ?_)
        refine vl_n ?_
        refine H_of_R (R_assign (v := t26) rfl ?_)
        refine vl_e ?_
        refine WPc_ret ?_
        refine resH_of rfl ?_
        exact H

end Go.Proofs.Ytlihjljdndbpdaa
end
section
namespace Go.Proofs.Ytlihjljdndbpdaa
open Go.Hp
set_option linter.unusedVariables false
set_option linter.unusedSimpArgs false
variable {h0 h : Heap} {Z E : List Rg} {Q : Value → Heap → Prop}

theorem DoorPlant_ok {tb n : Nat} {iso cnt c0 mn mx : Int} {ctr root : Option Addr} {a1 a2 a3 : Value} (s : St h0 Z ((tb, 0, hdr iso ctr root c0 mn mx) :: E) h) (hn : (n, 0, [a1, .int .i64 cnt, a2, a3]) ∈ E ++ Z)
    (H : ∀ h', St h0 Z ((tb, 0, hdr iso ctr (some ⟨n, 0, none⟩) cnt mn mx) :: E) h' → Q (.tuple #[]) h') : Map_ii_DoorPlant.call #[ptr tb 0, .agg #[ptr n 0]] h Q := by
  refine Map_ii_DoorPlant.body _ _ _ _ ?_
  unfold Map_ii_DoorPlant.sh
  refine St.r_box (cs := [ptr n 0]) s fun t h s => ?_
  refine r_fld ?_
  refine St.r_load0 s 0 rfl rfl ?_
  refine r_fld ?_
  refine St.r_load0 s 0 rfl rfl ?_
  refine r_nil ?_
  refine r_fld ?_
  refine s.r_loadM (xs := [a1, .int .i64 cnt, a2, a3]) (List.mem_cons_of_mem _ (List.mem_cons_of_mem _ hn)) rfl ?_
  refine r_nil ?_
  refine r_fld ?_
  refine St.r_store0 s 1 rfl (by simp) rfl ?_
  intro h s
  try simp only [List.set_cons_zero, List.set_cons_succ] at s
  refine r_nil ?_
  refine r_fld ?_
  refine St.r_store0 s 1 rfl (by simp) rfl ?_
  intro h s
  try simp only [List.set_cons_zero, List.set_cons_succ] at s
  exact H h (s.drop 1)

theorem i_standMap_ok {k : Nat} (x : PT It k) {d : Int} {vi vk vc : Value} (ha : ArgT h x vi vk) (hsh : x.Sh 2147483647) (hsz : x.items.length ≤ 4611686018427387903) (hvc : one1 vc = true) (h1 : 2 ≤ d) (h2 : d ≤ 1073741824) (hne : x.its ≠ [])
    (H : ∀ (t : GT It k) tb h', t.pt = x → t.Wf enc 2 0 → t.Cn → t.Mine → St h [] ((tb, 0, hdr 0 none (some ⟨t.id, 0, none⟩) x.items.length (d - 1) (2 * d - 1)) :: t.rgs enc true) h' → Q (ptr tb 0) h') : i_standMap.call #[.int .i64 d, .agg #[vi, vk, vc]] h Q := by
  refine i_standMap.body _ _ _ _ ?_
  unfold i_standMap.sh
  have s := St.start h
  refine St.r_box (cs := [vi, vk, vc]) s fun t3 h s => ?_
  refine NewMap_ii_ok s h1 h2 fun tb h s => ?_
  refine r_fld ?_
  refine St.r_load0 s 1 rfl rfl ?_
  obtain ⟨len, hl, hlen⟩ : ∃ len, Rdl 2 _ vi len (x.its.flatMap encA) ∧ len ≠ 0 := by
    have hx : x.its.length ≠ 0 := fun e => hne (List.length_eq_zero_iff.1 e)
    cases k with
    | zero => exact ⟨_, ha.1, hx⟩
    | succ k => exact ⟨_, ha.1, hx⟩
  refine (hl.st s).lenV ?_
  refine r_cmpI ?_
  refine r_br (fun e => absurd (of_decide_eq_false e) (by omega)) (fun _ => ?_)
  refine St.r_loadN0 s 1 rfl (by simp) ?_
  refine i_plantedMap_ok x (s.get (k := 0) (j := 0) rfl (by simp)) (ha.fr s.fr) hsh hsz hvc fun t h ht1 ht2 ht3 ht4 s1 => ?_
  have s := s.join s1
  obtain ⟨a1, a2, a3, hm⟩ := GT.top (enc := enc) ht4.nd
  refine DoorPlant_ok (n := t.id) (cnt := t.nd.cnt) (E := t.rgs enc true ++ [(t3, 0, [vi, vk, vc])]) (s.perm (by ((apply perm_rg; intro f; simp only [List.set_cons_zero, List.set_cons_succ, List.eraseIdx_cons_zero, List.eraseIdx_cons_succ, List.cons_append, List.nil_append, List.map_append, List.map_cons, List.map_nil, List.sum_append, List.sum_cons, List.sum_nil, List.map_flatMap, Nat.add_zero, Nat.zero_add]; ac_rfl)))) (List.mem_append.2 (.inl (List.mem_append.2 (.inl hm)))) fun h s => ?_
  unfold i_standMap.j1
  refine H t tb h ht1 ht2 ht3 ht4 ?_
  rw [ht3.cnt, ht1] at s
  exact (s.perm (E' := (t3, 0, [vi, vk, vc]) :: (tb, 0, hdr 0 none (some ⟨t.id, 0, none⟩) x.items.length (d - 1) (2 * d - 1)) :: t.rgs enc true) (by ((apply perm_rg; intro f; simp only [List.set_cons_zero, List.set_cons_succ, List.eraseIdx_cons_zero, List.eraseIdx_cons_succ, List.cons_append, List.nil_append, List.map_append, List.map_cons, List.map_nil, List.sum_append, List.sum_cons, List.sum_nil, List.map_flatMap, Nat.add_zero, Nat.zero_add]; ac_rfl)))).drop 1

theorem isoLoad_read {cb co : Nat} {tr v : Value} (hc : cl h cb co = some v) (H : Q v h) : Map_ii_isoLoad.call #[tr, ptr cb co, .bool false] h Q := by
  refine Map_ii_isoLoad.body _ _ _ _ _ ?_
  unfold Map_ii_isoLoad.sh
  refine r_br (fun e => absurd e (by decide)) (fun _ => ?_)
  unfold Map_ii_isoLoad.j1
  refine r_nil ?_
  exact ⟨_, v, rfl, hc, H⟩

theorem Map_ii_Len_ok {tb : Nat} {v : Value} (hc : cl h tb 3 = some v) (H : Q v h) : Map_ii_Len.call #[ptr tb 0] h Q := by
  refine Map_ii_Len.body _ _ _ ?_
  unfold Map_ii_Len.sh
  refine r_nil (r_fld ?_)
  exact ⟨_, v, rfl, hc, H⟩

theorem Map_ii_Height_ok {k : Nat} {t : GT It k} {tb : Nat} (hr : cl h tb 2 = some (ptr t.id 0)) (ht : t.At enc 2 h) (hk : k ≤ 1000000) (H : Q (.int .i64 ((k + 1 : Nat) : Int)) h) : Map_ii_Height.call #[ptr tb 0] h Q := by
  refine Map_ii_Height.body _ _ _ ?_
  unfold Map_ii_Height.sh
  have s := St.start h
  refine r_nil ?_
  refine r_fld ?_
  refine s.r_loadB hr ?_
  refine r_neNilP ?_
  refine r_if (fun _ => ?_) (fun e => absurd e (by simp))
  refine r_nil ?_
  refine r_fld ?_
  refine s.r_loadB hr ?_
  refine loop_intro (fun l h' => h' = h ∧ ∃ (j : Nat) (t' : GT It j), j ≤ k ∧ t'.At enc 2 h ∧ l = [.int .i64 ((k - j : Nat) : Int), ptr t'.id 0]) (fun l _ => k - (Hp.iv (l.getD 0 undef)).toNat) ⟨rfl, k, t, Nat.le_refl _, ht, by simp⟩ ?_
  rintro l h' ⟨rfl, j, t', hj, ht', rfl⟩
  unfold Map_ii_Height.l2.b
  refine r_add (z := ((k - j + 1 : Nat) : Int)) (by rw [i64w (by omega) (by omega)]; omega) ?_
  cases j with
  | zero =>
    refine mapNode_ii_leaf_ok (a := none) ht'.2 ?_
    refine r_if (fun _ => ?_) (fun e => absurd e (by simp))
    exact H
  | succ j =>
    refine mapNode_ii_leaf_ok (a := some ⟨t'.1.kb, 0, none⟩) ht'.2.1 ?_
    refine r_if (fun e => absurd e (by simp)) (fun _ => ?_)
    unfold Map_ii_Height.j3
    refine r_nil ?_
    refine r_fld ?_
    refine s.r_loadB ht'.2.1 ?_
    refine r_nil ?_
    refine s.r_loadB ht'.2.2.1 ?_
    have hl : 0 < t'.2.length := by have := ht'.2.2.2.2.1; omega
    refine ht'.2.2.2.1.at1 rfl hl fun b o hb => ?_
    refine hb.load0 rfl ?_
    exact ⟨⟨rfl, j, t'.2[0], by omega, ht'.2.2.2.2.2 _ (List.getElem_mem hl), by simp; omega⟩, by simp; omega⟩

abbrev I (n : Int) : Value := .int .i64 n
/-- The keys and the values that are gathered. -/
def Acc (h0 : Heap) (Z E : List Rg) (h : Heap) (kv vv : Value) (A B : List Int) : Prop := ∃ kb ko vb vo sp1 sp2, St h0 Z ((kb, ko, A.map I ++ sp1) :: (vb, vo, B.map I ++ sp2) :: E) h ∧ Own 1 kv A.length kb ko (A.map I) sp1 ∧ Own 1 vv B.length vb vo (B.map I) sp2
theorem Acc.key {kv vv : Value} {A B : List Int} {x : Int} {K : Value → Heap → Prop} (a : Acc h0 Z E h kv vv A B) (hA : A.length ≤ 1099511627776) (H : ∀ kv' h', Acc h0 Z E h' kv' vv (A ++ [x]) B → K kv' h') :
    mkSl (if 1 * 1 = 0 then [] else zeros [(.int .i64 0)] 1) 1 [(0 * 1, 1, .int .i64 x)] 3 h fun t h => app 3 1 8 [(.int .i64 0)] kv t h K := by
  obtain ⟨kb, ko, vb, vo, sp1, sp2, s, w1, w2⟩ := a
  refine s.r_mkSl (sz := 1) (cs := [I x]) (by ((simp only [fillV, fill1, Value.cells, zeros_succ, zeros_zero, List.size_toArray, List.length_cons, List.length_nil, List.length_append, List.take_succ_cons, List.take_zero, List.take_nil, List.drop_succ_cons, List.drop_zero, List.drop_nil, List.cons_append, List.nil_append, List.append_nil, Nat.reduceAdd, Nat.reduceMul, Nat.reduceLeDiff, Nat.reduceEqDiff, and_self, and_true, true_and, if_true, Nat.le_refl, Nat.zero_add, Nat.add_zero, Nat.zero_mul, reduceIte, if_false] <;> rfl))) rfl fun q h s wq => ?_
  refine s.r_app 1 (sz := 1) (n := 1) (new := [I x]) rfl w1 rfl (wq.rdl s 0 rfl) (by simp [one1]) (by omega) (by omega) fun v' b' o' sp' h s w1' => ?_
  refine H v' h ⟨b', o', vb, vo, sp', sp2, ?_, by simpa using w1', w2⟩
  rw [List.map_append]; exact s.drop 1
theorem Acc.val {kv vv : Value} {A B : List Int} {x : Int} {K : Value → Heap → Prop} (a : Acc h0 Z E h kv vv A B) (hB : B.length ≤ 1099511627776) (H : ∀ vv' h', Acc h0 Z E h' kv vv' A (B ++ [x]) → K vv' h') :
    mkSl (if 1 * 1 = 0 then [] else zeros [(.int .i64 0)] 1) 1 [(0 * 1, 1, .int .i64 x)] 3 h fun t h => app 3 1 8 [(.int .i64 0)] vv t h K := by
  obtain ⟨kb, ko, vb, vo, sp1, sp2, s, w1, w2⟩ := a
  refine s.r_mkSl (sz := 1) (cs := [I x]) (by ((simp only [fillV, fill1, Value.cells, zeros_succ, zeros_zero, List.size_toArray, List.length_cons, List.length_nil, List.length_append, List.take_succ_cons, List.take_zero, List.take_nil, List.drop_succ_cons, List.drop_zero, List.drop_nil, List.cons_append, List.nil_append, List.append_nil, Nat.reduceAdd, Nat.reduceMul, Nat.reduceLeDiff, Nat.reduceEqDiff, and_self, and_true, true_and, if_true, Nat.le_refl, Nat.zero_add, Nat.add_zero, Nat.zero_mul, reduceIte, if_false] <;> rfl))) rfl fun q h s wq => ?_
  refine s.r_app 2 (sz := 1) (n := 1) (new := [I x]) rfl w2 rfl (wq.rdl s 0 rfl) (by simp [one1]) (by omega) (by omega) fun v' b' o' sp' h s w2' => ?_
  refine H v' h ⟨kb, ko, b', o', sp1, sp', ?_, w1, by simpa using w2'⟩
  rw [List.map_append]; exact s.drop 1
theorem Acc.at {kv vv : Value} {A B : List Int} (a : Acc h0 Z E h kv vv A B) {k : Nat} {t : GT It k} {iso : Int} (w : t.Wf enc 2 iso) (hz : ∀ r, r ∈ t.all enc → r ∈ Z) : t.At enc 2 h := by
  obtain ⟨kb, ko, vb, vo, sp1, sp2, s, w1, w2⟩ := a
  exact GT.At.of w fun r hr => s.z r (hz r hr)
theorem take_map {α β : Type} (f : α → β) (A : List β) {l : List α} {j : Nat} (hj : j < l.length) : A ++ (l.take (j + 1)).map f = (A ++ (l.take j).map f) ++ [f l[j]] := by
  rw [List.take_succ_eq_append_getElem hj, List.map_append, List.map_cons, List.map_nil, List.append_assoc]

theorem nodeKV : ∀ {k : Nat} (t : GT It k) {h0 h : Heap} {Z E : List Rg} {iso : Int} {A B : List Int} {tr kv vv : Value} {cb co : Nat} {Q : Value → Heap → Prop}, t.Wf enc 2 iso → (∀ r, r ∈ t.all enc → r ∈ Z) →
    Acc h0 Z E h kv vv A B → cl h cb co = some (ptr t.id 0) → A.length + t.pt.items.length ≤ 1099511627776 → B.length + t.pt.items.length ≤ 1099511627776 →
    (∀ kv' vv' h', Acc h0 Z E h' kv' vv' (A ++ t.pt.items.map Prod.fst) (B ++ t.pt.items.map Prod.snd) → Q (.tuple #[kv', vv']) h') →
    Map_ii_nodeKeyValues.call #[tr, ptr cb co, kv, vv, .bool false] h Q
  | 0, t, h0, h, Z, E, iso, A, B, tr, kv, vv, cb, co, Q, w, hz, a, hc, hA, hB, H => by
    refine Map_ii_nodeKeyValues.body _ _ _ _ _ _ _ ?_
    unfold Map_ii_nodeKeyValues.sh
    refine isoLoad_read hc ?_
    refine mapNode_ii_leaf_ok (a := none) (a.at w hz).2 ?_
    refine r_if (fun _ => ?_) (fun e => absurd e (by simp))
    have hlen : t.pt.items.length = (Nd.its t).length := rfl
    refine loop_intro (fun l h' => ∃ (j : Nat) (kv' vv' : Value), j ≤ (Nd.its t).length ∧ l = [kv', vv', .int .i64 j] ∧ Acc h0 Z E h' kv' vv' (A ++ ((Nd.its t).take j).map Prod.fst) (B ++ ((Nd.its t).take j).map Prod.snd))
      (fun l _ => (Nd.its t).length - (Hp.iv (l.getD 2 undef)).toNat) ⟨0, kv, vv, by omega, rfl, by simpa using a⟩ ?_
    rintro l h ⟨j, kv, vv, hj, rfl, a⟩
    unfold Map_ii_nodeKeyValues.l7.b
    refine r_nil (r_fld ?_)
    refine (⟨_, _, rfl, (a.at w hz).1.iv, ?_⟩ : load1 _ _ _)
    refine (a.at w hz).1.its.lenV ?_
    refine r_cmpI ?_
    refine r_if (fun hlt => ?_) (fun hge => ?_)
    · have hlt : j < (Nd.its t).length := by simpa using hlt
      unfold Map_ii_nodeKeyValues.j8
      refine r_nil (r_fld ?_)
      refine (⟨_, _, rfl, (a.at w hz).1.iv, ?_⟩ : load1 _ _ _)
      refine (a.at w hz).1.its.at rfl (fun _ => rfl) rfl rfl hlt fun b o hb => ?_
      refine r_fld (hb.load rfl ?_)
      refine a.key (by simp; omega) fun kv h a => ?_
      refine r_nil (r_fld ?_)
      refine (⟨_, _, rfl, (a.at w hz).1.iv, ?_⟩ : load1 _ _ _)
      refine (a.at w hz).1.its.at rfl (fun _ => rfl) rfl rfl hlt fun b o hb => ?_
      refine r_fld (hb.load rfl ?_)
      refine a.val (by simp; omega) fun vv h a => ?_
      unfold Map_ii_nodeKeyValues.j9
      refine r_add (z := ((j + 1 : Nat) : Int)) (by rw [i64w (by omega) (by omega)]; omega) ?_
      exact ⟨⟨j + 1, kv, vv, hlt, rfl, by rw [take_map _ _ hlt, take_map _ _ hlt]; exact a⟩, by simp; omega⟩
    · have hge : j = (Nd.its t).length := by simp at hge; omega
      subst hge
      rw [List.take_length] at a
      unfold Map_ii_nodeKeyValues.j6
      exact H _ _ h a
  | k + 1, t, h0, h, Z, E, iso, A, B, tr, kv, vv, cb, co, Q, w, hz, a, hc, hA, hB, H => by
    have hz' : ∀ q, q ∈ t.2 → ∀ r, r ∈ q.all enc → r ∈ Z := fun q hq r hr => hz r (List.mem_append.2 (.inr (List.mem_flatMap.2 ⟨q, hq, hr⟩)))
    have hkl : (t.2.map fun q => q.pt.items).length = t.1.its.length + 1 := by rw [List.length_map]; exact w.2.2.1
    have hit : t.pt.items = inter t.1.its (t.2.map fun q => q.pt.items) := by
      show inter t.1.its ((t.2.map GT.pt).map PT.items) = _
      rw [List.map_map]; rfl
    have hlen := inter_length t.1.its (t.2.map fun q => q.pt.items)
    rw [← hit] at hlen
    have hin := inter_pre hkl
    have hpl : ∀ i, i ≤ t.1.its.length → (pre t.1.its (t.2.map fun q => q.pt.items) i).length ≤ t.pt.items.length := fun i hi => by
      rw [hit, hin, List.length_append]
      have := pre_le (its := t.1.its) (ks := t.2.map fun q => q.pt.items) hi
      omega
    refine Map_ii_nodeKeyValues.body _ _ _ _ _ _ _ ?_
    unfold Map_ii_nodeKeyValues.sh
    refine isoLoad_read hc ?_
    refine mapNode_ii_leaf_ok (a := some ⟨t.1.kb, 0, none⟩) (a.at w hz).2.1 ?_
    refine r_if (fun e => absurd e (by simp)) (fun _ => ?_)
    unfold Map_ii_nodeKeyValues.j1
    refine loop_intro (fun l h' => ∃ (j : Nat) (kv' vv' : Value), j ≤ t.1.its.length ∧ l = [kv', vv', .int .i64 j] ∧ Acc h0 Z E h' kv' vv' (A ++ (pre t.1.its (t.2.map fun q => q.pt.items) j).map Prod.fst) (B ++ (pre t.1.its (t.2.map fun q => q.pt.items) j).map Prod.snd))
      (fun l _ => t.1.its.length - (Hp.iv (l.getD 2 undef)).toNat) ⟨0, kv, vv, by omega, rfl, by simpa [pre] using a⟩ ?_
    rintro l h ⟨j, kv, vv, hj, rfl, a⟩
    unfold Map_ii_nodeKeyValues.l3.b
    refine r_nil (r_fld ?_)
    refine (⟨_, _, rfl, (a.at w hz).1.iv, ?_⟩ : load1 _ _ _)
    refine (a.at w hz).1.its.lenV ?_
    refine r_cmpI ?_
    refine r_if (fun hlt => ?_) (fun hge => ?_)
    · have hlt : j < t.1.its.length := by simpa using hlt
      have hjk : j < t.2.length := by have := w.2.2.1; omega
      unfold Map_ii_nodeKeyValues.j4
      refine r_nil (r_fld ?_)
      refine (⟨_, _, rfl, (a.at w hz).2.1, ?_⟩ : load1 _ _ _)
      refine r_nil ?_
      refine (⟨_, _, rfl, (a.at w hz).2.2.1, ?_⟩ : load1 _ _ _)
      refine (a.at w hz).2.2.2.1.at1 rfl hjk fun b o hb => ?_
      have hps := pre_succ (its := t.1.its) (ks := t.2.map fun q => q.pt.items) hlt (by rw [hkl]; omega)
      have hpl' := hpl (j + 1) hlt
      have hps' := congrArg List.length hps
      simp only [List.length_append, List.length_cons, List.length_nil, List.getElem_map] at hps'
      refine nodeKV t.2[j] (w.2.2.2 _ (List.getElem_mem hjk)).1 (hz' _ (List.getElem_mem hjk)) a (hb 0 (by simp)) (by simp; omega) (by simp; omega) fun kv vv h a => ?_
      refine r_ext rfl ?_
      refine r_ext rfl ?_
      refine r_nil ?_
      refine r_fld ?_
      refine (⟨_, _, rfl, (a.at w hz).1.iv, ?_⟩ : load1 _ _ _)
      refine (a.at w hz).1.its.at rfl (fun _ => rfl) rfl rfl hlt fun b o hb => ?_
      refine r_fld (hb.load rfl ?_)
      refine a.key (by simp; omega) fun kv h a => ?_
      refine r_nil (r_fld ?_)
      refine (⟨_, _, rfl, (a.at w hz).1.iv, ?_⟩ : load1 _ _ _)
      refine (a.at w hz).1.its.at rfl (fun _ => rfl) rfl rfl hlt fun b o hb => ?_
      refine r_fld (hb.load rfl ?_)
      refine a.val (by simp; omega) fun vv h a => ?_
      unfold Map_ii_nodeKeyValues.j5
      refine r_add (z := ((j + 1 : Nat) : Int)) (by rw [i64w (by omega) (by omega)]; omega) ?_
      refine ⟨⟨j + 1, kv, vv, hlt, rfl, ?_⟩, by simp; omega⟩
      rw [hps]
      simpa using a
    · have hge : j = t.1.its.length := by simp at hge; omega
      subst hge
      have hjk : t.1.its.length < t.2.length := by have := w.2.2.1; omega
      unfold Map_ii_nodeKeyValues.j2
      refine r_nil (r_fld ?_)
      refine (⟨_, _, rfl, (a.at w hz).2.1, ?_⟩ : load1 _ _ _)
      refine r_nil ?_
      refine (⟨_, _, rfl, (a.at w hz).2.2.1, ?_⟩ : load1 _ _ _)
      refine r_nil (r_fld ?_)
      refine (⟨_, _, rfl, (a.at w hz).2.1, ?_⟩ : load1 _ _ _)
      refine r_nil ?_
      refine (⟨_, _, rfl, (a.at w hz).2.2.1, ?_⟩ : load1 _ _ _)
      refine (a.at w hz).2.2.2.1.lenV ?_
      have hl := congrArg List.length hin
      rw [← hit] at hl hin
      simp only [List.length_append, List.getElem_map] at hl
      refine r_sub (z := (t.1.its.length : Int)) (by have := w.2.2.1; rw [i64w (by omega) (by omega)]; omega) ?_
      refine (a.at w hz).2.2.2.1.at1 (n := t.1.its.length) rfl hjk fun b o hb => ?_
      refine nodeKV t.2[t.1.its.length] (w.2.2.2 _ (List.getElem_mem hjk)).1 (hz' _ (List.getElem_mem hjk)) a (hb 0 (by simp)) (by simp; omega) (by simp; omega) fun kv vv h a => ?_
      refine r_ext rfl ?_
      refine r_ext rfl ?_
      refine H _ _ h ?_
      rw [hin]
      simpa using a

/-- A map that stands: its head and its tree lie in memory. -/
structure StandR (h : Heap) (tb : Nat) {k : Nat} (t : GT It k) : Prop where
  root : cl h tb 2 = some (ptr t.id 0)
  cnt : cl h tb 3 = some (.int .i64 t.pt.items.length)
  wf : ∃ iso, t.Wf enc 2 iso
  ok : ∀ r, r ∈ t.all enc → r.Ok h

theorem keyValues_ok {k : Nat} {t : GT It k} {tb : Nat} (r : StandR h tb t) (hl : t.pt.items.length ≤ 1073741824)
    (H : ∀ kv vv E' h', St h [] E' h' → Rdl 1 h' kv t.pt.items.length ((t.pt.items.map Prod.fst).map I) → Rdl 1 h' vv t.pt.items.length ((t.pt.items.map Prod.snd).map I) → Q (.tuple #[kv, vv]) h') : Map_ii_keyValues.call #[ptr tb 0, .bool false] h Q := by
  refine Map_ii_keyValues.body _ _ _ _ ?_
  unfold Map_ii_keyValues.sh
  have s := St.start h
  refine Map_ii_Len_ok r.cnt ?_
  refine s.r_mks (sz := 1) (n := 0) rfl (by omega) (by omega) (by omega) fun kv kb h s w1 => ?_
  refine Map_ii_Len_ok (s.base r.cnt) ?_
  refine s.r_mks (sz := 1) (n := 0) rfl (by omega) (by omega) (by omega) fun vv vb h s w2 => ?_
  refine r_nil ?_
  refine r_fld ?_
  refine s.r_loadB r.root ?_
  refine r_neNilP ?_
  refine r_if (fun _ => ?_) (fun e => absurd e (by simp))
  refine r_nil ?_
  refine r_fld ?_
  obtain ⟨iso, w⟩ := r.wf
  have s := s.addZ r.ok
  rw [zeros_zero] at s w1 w2
  refine nodeKV t (E := []) (A := []) (B := []) w (fun x hx => List.mem_append.2 (.inl hx)) ⟨kb, 0, vb, 0, _, _, (s.perm (by ((apply perm_rg; intro f; simp only [List.set_cons_zero, List.set_cons_succ, List.eraseIdx_cons_zero, List.eraseIdx_cons_succ, List.cons_append, List.nil_append, List.map_append, List.map_cons, List.map_nil, List.sum_append, List.sum_cons, List.sum_nil, List.map_flatMap, Nat.add_zero, Nat.zero_add]; ac_rfl)))), w1, w2⟩ (s.base r.root) (by simp; omega) (by simp; omega) fun kv vv h a => ?_
  refine r_ext rfl ?_
  refine r_ext rfl ?_
  unfold Map_ii_keyValues.j1
  obtain ⟨kb, ko, vb, vo, sp1, sp2, s, w1, w2⟩ := a
  simp only [List.nil_append] at s w1 w2
  refine H _ _ _ h (s.subZ fun _ h => absurd h List.not_mem_nil) ?_ ?_
  · have := w1.rdl s 0 rfl; simpa using this
  · have := w2.rdl s 1 rfl; simpa using this

theorem KeyValues_ok {k : Nat} {t : GT It k} {tb : Nat} (r : StandR h tb t) (hl : t.pt.items.length ≤ 1073741824)
    (H : ∀ kv vv E' h', St h [] E' h' → Rdl 1 h' kv t.pt.items.length ((t.pt.items.map Prod.fst).map I) → Rdl 1 h' vv t.pt.items.length ((t.pt.items.map Prod.snd).map I) → Q (.tuple #[kv, vv]) h') : Map_ii_KeyValues.call #[ptr tb 0] h Q := by
  refine Map_ii_KeyValues.body _ _ _ ?_
  unfold Map_ii_KeyValues.sh
  refine keyValues_ok r hl fun kv vv E' h' s h1 h2 => ?_
  refine r_ext rfl ?_
  refine r_ext rfl ?_
  exact H _ _ _ _ s h1 h2
end Go.Proofs.Ytlihjljdndbpdaa
end
section
namespace Go.Proofs.Ytlihjljdndbpdaa
open Go.Hp
set_option linter.unusedVariables false
set_option linter.unusedSimpArgs false
variable {h0 h : Heap} {Z E : List Rg} {Q : Value → Heap → Prop}

def exPT : PT It 1 := ([(4, 1)], [([(2, 2)] : List It), ([(6, 3)] : List It)])
theorem l_exNode_ok (H : ∀ vi vk E' h', St h [] E' h' → ArgT h' exPT vi vk → Q (.agg #[vi, vk, .int .i64 0]) h') : l_exNode.call #[] h Q := by
  refine l_exNode.body _ _ ?_
  unfold l_exNode.sh
  have s := St.start h
  refine s.r_alloc fun t0 h s => ?_
  ((apply r_build; ((simp only [fillV, fill1, Value.cells, zeros_succ, zeros_zero, List.size_toArray, List.length_cons, List.length_nil, List.length_append, List.take_succ_cons, List.take_zero, List.take_nil, List.drop_succ_cons, List.drop_zero, List.drop_nil, List.cons_append, List.nil_append, List.append_nil, Nat.reduceAdd, Nat.reduceMul, Nat.reduceLeDiff, Nat.reduceEqDiff, and_self, and_true, true_and, if_true, Nat.le_refl, Nat.zero_add, Nat.add_zero, Nat.zero_mul, reduceIte, if_false] <;> rfl))))
  refine s.r_mkSl (sz := 2) (cs := [I 4, I 1]) (by ((simp only [fillV, fill1, Value.cells, zeros_succ, zeros_zero, List.size_toArray, List.length_cons, List.length_nil, List.length_append, List.take_succ_cons, List.take_zero, List.take_nil, List.drop_succ_cons, List.drop_zero, List.drop_nil, List.cons_append, List.nil_append, List.append_nil, Nat.reduceAdd, Nat.reduceMul, Nat.reduceLeDiff, Nat.reduceEqDiff, and_self, and_true, true_and, if_true, Nat.le_refl, Nat.zero_add, Nat.add_zero, Nat.zero_mul, reduceIte, if_false] <;> rfl))) rfl fun t2 h s w2 => ?_
  ((apply r_build; ((simp only [fillV, fill1, Value.cells, zeros_succ, zeros_zero, List.size_toArray, List.length_cons, List.length_nil, List.length_append, List.take_succ_cons, List.take_zero, List.take_nil, List.drop_succ_cons, List.drop_zero, List.drop_nil, List.cons_append, List.nil_append, List.append_nil, Nat.reduceAdd, Nat.reduceMul, Nat.reduceLeDiff, Nat.reduceEqDiff, and_self, and_true, true_and, if_true, Nat.le_refl, Nat.zero_add, Nat.add_zero, Nat.zero_mul, reduceIte, if_false] <;> rfl))))
  refine s.r_mkSl (sz := 2) (cs := [I 2, I 2]) (by ((simp only [fillV, fill1, Value.cells, zeros_succ, zeros_zero, List.size_toArray, List.length_cons, List.length_nil, List.length_append, List.take_succ_cons, List.take_zero, List.take_nil, List.drop_succ_cons, List.drop_zero, List.drop_nil, List.cons_append, List.nil_append, List.append_nil, Nat.reduceAdd, Nat.reduceMul, Nat.reduceLeDiff, Nat.reduceEqDiff, and_self, and_true, true_and, if_true, Nat.le_refl, Nat.zero_add, Nat.add_zero, Nat.zero_mul, reduceIte, if_false] <;> rfl))) rfl fun t4 h s w4 => ?_
  ((apply r_build; ((simp only [fillV, fill1, Value.cells, zeros_succ, zeros_zero, List.size_toArray, List.length_cons, List.length_nil, List.length_append, List.take_succ_cons, List.take_zero, List.take_nil, List.drop_succ_cons, List.drop_zero, List.drop_nil, List.cons_append, List.nil_append, List.append_nil, Nat.reduceAdd, Nat.reduceMul, Nat.reduceLeDiff, Nat.reduceEqDiff, and_self, and_true, true_and, if_true, Nat.le_refl, Nat.zero_add, Nat.add_zero, Nat.zero_mul, reduceIte, if_false] <;> rfl))))
  ((apply r_build; ((simp only [fillV, fill1, Value.cells, zeros_succ, zeros_zero, List.size_toArray, List.length_cons, List.length_nil, List.length_append, List.take_succ_cons, List.take_zero, List.take_nil, List.drop_succ_cons, List.drop_zero, List.drop_nil, List.cons_append, List.nil_append, List.append_nil, Nat.reduceAdd, Nat.reduceMul, Nat.reduceLeDiff, Nat.reduceEqDiff, and_self, and_true, true_and, if_true, Nat.le_refl, Nat.zero_add, Nat.add_zero, Nat.zero_mul, reduceIte, if_false] <;> rfl))))
  refine s.r_mkSl (sz := 2) (cs := [I 6, I 3]) (by ((simp only [fillV, fill1, Value.cells, zeros_succ, zeros_zero, List.size_toArray, List.length_cons, List.length_nil, List.length_append, List.take_succ_cons, List.take_zero, List.take_nil, List.drop_succ_cons, List.drop_zero, List.drop_nil, List.cons_append, List.nil_append, List.append_nil, Nat.reduceAdd, Nat.reduceMul, Nat.reduceLeDiff, Nat.reduceEqDiff, and_self, and_true, true_and, if_true, Nat.le_refl, Nat.zero_add, Nat.add_zero, Nat.zero_mul, reduceIte, if_false] <;> rfl))) rfl fun t7 h s w7 => ?_
  ((apply r_build; ((simp only [fillV, fill1, Value.cells, zeros_succ, zeros_zero, List.size_toArray, List.length_cons, List.length_nil, List.length_append, List.take_succ_cons, List.take_zero, List.take_nil, List.drop_succ_cons, List.drop_zero, List.drop_nil, List.cons_append, List.nil_append, List.append_nil, Nat.reduceAdd, Nat.reduceMul, Nat.reduceLeDiff, Nat.reduceEqDiff, and_self, and_true, true_and, if_true, Nat.le_refl, Nat.zero_add, Nat.add_zero, Nat.zero_mul, reduceIte, if_false] <;> rfl))))
  refine s.r_mkSl (sz := 3) (cs := [.slice (some ⟨t4, 0, none⟩) 1 1, .slice none 0 0, I 0, .slice (some ⟨t7, 0, none⟩) 1 1, .slice none 0 0, I 0]) (by ((simp only [fillV, fill1, Value.cells, zeros_succ, zeros_zero, List.size_toArray, List.length_cons, List.length_nil, List.length_append, List.take_succ_cons, List.take_zero, List.take_nil, List.drop_succ_cons, List.drop_zero, List.drop_nil, List.cons_append, List.nil_append, List.append_nil, Nat.reduceAdd, Nat.reduceMul, Nat.reduceLeDiff, Nat.reduceEqDiff, and_self, and_true, true_and, if_true, Nat.le_refl, Nat.zero_add, Nat.add_zero, Nat.zero_mul, reduceIte, if_false] <;> rfl))) rfl fun t9 h s w9 => ?_
  ((apply r_build; ((simp only [fillV, fill1, Value.cells, zeros_succ, zeros_zero, List.size_toArray, List.length_cons, List.length_nil, List.length_append, List.take_succ_cons, List.take_zero, List.take_nil, List.drop_succ_cons, List.drop_zero, List.drop_nil, List.cons_append, List.nil_append, List.append_nil, Nat.reduceAdd, Nat.reduceMul, Nat.reduceLeDiff, Nat.reduceEqDiff, and_self, and_true, true_and, if_true, Nat.le_refl, Nat.zero_add, Nat.add_zero, Nat.zero_mul, reduceIte, if_false] <;> rfl))))
  refine St.r_storeN0 s 4 rfl rfl (by simp) (by simp [one1]) ?_; intro h s
  refine St.r_loadN0 s 4 rfl (by simp) ?_
  refine H _ _ _ h s ⟨w2.rdl s 3 rfl, by simp [exPT], [(.slice (some ⟨t4, 0, none⟩) 1 1, .slice none 0 0, 0), (.slice (some ⟨t7, 0, none⟩) 1 1, .slice none 0 0, 0)], rfl, w9.rdl s 0 rfl, fun j h1 h2 => ?_⟩
  match j, h1, h2 with
  | 0, h1, h2 => exact ⟨w4.rdl s 2 rfl, _, _, rfl⟩
  | 1, h1, h2 => exact ⟨w7.rdl s 1 rfl, _, _, rfl⟩

theorem i_DKeyValues_ok {k : Nat} (x : PT It k) {d : Int} {vi vk vc : Value} (ha : ArgT h x vi vk) (hsh : x.Sh 2147483647) (hsz : x.items.length ≤ 1073741824) (hvc : one1 vc = true) (h1 : 2 ≤ d) (h2 : d ≤ 1073741824) (hne : x.its ≠ []) (hk : k ≤ 1000000)
    (H : ∀ kv vv E' h', St h [] E' h' → Rdl 1 h' kv x.items.length ((x.items.map Prod.fst).map I) → Rdl 1 h' vv x.items.length ((x.items.map Prod.snd).map I) → Q (.tuple #[kv, vv, .int .i64 x.items.length, .int .i64 ((k + 1 : Nat) : Int)]) h') : i_DKeyValues.call #[.int .i64 d, .agg #[vi, vk, vc]] h Q := by
  refine i_DKeyValues.body _ _ _ _ ?_
  unfold i_DKeyValues.sh
  have s := St.start h
  refine St.r_box (cs := [vi, vk, vc]) s fun t3 h s => ?_
  refine St.r_loadN0 s 0 rfl (by simp) ?_
  refine i_standMap_ok x (ha.fr s.fr) hsh (by omega) hvc h1 h2 hne fun t tb h ht1 ht2 ht3 ht4 s1 => ?_
  have s := s.join s1
  have r : StandR h tb t := ⟨s.get (k := 0) (j := 2) rfl (by simp), by have := s.get (k := 0) (j := 3) rfl (by simp); rw [ht1]; exact this, ⟨0, ht2⟩, fun q hq => s.ok (by
    rw [← ht4.all] at hq
    exact List.mem_append.2 (.inl (List.mem_append.2 (.inl (List.mem_cons_of_mem _ hq)))))⟩
  refine KeyValues_ok r (by rw [ht1]; exact hsz) fun kv vv E' h' s2 hk hv => ?_
  have r' : ∀ {b o : Nat} {v : Value}, cl h b o = some v → cl h' b o = some v := fun e => s2.base e
  refine r_ext rfl ?_
  refine r_ext rfl ?_
  refine Map_ii_Len_ok (r' r.cnt) ?_
  refine Map_ii_Height_ok (t := t) (r' r.root) ((GT.At.of ht2 r.ok).fr s2.fr) (by omega) ?_
  rw [ht1] at hk hv ⊢
  exact H kv vv _ h' (s.join s2) hk hv

theorem l_aliveD_ok (H : ∀ E' h', St h [] E' h' → Q (.bool true) h') : l_aliveD.call #[] h Q := by
  refine l_aliveD.body _ _ ?_
  unfold l_aliveD.sh
  have s := St.start h
  refine l_exNode_ok fun vi vk E' h s1 ha => ?_
  have s := s.join s1
  refine i_DKeyValues_ok exPT ha ⟨by decide, rfl, fun q hq => (by
    rcases List.mem_cons.1 hq with e | e
    · rw [e]; show 1 ≤ 2147483647; decide
    · rcases List.mem_cons.1 e with e | e
      · rw [e]; show 1 ≤ 2147483647; decide
      · exact absurd e List.not_mem_nil)⟩ (by decide) rfl (by decide) (by decide) (by decide) (by decide) fun kv vv E' h s2 hk hv => ?_
  have s := s.join s2
  refine r_ext rfl ?_
  refine r_ext rfl ?_
  refine r_ext rfl ?_
  refine r_ext rfl ?_
  refine hk.lenV ?_
  refine r_cmpI ?_
  refine r_br (fun _ => ?_) (fun e => absurd e (by decide))
  refine hv.lenV ?_
  refine r_cmpI ?_
  refine r_br (fun _ => ?_) (fun e => absurd e (by decide))
  refine r_cmpI ?_
  refine r_br (fun _ => ?_) (fun e => absurd e (by decide))
  refine r_cmpI ?_
  exact H _ h s
end Go.Proofs.Ytlihjljdndbpdaa
end
section
namespace Go.Proofs.Ytlihjljdndbpdaa
open Go.Hp
set_option maxRecDepth 100000
set_option maxHeartbeats 8000000
set_option linter.unusedVariables false
set_option linter.unusedSimpArgs false

/-! ### (*pub/tidwallbtree.Map[int, int]).nodeSplit -/
def Map_ii_nodeSplit.j2 (s1 : Value) (s4 : Value) (s5 : Value) (h : Heap) (Q : Value → Heap → Prop) : Prop :=
    mapNode_ii_updateCount.call #[s1] h fun t92 h =>
    loadN 2 s5 h fun t94 =>
    storeN 2 s5 t94 h fun h =>
    loadN 2 s5 h fun r5 =>
    Q (.tuple #[s4, r5]) h
def Map_ii_nodeSplit.j1 (s0 : Value) (s1 : Value) (s4 : Value) (s5 : Value) (s6 : Value) (h : Heap) (Q : Value → Heap → Prop) : Prop :=
    mapNode_ii_updateCount.call #[s4] h fun t51 h =>
    nilck s1 fun t53 =>
    fld 2 t53 fun t54 =>
    load1 t54 h fun t55 =>
    nilck s0 fun t58 =>
    fld 4 t58 fun t59 =>
    loadN 2 t59 h fun t60 =>
    idx 2 t55 s6 fun t61 =>
    storeN 2 t61 t60 h fun h =>
    nilck s1 fun t64 =>
    fld 2 t64 fun t65 =>
    load1 t65 h fun t66 =>
    slc 2 t66 none (some s6) (some s6) fun t69 =>
    nilck s1 fun t70 =>
    fld 2 t70 fun t71 =>
    store1 t71 t69 h fun h =>
    mapNode_ii_leaf.call #[s1] h fun t73 h =>
    notV t73 fun t74 =>
    ifV t74
    (nilck s1 fun t76 =>
    fld 3 t76 fun t77 =>
    load1 t77 h fun t78 =>
    nilck s1 fun t80 =>
    fld 3 t80 fun t81 =>
    load1 t81 h fun t82 =>
    nilck t82 fun t83 =>
    load1 t83 h fun t84 =>
    arith (· + ·) s6 (.int .i64 1) fun t86 =>
    arith (· + ·) s6 (.int .i64 1) fun t88 =>
    slc 1 t84 none (some t86) (some t88) fun t89 =>
    nilck t78 fun t90 =>
    store1 t90 t89 h fun h =>
    Map_ii_nodeSplit.j2 s1 s4 s5 h Q)
    (Map_ii_nodeSplit.j2 s1 s4 s5 h Q)
def Map_ii_nodeSplit.sh (a0 : Value) (a1 : Value) (h : Heap) (Q : Value → Heap → Prop) : Prop :=
    alloc [(.int .i64 0), (.int .i64 0)] 178 h fun t5 h =>
    nilck a0 fun t8 =>
    fld 7 t8 fun t9 =>
    load1 t9 h fun t10 =>
    divi t10 (.int .i64 2) fun t11 =>
    nilck a1 fun t13 =>
    fld 2 t13 fun t14 =>
    load1 t14 h fun t15 =>
    idx 2 t15 t11 fun t17 =>
    loadN 2 t17 h fun t18 =>
    storeN 2 t5 t18 h fun h =>
    mapNode_ii_leaf.call #[a1] h fun t21 h =>
    Map_ii_newNode.call #[a0, t21] h fun t22 h =>
    nilck a1 fun t25 =>
    fld 2 t25 fun t26 =>
    load1 t26 h fun t27 =>
    arith (· + ·) t11 (.int .i64 1) fun t29 =>
    slc 2 t27 (some t29) none none fun t30 =>
    nilck t22 fun t31 =>
    fld 2 t31 fun t32 =>
    store1 t32 t30 h fun h =>
    mapNode_ii_leaf.call #[a1] h fun t34 h =>
    notV t34 fun t35 =>
    ifV t35
    (nilck t22 fun t37 =>
    fld 3 t37 fun t38 =>
    load1 t38 h fun t39 =>
    nilck a1 fun t41 =>
    fld 3 t41 fun t42 =>
    load1 t42 h fun t43 =>
    nilck t43 fun t44 =>
    load1 t44 h fun t45 =>
    arith (· + ·) t11 (.int .i64 1) fun t47 =>
    slc 1 t45 (some t47) none none fun t48 =>
    nilck t39 fun t49 =>
    store1 t49 t48 h fun h =>
    Map_ii_nodeSplit.j1 a0 a1 t22 t5 t11 h Q)
    (Map_ii_nodeSplit.j1 a0 a1 t22 t5 t11 h Q)
theorem Map_ii_nodeSplit.body (a0 : Value) (a1 : Value) (h : Heap) (Q : Value → Heap → Prop) (H : Map_ii_nodeSplit.sh a0 a1 h Q) : Map_ii_nodeSplit.call #[a0, a1] h Q := by
  refine callsH_of (args := [a0, a1]) Try.func114 rfl rfl ?_
  unfold Map_ii_nodeSplit.sh at H
  refine WPc_seq' ?_
  refine W_region (by kernel_rfl) ?_
  refine vl_n ?_
  refine H_of_R (R_assign (v := (.pointer none)) rfl ?_)
  refine vl_n ?_
  refine H_alloc TV_178 H fun t5 h H => ?_
  refine vl_e ?_
  refine WPc_seq' ?_
  refine W_region (by kernel_rfl) ?_
  refine vl_n ?_
  refine H_of_R (R_move (v := a0) rfl ?_)
  refine vl_n ?_
  refine H_of_R (R_nil H fun t8 H => ?_)
  refine vl_n ?_
  refine H_of_R (R_fld TF_182_6 H fun t9 H => ?_)
  refine vl_n ?_
  refine H_of_R (R_load1 T1_3 H fun _ t10 _ _ H => ?_)
  refine vl_n ?_
  refine H_of_R (R_quo H fun t11 H => ?_)
  refine vl_n ?_
  refine H_of_R (R_assign (v := t11) rfl ?_)
  refine vl_e ?_
  refine WPc_seq' ?_
  refine W_region (by kernel_rfl) ?_
  refine vl_n ?_
  refine H_of_R (R_move (v := a1) rfl ?_)
  refine vl_n ?_
  refine H_of_R (R_nil H fun t13 H => ?_)
  refine vl_n ?_
  refine H_of_R (R_fld TF_188_2 H fun t14 H => ?_)
  refine vl_n ?_
  refine H_of_R (R_load1 T1_185 H fun _ t15 _ _ H => ?_)
  refine vl_n ?_
  refine H_of_R (R_move (v := t11) rfl ?_)
  refine vl_n ?_
  refine H_of_R (R_idx TE_185 H fun t17 H => ?_)
  refine vl_n ?_
  refine H_of_R (R_loadN TN_178 H fun _ t18 _ _ H _ _ => ?_)
  refine vl_n ?_
  refine H_storeN TS_178 H fun h H => ?_
  refine vl_e ?_
  refine WPc_seq' ?_
  refine W_region (by kernel_rfl) ?_
  refine vl_n ?_
  refine H_of_R (R_move (v := a0) rfl ?_)
  refine vl_n ?_
  refine H_of_R (R_move (v := a1) rfl ?_)
  refine vl_n ?_
  refine H_call HB_126 H fun t21 h H => ?_
  refine vl_n ?_
  refine H_call HB_112 H fun t22 h H => ?_
  refine vl_n ?_
  refine H_of_R (R_assign (v := t22) rfl ?_)
  refine vl_e ?_
  refine WPc_seq' ?_
  refine W_region (by kernel_rfl) ?_
  refine vl_n ?_
  refine H_of_R (R_move (v := t22) rfl ?_)
  refine vl_n ?_
  refine H_of_R (R_move (v := a1) rfl ?_)
  refine vl_n ?_
  refine H_of_R (R_nil H fun t25 H => ?_)
  refine vl_n ?_
  refine H_of_R (R_fld TF_188_2 H fun t26 H => ?_)
  refine vl_n ?_
  refine H_of_R (R_load1 T1_185 H fun _ t27 _ _ H => ?_)
  refine vl_n ?_
  refine H_of_R (R_move (v := t11) rfl ?_)
  refine vl_n ?_
  refine H_of_R (R_add H fun t29 H => ?_)
  refine vl_n ?_
  refine H_of_R (R_slice TE_185 (by decide) H fun t30 H => ?_)
  refine vl_n ?_
  refine H_of_R (R_nil H fun t31 H => ?_)
  refine vl_n ?_
  refine H_of_R (R_fld TF_188_2 H fun t32 H => ?_)
  refine vl_n ?_
  refine H_store1 TS_185 H fun h H => ?_
  refine vl_e ?_
  refine WPc_seq (fun e h => Map_ii_nodeSplit.j1 (e 0) (e 1) (e 4) (e 5) (e 6) h Q) ?_ (fun e h H => ?_)
  rotate_left
  · unfold Map_ii_nodeSplit.j1 at H
    refine WPc_seq' ?_
    refine W_region (by kernel_rfl) ?_
    refine vl_n ?_
    refine H_of_R (R_move (v := (e 4)) rfl ?_)
    refine vl_n ?_
    refine H_call HB_115 H fun t51 h H => ?_
    refine vl_e ?_
    refine WPc_seq' ?_
    refine W_drawn [0, 1, 3, 7, 0, 0, 32, 96, 224, 511, 1023] (.take 0 (.take 1 (.take 2 (.take 3 (.take 4 (.take 5 (.take 6 (.take 7 (.take 8 (.take 9 (.alt 10 .done .none))))))))))) mixed (by kernel_rfl) ?_
    refine tkP rfl ?_
    refine R_move (v := (e 1)) rfl ⟨fun _ => trivial, ?_⟩
    refine tkP rfl ?_
    refine R_nil H fun t53 H => ⟨fun _ => trivial, ?_⟩
    refine tkP rfl ?_
    refine R_fld TF_188_2 H fun t54 H => ⟨fun _ => trivial, ?_⟩
    refine tkL rfl ?_
    refine R_load1 T1_185 H fun at55 t55 hat55 _ H => ?_
    refine tkP rfl ?_
    refine R_move (v := (e 6)) rfl ⟨fun _ => trivial, ?_⟩
    refine tkP rfl ?_
    refine R_move (v := (e 0)) rfl ⟨fun _ => trivial, ?_⟩
    refine tkP rfl ?_
    refine R_nil H fun t58 H => ⟨fun _ => trivial, ?_⟩
    refine tkP rfl ?_
    refine R_fld TF_182_4 H fun t59 H => ⟨fun _ => trivial, ?_⟩
    refine tkL rfl ?_
    refine R_loadN TN_178 H fun at60 xt60 hat60 _ H St60 hSt60 => ?_
    refine tkP rfl ?_
    refine R_idx TE_185 H fun t61 H => ⟨fun _ => trivial, ?_⟩
    refine alt_n rfl ?_ vp_none
    refine H_storeN TS_178 H fun h H => ⟨(hskip rfl (hskip rfl hnil)), ?_⟩
    refine vp_done ?_
    refine WPc_seq' ?_
    refine W_region (by kernel_rfl) ?_
    refine vl_n ?_
    refine H_of_R (R_move (v := (e 1)) rfl ?_)
    refine vl_n ?_
    refine H_of_R (R_move (v := (e 1)) rfl ?_)
    refine vl_n ?_
    refine H_of_R (R_nil H fun t64 H => ?_)
    refine vl_n ?_
    refine H_of_R (R_fld TF_188_2 H fun t65 H => ?_)
    refine vl_n ?_
    refine H_of_R (R_load1 T1_185 H fun _ t66 _ _ H => ?_)
    refine vl_n ?_
    refine H_of_R (R_move (v := (e 6)) rfl ?_)
    refine vl_n ?_
    refine H_of_R (R_move (v := (e 6)) rfl ?_)
    refine vl_n ?_
    refine H_of_R (R_slice TE_185 (by decide) H fun t69 H => ?_)
    refine vl_n ?_
    refine H_of_R (R_nil H fun t70 H => ?_)
    refine vl_n ?_
    refine H_of_R (R_fld TF_188_2 H fun t71 H => ?_)
    refine vl_n ?_
    refine H_store1 TS_185 H fun h H => ?_
    refine vl_e ?_
    refine WPc_seq (fun e h => Map_ii_nodeSplit.j2 (e 1) (e 4) (e 5) h Q) ?_ (fun e h H => ?_)
    rotate_left
    · unfold Map_ii_nodeSplit.j2 at H
      refine WPc_seq' ?_
      refine W_region (by kernel_rfl) ?_
      refine vl_n ?_
      refine H_of_R (R_move (v := (e 1)) rfl ?_)
      refine vl_n ?_
      refine H_call HB_115 H fun t92 h H => ?_
      refine vl_e ?_
      refine WPc_seq' ?_
      refine W_drawn [0, 0, 1, 7] (.take 0 (.take 1 (.take 2 (.alt 3 .done .none)))) mixed (by kernel_rfl) ?_
      refine tkP rfl ?_
      refine R_move (v := (e 4)) rfl ⟨fun _ => trivial, ?_⟩
      refine tkL rfl ?_
      refine R_loadN TN_178 H fun at94 xt94 hat94 _ H St94 hSt94 => ?_
      refine tkP rfl ?_
      refine R_assign (v := (e 4)) rfl ⟨fun _ => trivial, ?_⟩
      refine alt_n rfl ?_ vp_none
      refine H_storeN TS_178 H fun h H => ⟨(hskip rfl hnil), ?_⟩
      refine vp_done ?_
      refine WPc_ret ?_
      refine resH_of rfl ?_
      refine resL_t ?_
      refine resL_N TN_178 ?_
      refine loadN_imp H fun r5 H => ?_
      exact H
    refine WPc_seq' ?_
    refine W_region (by kernel_rfl) ?_
    refine vl_n ?_
    refine H_of_R (R_move (v := (e 1)) rfl ?_)
    refine vl_n ?_
    refine H_call HB_126 H fun t73 h H => ?_
    refine vl_n ?_
    refine H_of_R (R_not H fun t74 H => ?_)
    refine vl_e ?_
    obtain ⟨b, hc, H1, H2⟩ := H
    refine WPc_cond hc (fun hh => ?_) (fun hh => ?_)
    · have H := H1 hh; clear H1 H2
      refine W_drawn [0, 1, 3, 7, 0, 16, 48, 112, 240, 496, 0, 1024, 0, 4096, 16368, 32767, 65535] (.take 0 (.take 1 (.take 2 (.take 3 (.take 4 (.take 5 (.take 6 (.take 7 (.take 8 (.take 9 (.take 10 (.take 11 (.take 12 (.take 13 (.take 14 (.take 15 (.alt 16 .done .none))))))))))))))))) mixed (by kernel_rfl) ?_
      refine tkP rfl ?_
      refine R_move (v := (e 1)) rfl ⟨fun _ => trivial, ?_⟩
      refine tkP rfl ?_
      refine R_nil H fun t76 H => ⟨fun _ => trivial, ?_⟩
      refine tkP rfl ?_
      refine R_fld TF_188_3 H fun t77 H => ⟨fun _ => trivial, ?_⟩
      refine tkL rfl ?_
      refine R_load1 T1_186 H fun at78 t78 hat78 _ H => ?_
      refine tkP rfl ?_
      refine R_move (v := (e 1)) rfl ⟨fun _ => trivial, ?_⟩
      refine tkP rfl ?_
      refine R_nil H fun t80 H => ⟨fun _ => trivial, ?_⟩
      refine tkP rfl ?_
      refine R_fld TF_188_3 H fun t81 H => ⟨fun _ => trivial, ?_⟩
      refine tkL rfl ?_
      refine R_load1 T1_186 H fun at82 t82 hat82 _ H => ?_
      refine tkP rfl ?_
      refine R_nil H fun t83 H => ⟨fun _ => trivial, ?_⟩
      refine tkL rfl ?_
      refine R_load1 T1_194 H fun at84 t84 hat84 _ H => ?_
      refine tkP rfl ?_
      refine R_move (v := (e 6)) rfl ⟨fun _ => trivial, ?_⟩
      refine tkP rfl ?_
      refine R_add H fun t86 H => ⟨fun _ => trivial, ?_⟩
      refine tkP rfl ?_
      refine R_move (v := (e 6)) rfl ⟨fun _ => trivial, ?_⟩
      refine tkP rfl ?_
      refine R_add H fun t88 H => ⟨fun _ => trivial, ?_⟩
      refine tkP rfl ?_
      refine R_slice TE_194 (by decide) H fun t89 H => ⟨fun _ => trivial, ?_⟩
      refine tkP rfl ?_
      refine R_nil H fun t90 H => ⟨fun _ => trivial, ?_⟩
      refine alt_n rfl ?_ vp_none
      refine H_store1 TS_194 H fun h H => ⟨(hskip rfl (hskip rfl (hskip rfl hnil))), ?_⟩
      refine vp_done ?_
      exact H
    · have H := H2 hh; clear H1 H2
      refine WPc_skip ?_
      exact H
  refine WPc_seq' ?_
  refine W_region (by kernel_rfl) ?_
  refine vl_n ?_
  refine H_of_R (R_move (v := a1) rfl ?_)
  refine vl_n ?_
  refine H_call HB_126 H fun t34 h H => ?_
  refine vl_n ?_
  refine H_of_R (R_not H fun t35 H => ?_)
  refine vl_e ?_
  obtain ⟨b, hc, H1, H2⟩ := H
  refine WPc_cond hc (fun hh => ?_) (fun hh => ?_)
  · have H := H1 hh; clear H1 H2
    refine W_drawn [0, 1, 3, 7, 0, 16, 48, 112, 240, 496, 0, 1024, 4080, 8191, 16383] (.take 0 (.take 1 (.take 2 (.take 3 (.take 4 (.take 5 (.take 6 (.take 7 (.take 8 (.take 9 (.take 10 (.take 11 (.take 12 (.take 13 (.alt 14 .done .none))))))))))))))) mixed (by kernel_rfl) ?_
    refine tkP rfl ?_
    refine R_move (v := t22) rfl ⟨fun _ => trivial, ?_⟩
    refine tkP rfl ?_
    refine R_nil H fun t37 H => ⟨fun _ => trivial, ?_⟩
    refine tkP rfl ?_
    refine R_fld TF_188_3 H fun t38 H => ⟨fun _ => trivial, ?_⟩
    refine tkL rfl ?_
    refine R_load1 T1_186 H fun at39 t39 hat39 _ H => ?_
    refine tkP rfl ?_
    refine R_move (v := a1) rfl ⟨fun _ => trivial, ?_⟩
    refine tkP rfl ?_
    refine R_nil H fun t41 H => ⟨fun _ => trivial, ?_⟩
    refine tkP rfl ?_
    refine R_fld TF_188_3 H fun t42 H => ⟨fun _ => trivial, ?_⟩
    refine tkL rfl ?_
    refine R_load1 T1_186 H fun at43 t43 hat43 _ H => ?_
    refine tkP rfl ?_
    refine R_nil H fun t44 H => ⟨fun _ => trivial, ?_⟩
    refine tkL rfl ?_
    refine R_load1 T1_194 H fun at45 t45 hat45 _ H => ?_
    refine tkP rfl ?_
    refine R_move (v := t11) rfl ⟨fun _ => trivial, ?_⟩
    refine tkP rfl ?_
    refine R_add H fun t47 H => ⟨fun _ => trivial, ?_⟩
    refine tkP rfl ?_
    refine R_slice TE_194 (by decide) H fun t48 H => ⟨fun _ => trivial, ?_⟩
    refine tkP rfl ?_
    refine R_nil H fun t49 H => ⟨fun _ => trivial, ?_⟩
    refine alt_n rfl ?_ vp_none
    refine H_store1 TS_194 H fun h H => ⟨(hskip rfl (hskip rfl (hskip rfl hnil))), ?_⟩
    refine vp_done ?_
    exact H
  · have H := H2 hh; clear H1 H2
    refine WPc_skip ?_
    exact H
/-! ### (*pub/tidwallbtree.Map[int, int]).search -/
def Map_ii_search.j2 (s8 : Value) (h : Heap) (Q : Value → Heap → Prop) : Prop :=
    Q (.tuple #[s8, (.bool false)]) h
def Map_ii_search.j1 (s1 : Value) (s2 : Value) (s8 : Value) (h : Heap) (Q : Value → Heap → Prop) : Prop :=
    cmpI (fun a b => decide (a > b)) s8 (.int .i64 0) fun t38 =>
    br t38 true (nilck s1 fun t41 =>
    fld 2 t41 fun t42 =>
    load1 t42 h fun t43 =>
    arith (· - ·) s8 (.int .i64 1) fun t45 =>
    idx 2 t43 t45 fun t46 =>
    fld 1 t46 fun t47 =>
    load1 t47 h fun t48 =>
    cmpI (fun a b => decide (a < b)) t48 s2 fun t50 =>
    notV t50 fun t51 =>
    ifV t51
    (arith (· - ·) s8 (.int .i64 1) fun t54 =>
    Q (.tuple #[t54, (.bool true)]) h)
    (Map_ii_search.j2 s8 h Q)) (Map_ii_search.j2 s8 h Q)
def Map_ii_search.j4 (s1 : Value) (s2 : Value) (s8 : Value) (s9 : Value) (h : Heap) (K1 : List Value → Heap → Prop) (Q : Value → Heap → Prop) : Prop :=
    arith (· + ·) s8 s9 fun t21 =>
    divi t21 (.int .i64 2) fun t22 =>
    nilck s1 fun t25 =>
    fld 2 t25 fun t26 =>
    load1 t26 h fun t27 =>
    idx 2 t27 t22 fun t29 =>
    fld 1 t29 fun t30 =>
    load1 t30 h fun t31 =>
    cmpI (fun a b => decide (a < b)) s2 t31 fun t32 =>
    notV t32 fun t33 =>
    ifV t33
    (arith (· + ·) t22 (.int .i64 1) fun t35 =>
    K1 [t35, s9] h)
    (K1 [s8, t22] h)
def Map_ii_search.l3.b (c1 : Value) (c2 : Value) (s8 : Value) (s9 : Value) (h : Heap) (K1 : List Value → Heap → Prop) (Q : Value → Heap → Prop) : Prop :=
    cmpI (fun a b => decide (a < b)) s8 s9 fun t18 =>
    ifV t18
    (Map_ii_search.j4 c1 c2 s8 s9 h K1 Q)
    (Map_ii_search.j1 c1 c2 s8 h Q)
def Map_ii_search.sh (a0 : Value) (a1 : Value) (a2 : Value) (h : Heap) (Q : Value → Heap → Prop) : Prop :=
    nilck a1 fun t12 =>
    fld 2 t12 fun t13 =>
    load1 t13 h fun t14 =>
    lenV t14 fun t15 =>
    loopC (fun c s h K1 => Map_ii_search.l3.b (c.getD 0 undef) (c.getD 1 undef) (s.getD 0 undef) (s.getD 1 undef) h K1 Q) [a1, a2] [(.int .i64 0), t15] h
theorem Map_ii_search.body (a0 : Value) (a1 : Value) (a2 : Value) (h : Heap) (Q : Value → Heap → Prop) (H : Map_ii_search.sh a0 a1 a2 h Q) : Map_ii_search.call #[a0, a1, a2] h Q := by
  refine callsH_of (args := [a0, a1, a2]) Try.func156 rfl rfl ?_
  unfold Map_ii_search.sh at H
  refine WPc_seq' ?_
  refine W_region (by kernel_rfl) ?_
  refine vl_n ?_
  refine H_of_R (R_assign (v := (.int .i64 0)) rfl ?_)
  refine vl_n ?_
  refine H_of_R (R_assign (v := (.bool false)) rfl ?_)
  refine vl_e ?_
  refine WPc_seq' ?_
  refine W_drawn [0, 1, 3, 7, 15, 0, 63] (.take 0 (.take 1 (.take 2 (.take 3 (.take 4 (.take 5 (.take 6 .done))))))) mixed (by kernel_rfl) ?_
  refine tkP rfl ?_
  refine R_move (v := a1) rfl ⟨fun _ => trivial, ?_⟩
  refine tkP rfl ?_
  refine R_nil H fun t12 H => ⟨fun _ => trivial, ?_⟩
  refine tkP rfl ?_
  refine R_fld TF_188_2 H fun t13 H => ⟨fun _ => trivial, ?_⟩
  refine tkL rfl ?_
  refine R_load1 T1_185 H fun at14 t14 hat14 _ H => ?_
  refine tkP rfl ?_
  refine R_len Try.underlying185 H fun t15 H => ⟨fun _ => trivial, ?_⟩
  refine tkP rfl ?_
  refine R_assign (v := (.int .i64 0)) rfl ⟨fun _ => trivial, ?_⟩
  refine tkP rfl ?_
  refine R_assign (v := t15) rfl ⟨fun _ => trivial, ?_⟩
  refine vp_done ?_
  refine WPc_seq (fun e h => Map_ii_search.j1 (e 1) (e 2) (e 8) h Q) ?_ (fun e h H => ?_)
  rotate_left
  · unfold Map_ii_search.j1 at H
    refine WPc_seq (fun e h => Map_ii_search.j2 (e 8) h Q) ?_ (fun e h H => ?_)
    rotate_left
    · unfold Map_ii_search.j2 at H
      refine WPc_seq' ?_
      refine W_region (by kernel_rfl) ?_
      refine vl_n ?_
      refine H_of_R (R_move (v := (e 8)) rfl ?_)
      refine vl_n ?_
      refine H_of_R (R_assign (v := (e 8)) rfl ?_)
      refine vl_n ?_
      refine H_of_R (R_assign (v := (.bool false)) rfl ?_)
      refine vl_e ?_
      refine WPc_ret ?_
      refine resH_of rfl ?_
      exact H
    refine WPc_seq' ?_
    refine W_region (by kernel_rfl) ?_
    refine vl_n ?_
    refine H_of_R (R_move (v := (e 8)) rfl ?_)
    refine vl_n ?_
    refine H_of_R (R_gtr H fun t38 H => ?_)
    refine vl_n ?_
    refine H_of_R (R_move (v := t38) rfl ?_)
    obtain ⟨b, hb, H1, H2⟩ := H
    cases b
    · have H := H2 rfl; clear H1 H2
      refine vl_s rfl (nbT hb) ?_
      refine vl_s rfl (nbT hb) ?_
      refine vl_s rfl (nbT hb) ?_
      refine vl_s rfl (nbT hb) ?_
      refine vl_s rfl (nbT hb) ?_
      refine vl_s rfl (nbT hb) ?_
      refine vl_s rfl (nbT hb) ?_
      refine vl_s rfl (nbT hb) ?_
      refine vl_s rfl (nbT hb) ?_
      refine vl_s rfl (nbT hb) ?_
      refine vl_s rfl (nbT hb) ?_
      refine vl_s rfl (nbT hb) ?_
      refine vl_n ?_
      refine H_of_R (R_pickC (v := (.bool false)) false hb rfl ?_)
      refine vl_e ?_
      refine WPc_cond (t := false) rfl (fun hh => by cases hh) (fun _ => ?_)
      refine WPc_skip ?_
      exact H
    · have H := H1 rfl; clear H1 H2
      refine vl_y rfl hb ?_
      refine H_of_R (R_move (v := (e 1)) rfl ?_)
      refine vl_y rfl hb ?_
      refine H_of_R (R_nil H fun t41 H => ?_)
      refine vl_y rfl hb ?_
      refine H_of_R (R_fld TF_188_2 H fun t42 H => ?_)
      refine vl_y rfl hb ?_
      refine H_of_R (R_load1 T1_185 H fun _ t43 _ _ H => ?_)
      refine vl_y rfl hb ?_
      refine H_of_R (R_move (v := (e 8)) rfl ?_)
      refine vl_y rfl hb ?_
      refine H_of_R (R_sub H fun t45 H => ?_)
      refine vl_y rfl hb ?_
      refine H_of_R (R_idx TE_185 H fun t46 H => ?_)
      refine vl_y rfl hb ?_
      refine H_of_R (R_fld TF_178_1 H fun t47 H => ?_)
      refine vl_y rfl hb ?_
      refine H_of_R (R_load1 T1_3 H fun _ t48 _ _ H => ?_)
      refine vl_y rfl hb ?_
      refine H_of_R (R_move (v := (e 2)) rfl ?_)
      refine vl_y rfl hb ?_
      refine H_of_R (R_lss H fun t50 H => ?_)
      refine vl_y rfl hb ?_
      refine H_of_R (R_not H fun t51 H => ?_)
      refine vl_n ?_
      refine H_of_R (R_pickC (v := t51) true hb rfl ?_)
      refine vl_e ?_
      obtain ⟨b_2, hc, H1, H2⟩ := H
      refine WPc_cond hc (fun hh => ?_) (fun hh => ?_)
      · have H := H1 hh; clear H1 H2
        refine WPc_seq' ?_
        refine W_region (by kernel_rfl) ?_
        refine vl_n ?_
        refine H_of_R (R_move (v := (e 8)) rfl ?_)
        refine vl_n ?_
        refine H_of_R (R_sub H fun t54 H => ?_)
        refine vl_n ?_
        refine H_of_R (R_assign (v := t54) rfl ?_)
        refine vl_n ?_
        refine H_of_R (R_assign (v := (.bool true)) rfl ?_)
        refine vl_e ?_
        refine WPc_ret ?_
        refine resH_of rfl ?_
        exact H
      · have H := H2 hh; clear H1 H2
        refine WPc_skip ?_
        exact H
  refine WPc_block ?_
  refine loop_at (fun e => [e 8, e 9]) (fun e => [e 1, e 2]) H rfl rfl ?_
  intro K1 e1 h H hin1
  replace H : Map_ii_search.l3.b (e1 1) (e1 2) (e1 8) (e1 9) h K1 Q := H
  unfold Map_ii_search.l3.b at H
  clear hin1
  refine WPc_seq (fun e h => Map_ii_search.j4 (e 1) (e 2) (e 8) (e 9) h K1 Q ∧ [e1 1, e1 2] = [e 1, e 2]) ?_ (fun e h ⟨H, hq1⟩ => ?_)
  rotate_left
  · unfold Map_ii_search.j4 at H
    refine WPc_block ?_
    refine WPc_seq' ?_
    refine W_region (by kernel_rfl) ?_
    refine vl_n ?_
    refine H_of_R (R_move (v := (e 8)) rfl ?_)
    refine vl_n ?_
    refine H_of_R (R_move (v := (e 9)) rfl ?_)
    refine vl_n ?_
    refine H_of_R (R_add H fun t21 H => ?_)
    refine vl_n ?_
    refine H_of_R (R_quo H fun t22 H => ?_)
    refine vl_n ?_
    refine H_of_R (R_assign (v := t22) rfl ?_)
    refine vl_e ?_
    refine WPc_seq' ?_
    refine W_region (by kernel_rfl) ?_
    refine vl_n ?_
    refine H_of_R (R_move (v := (e 2)) rfl ?_)
    refine vl_n ?_
    refine H_of_R (R_move (v := (e 1)) rfl ?_)
    refine vl_n ?_
    refine H_of_R (R_nil H fun t25 H => ?_)
    refine vl_n ?_
    refine H_of_R (R_fld TF_188_2 H fun t26 H => ?_)
    refine vl_n ?_
    refine H_of_R (R_load1 T1_185 H fun _ t27 _ _ H => ?_)
    refine vl_n ?_
    refine H_of_R (R_move (v := t22) rfl ?_)
    refine vl_n ?_
    refine H_of_R (R_idx TE_185 H fun t29 H => ?_)
    refine vl_n ?_
    refine H_of_R (R_fld TF_178_1 H fun t30 H => ?_)
    refine vl_n ?_
    refine H_of_R (R_load1 T1_3 H fun _ t31 _ _ H => ?_)
    refine vl_n ?_
    refine H_of_R (R_lss H fun t32 H => ?_)
    refine vl_n ?_
    refine H_of_R (R_not H fun t33 H => ?_)
    refine vl_e ?_
    obtain ⟨b, hc, H1, H2⟩ := H
    refine WPc_cond hc (fun hh => ?_) (fun hh => ?_)
    · have H := H1 hh; clear H1 H2
      refine W_region (by kernel_rfl) ?_
      refine vl_n ?_
      refine H_of_R (R_move (v := t22) rfl ?_)
      refine vl_n ?_
      refine H_of_R (R_add H fun t35 H => ?_)
      refine vl_n ?_
      refine H_of_R (R_assign (v := t35) rfl ?_)
      refine vl_e ?_
      exact ⟨H, hq1⟩
    · have H := H2 hh; clear H1 H2
      refine W_region (by kernel_rfl) ?_
      refine vl_n ?_
      refine H_of_R (R_move (v := t22) rfl ?_)
      refine vl_n ?_
      refine H_of_R (R_assign (v := t22) rfl ?_)
      refine vl_e ?_
      exact ⟨H, hq1⟩
  refine WPc_seq' ?_
  refine W_region (by kernel_rfl) ?_
  refine vl_n ?_
  refine H_of_R (R_move (v := (e1 8)) rfl ?_)
  refine vl_n ?_
  refine H_of_R (R_move (v := (e1 9)) rfl ?_)
  refine vl_n ?_
  refine H_of_R (R_lss H fun t18 H => ?_)
  refine vl_e ?_
  obtain ⟨b, hc, H1, H2⟩ := H
  refine WPc_cond hc (fun hh => ?_) (fun hh => ?_)
  · have H := H1 hh; clear H1 H2
    refine WPc_skip ?_
    exact ⟨H, rfl⟩
  · have H := H2 hh; clear H1 H2
    refine WPc_exit ?_
    exact H

end Go.Proofs.Ytlihjljdndbpdaa
end
