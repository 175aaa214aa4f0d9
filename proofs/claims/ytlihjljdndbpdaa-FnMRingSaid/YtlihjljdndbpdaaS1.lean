/-
  Shallow forms of the walked functions, and that each call comes to its form. Written by a program of this repo (gen.py). Conditions: none.
-/
import Derived.Test.YtlihjljdndbpdaaST
namespace Go.Proofs.Ytlihjljdndbpdaa
open Go.Hp
set_option maxRecDepth 100000
set_option maxHeartbeats 8000000
set_option linter.unusedVariables false
set_option linter.unusedSimpArgs false

/-! ### spec.Rank -/
def s_Rank.j1 (s0 : Value) (s1 : Value) (s5 : Value) (h : Heap) (Q : Value → Heap → Prop) : Prop :=
    remi s1 s5 fun t14 =>
    arith (· + ·) t14 s5 fun t16 =>
    remi t16 s5 fun t18 =>
    idx 1 s0 t18 fun t19 =>
    load1 t19 h fun t20 =>
    Q t20 h
def s_Rank.sh (a0 : Value) (a1 : Value) (h : Heap) (Q : Value → Heap → Prop) : Prop :=
    lenV a0 fun t7 =>
    cmpI (fun a b => a == b) t7 (.int .i64 0) fun t9 =>
    ifV t9
    (Q a1 h)
    (s_Rank.j1 a0 a1 t7 h Q)
theorem s_Rank.body (a0 : Value) (a1 : Value) (h : Heap) (Q : Value → Heap → Prop) (H : s_Rank.sh a0 a1 h Q) : s_Rank.call #[a0, a1] h Q := by
  refine callsH_of (args := [a0, a1]) Try.func165 rfl rfl ?_
  unfold s_Rank.sh at H
  refine WPc_seq' ?_
  refine W_region (by kernel_rfl) ?_
  refine vl_n ?_
  refine H_of_R (R_assign (v := (.int .i64 0)) rfl ?_)
  refine vl_e ?_
  refine WPc_seq' ?_
  refine W_region (by kernel_rfl) ?_
  refine vl_n ?_
  refine H_of_R (R_move (v := a0) rfl ?_)
  refine vl_n ?_
  refine H_of_R (R_len Try.underlying37 H fun t7 H => ?_)
  refine vl_n ?_
  refine H_of_R (R_assign (v := t7) rfl ?_)
  refine vl_e ?_
  refine WPc_seq (fun e h => s_Rank.j1 (e 0) (e 1) (e 5) h Q) ?_ (fun e h H => ?_)
  rotate_left
  · unfold s_Rank.j1 at H
    refine WPc_seq' ?_
    refine W_region (by kernel_rfl) ?_
    refine vl_n ?_
    refine H_of_R (R_move (v := (e 0)) rfl ?_)
    refine vl_n ?_
    refine H_of_R (R_move (v := (e 1)) rfl ?_)
    refine vl_n ?_
    refine H_of_R (R_move (v := (e 5)) rfl ?_)
    refine vl_n ?_
    refine H_of_R (R_rem H fun t14 H => ?_)
    refine vl_n ?_
    refine H_of_R (R_move (v := (e 5)) rfl ?_)
    refine vl_n ?_
    refine H_of_R (R_add H fun t16 H => ?_)
    refine vl_n ?_
    refine H_of_R (R_move (v := (e 5)) rfl ?_)
    refine vl_n ?_
    refine H_of_R (R_rem H fun t18 H => ?_)
    refine vl_n ?_
    refine H_of_R (R_idx TE_37 H fun t19 H => ?_)
    refine vl_n ?_
    refine H_of_R (R_load1 T1_3 H fun _ t20 _ _ H => ?_)
    refine vl_n ?_
    refine H_of_R (R_assign (v := t20) rfl ?_)
    refine vl_e ?_
    refine WPc_ret ?_
    refine resH_of rfl ?_
    exact H
  refine WPc_seq' ?_
  refine W_region (by kernel_rfl) ?_
  refine vl_n ?_
  refine H_of_R (R_move (v := t7) rfl ?_)
  refine vl_n ?_
  refine H_of_R (R_eqI H fun t9 H => ?_)
  refine vl_e ?_
  obtain ⟨b, hc, H1, H2⟩ := H
  refine WPc_cond hc (fun hh => ?_) (fun hh => ?_)
  · have H := H1 hh; clear H1 H2
    refine WPc_seq' ?_
    refine W_region (by kernel_rfl) ?_
    refine vl_n ?_
    refine H_of_R (R_move (v := a1) rfl ?_)
    refine vl_n ?_
    refine H_of_R (R_assign (v := a1) rfl ?_)
    refine vl_e ?_
    refine WPc_ret ?_
    refine resH_of rfl ?_
    exact H
  · have H := H2 hh; clear H1 H2
    refine WPc_skip ?_
    exact H
/-! ### spec.Before -/
def s_Before.sh (a0 : Value) (a1 : Value) (a2 : Value) (h : Heap) (Q : Value → Heap → Prop) : Prop :=
    box 27 a1 h fun t4 h =>
    box 27 a2 h fun t5 h =>
    fld 0 t4 fun t8 =>
    load1 t8 h fun t9 =>
    fld 0 t5 fun t12 =>
    load1 t12 h fun t13 =>
    s_Rank.call #[a0, t9] h fun t10 h =>
    still1 t12 t13 h ∧ s_Rank.call #[a0, t13] h fun t14 h =>
    cmpI (fun a b => decide (a < b)) t10 t14 fun t15 =>
    Q t15 h
theorem s_Before.body (a0 : Value) (a1 : Value) (a2 : Value) (h : Heap) (Q : Value → Heap → Prop) (H : s_Before.sh a0 a1 a2 h Q) : s_Before.call #[a0, a1, a2] h Q := by
  refine callsH_of (args := [a0, a1, a2]) Try.func124 rfl rfl ?_
  unfold s_Before.sh at H
  refine WPc_seq' ?_
  refine W_region (by kernel_rfl) ?_
  refine vl_n ?_
  refine H_box H fun t4 h H => ?_
  refine vl_n ?_
  refine H_box H fun t5 h H => ?_
  refine vl_n ?_
  refine H_of_R (R_assign (v := (.bool false)) rfl ?_)
  refine vl_e ?_
  refine WPc_seq' ?_
  refine W_drawn [0, 0, 2, 7, 0, 0, 32, 127, 255, 511] (.take 0 (.take 1 (.take 2 (.take 4 (.take 5 (.take 6 (.alt 3 (.alt 7 (.take 8 (.take 9 .done)) .none) .none))))))) mixed (by kernel_rfl) ?_
  refine tkP rfl ?_
  refine R_move (v := a0) rfl ⟨fun _ => trivial, ?_⟩
  refine tkP rfl ?_
  refine R_fld TF_27_0 H fun t8 H => ⟨fun _ => trivial, ?_⟩
  refine tkL rfl ?_
  refine R_load1 T1_3 H fun at9 t9 hat9 _ H => ?_
  refine tkP rfl ?_
  refine R_move (v := a0) rfl ⟨fun _ => trivial, ?_⟩
  refine tkP rfl ?_
  refine R_fld TF_27_0 H fun t12 H => ⟨fun _ => trivial, ?_⟩
  refine tkL rfl ?_
  refine R_load1 T1_3 H fun at13 t13 hat13 _ H => ?_
  refine alt_n rfl ?_ vp_none
  refine H_call HB_165 H fun t10 h ⟨S, H⟩ => ⟨(hcons rfl (still_1 S hat13) (hskip rfl hnil)), ?_⟩
  refine alt_n rfl ?_ vp_none
  refine H_call HB_165 H fun t14 h H => ⟨(hskip rfl hnil), ?_⟩
  refine tkP rfl ?_
  refine R_lss H fun t15 H => ⟨fun _ => trivial, ?_⟩
  refine tkP rfl ?_
  refine R_assign (v := t15) rfl ⟨fun _ => trivial, ?_⟩
  refine vp_done ?_
  refine WPc_ret ?_
  refine resH_of rfl ?_
  exact H
/-! ### spec.Rising -/
def s_Rising.j1 (h : Heap) (Q : Value → Heap → Prop) : Prop :=
    Q (.bool true) h
def s_Rising.j4 (s0 : Value) (s1 : Value) (s5 : Value) (h : Heap) (K1 : List Value → Heap → Prop) (Q : Value → Heap → Prop) : Prop :=
    arith (· + ·) s5 (.int .i64 1) fun t11 =>
    K1 [t11] h
def s_Rising.j3 (s0 : Value) (s1 : Value) (s5 : Value) (h : Heap) (K1 : List Value → Heap → Prop) (Q : Value → Heap → Prop) : Prop :=
    arith (· - ·) s5 (.int .i64 1) fun t15 =>
    idx 2 s1 t15 fun t16 =>
    loadN 2 t16 h fun t17 =>
    idx 2 s1 s5 fun t20 =>
    loadN 2 t20 h fun t21 =>
    s_Before.call #[s0, t17, t21] h fun t22 h =>
    notV t22 fun t23 =>
    ifV t23
    (Q (.bool false) h)
    (s_Rising.j4 s0 s1 s5 h K1 Q)
def s_Rising.l2.b (c0 : Value) (c1 : Value) (s5 : Value) (h : Heap) (K1 : List Value → Heap → Prop) (Q : Value → Heap → Prop) : Prop :=
    lenV c1 fun t8 =>
    cmpI (fun a b => decide (a < b)) s5 t8 fun t9 =>
    ifV t9
    (s_Rising.j3 c0 c1 s5 h K1 Q)
    (s_Rising.j1 h Q)
def s_Rising.sh (a0 : Value) (a1 : Value) (h : Heap) (Q : Value → Heap → Prop) : Prop :=
    loopC (fun c s h K1 => s_Rising.l2.b (c.getD 0 undef) (c.getD 1 undef) (s.getD 0 undef) h K1 Q) [a0, a1] [(.int .i64 1)] h
theorem s_Rising.body (a0 : Value) (a1 : Value) (h : Heap) (Q : Value → Heap → Prop) (H : s_Rising.sh a0 a1 h Q) : s_Rising.call #[a0, a1] h Q := by
  refine callsH_of (args := [a0, a1]) Try.func106 rfl rfl ?_
  unfold s_Rising.sh at H
  refine WPc_seq' ?_
  refine W_region (by kernel_rfl) ?_
  refine vl_n ?_
  refine H_of_R (R_assign (v := (.bool false)) rfl ?_)
  refine vl_e ?_
  refine WPc_seq (fun e h => s_Rising.j1 h Q) ?_ (fun e h H => ?_)
  rotate_left
  · unfold s_Rising.j1 at H
    refine WPc_seq' ?_
    refine W_region (by kernel_rfl) ?_
    refine vl_n ?_
    refine H_of_R (R_assign (v := (.bool true)) rfl ?_)
    refine vl_e ?_
    refine WPc_ret ?_
    refine resH_of rfl ?_
    exact H
  refine WPc_seq' ?_
  refine W_region (by kernel_rfl) ?_
  refine vl_n ?_
  refine H_of_R (R_assign (v := (.int .i64 1)) rfl ?_)
  refine vl_e ?_
  refine WPc_block ?_
  refine loop_at (fun e => [e 5]) (fun e => [e 0, e 1]) H rfl rfl ?_
  intro K1 e1 h H hin1
  replace H : s_Rising.l2.b (e1 0) (e1 1) (e1 5) h K1 Q := H
  unfold s_Rising.l2.b at H
  clear hin1
  refine WPc_seq (fun e h => s_Rising.j3 (e 0) (e 1) (e 5) h K1 Q ∧ [e1 0, e1 1] = [e 0, e 1]) ?_ (fun e h ⟨H, hq1⟩ => ?_)
  rotate_left
  · unfold s_Rising.j3 at H
    refine WPc_seq (fun e h => s_Rising.j4 (e 0) (e 1) (e 5) h K1 Q ∧ [e1 0, e1 1] = [e 0, e 1]) ?_ (fun e h ⟨H, hq1⟩ => ?_)
    rotate_left
    · unfold s_Rising.j4 at H
      refine W_region (by kernel_rfl) ?_
      refine vl_n ?_
      refine H_of_R (R_move (v := (e 5)) rfl ?_)
      refine vl_n ?_
      refine H_of_R (R_add H fun t11 H => ?_)
      refine vl_n ?_
      refine H_of_R (R_assign (v := t11) rfl ?_)
      refine vl_e ?_
      exact ⟨H, hq1⟩
    refine WPc_block ?_
    refine WPc_seq' ?_
    refine W_drawn [0, 0, 0, 4, 14, 30, 0, 0, 192, 448, 1023, 2047] (.take 0 (.take 1 (.take 2 (.take 3 (.take 4 (.take 5 (.take 6 (.take 7 (.take 8 (.take 9 (.alt 10 (.take 11 .done) .none))))))))))) mixed (by kernel_rfl) ?_
    refine tkP rfl ?_
    refine R_move (v := (e 0)) rfl ⟨fun _ => trivial, ?_⟩
    refine tkP rfl ?_
    refine R_move (v := (e 1)) rfl ⟨fun _ => trivial, ?_⟩
    refine tkP rfl ?_
    refine R_move (v := (e 5)) rfl ⟨fun _ => trivial, ?_⟩
    refine tkP rfl ?_
    refine R_sub H fun t15 H => ⟨fun _ => trivial, ?_⟩
    refine tkP rfl ?_
    refine R_idx TE_22 H fun t16 H => ⟨fun _ => trivial, ?_⟩
    refine tkL rfl ?_
    refine R_loadN TN_27 H fun at17 xt17 hat17 _ H St17 hSt17 => ?_
    refine tkP rfl ?_
    refine R_move (v := (e 1)) rfl ⟨fun _ => trivial, ?_⟩
    refine tkP rfl ?_
    refine R_move (v := (e 5)) rfl ⟨fun _ => trivial, ?_⟩
    refine tkP rfl ?_
    refine R_idx TE_22 H fun t20 H => ⟨fun _ => trivial, ?_⟩
    refine tkL rfl ?_
    refine R_loadN TN_27 H fun at21 xt21 hat21 _ H St21 hSt21 => ?_
    refine alt_n rfl ?_ vp_none
    refine H_call HB_124 H fun t22 h H => ⟨(hskip rfl (hskip rfl hnil)), ?_⟩
    refine tkP rfl ?_
    refine R_not H fun t23 H => ⟨fun _ => trivial, ?_⟩
    refine vp_done ?_
    obtain ⟨b, hc, H1, H2⟩ := H
    refine WPc_cond hc (fun hh => ?_) (fun hh => ?_)
    · have H := H1 hh; clear H1 H2
      refine WPc_seq' ?_
      refine W_region (by kernel_rfl) ?_
      refine vl_n ?_
      refine H_of_R (R_assign (v := (.bool false)) rfl ?_)
      refine vl_e ?_
      refine WPc_ret ?_
      refine resH_of rfl ?_
      exact H
    · have H := H2 hh; clear H1 H2
      refine WPc_skip ?_
      exact ⟨H, hq1⟩
  refine WPc_seq' ?_
  refine W_region (by kernel_rfl) ?_
  refine vl_n ?_
  refine H_of_R (R_move (v := (e1 5)) rfl ?_)
  refine vl_n ?_
  refine H_of_R (R_move (v := (e1 1)) rfl ?_)
  refine vl_n ?_
  refine H_of_R (R_len Try.underlying22 H fun t8 H => ?_)
  refine vl_n ?_
  refine H_of_R (R_lss H fun t9 H => ?_)
  refine vl_e ?_
  obtain ⟨b, hc, H1, H2⟩ := H
  refine WPc_cond hc (fun hh => ?_) (fun hh => ?_)
  · have H := H1 hh; clear H1 H2
    refine WPc_skip ?_
    exact ⟨H, rfl⟩
  · have H := H2 hh; clear H1 H2
    refine WPc_exit ?_
    exact H
/-! ### spec.Valid -/
def s_Valid.j1 (s2 : Value) (s3 : Value) (h : Heap) (Q : Value → Heap → Prop) : Prop :=
    loadN 3 s3 h fun t18 =>
    s_Levels.call #[t18] h fun t19 h =>
    extr 0 t19 fun t20 =>
    extr 1 t19 fun t21 =>
    br t21 true (fld 1 s2 fun t24 =>
    load1 t24 h fun t25 =>
    loadN 3 s3 h fun t27 =>
    s_Width.call #[t25] h fun t26 h =>
    stillN 3 s3 t27 h ∧ s_Filled.call #[t26, (.int .i64 1), t27] h fun t28 h =>
    br t28 true (fld 0 s2 fun t31 =>
    load1 t31 h fun t32 =>
    loadN 3 s3 h fun t33 =>
    s_NodeItems.call #[t33] h fun t34 h =>
    still1 t31 t32 h ∧ s_Rising.call #[t32, t34] h fun t35 h =>
    Q t35 h) (Q (.bool false) h)) (Q (.bool false) h)
def s_Valid.sh (a0 : Value) (a1 : Value) (h : Heap) (Q : Value → Heap → Prop) : Prop :=
    box 39 a0 h fun t2 h =>
    box 25 a1 h fun t3 h =>
    fld 0 t3 fun t7 =>
    load1 t7 h fun t8 =>
    lenV t8 fun t9 =>
    cmpI (fun a b => a == b) t9 (.int .i64 0) fun t10 =>
    br t10 true (fld 1 t3 fun t12 =>
    load1 t12 h fun t13 =>
    lenV t13 fun t14 =>
    cmpI (fun a b => a == b) t14 (.int .i64 0) fun t15 =>
    ifV t15
    (Q (.bool true) h)
    (s_Valid.j1 t2 t3 h Q)) (s_Valid.j1 t2 t3 h Q)
theorem s_Valid.body (a0 : Value) (a1 : Value) (h : Heap) (Q : Value → Heap → Prop) (H : s_Valid.sh a0 a1 h Q) : s_Valid.call #[a0, a1] h Q := by
  refine callsH_of (args := [a0, a1]) Try.func55 rfl rfl ?_
  unfold s_Valid.sh at H
  refine WPc_seq' ?_
  refine W_region (by kernel_rfl) ?_
  refine vl_n ?_
  refine H_box H fun t2 h H => ?_
  refine vl_n ?_
  refine H_box H fun t3 h H => ?_
  refine vl_n ?_
  refine H_of_R (R_assign (v := (.bool false)) rfl ?_)
  refine vl_e ?_
  refine WPc_seq (fun e h => s_Valid.j1 (e 2) (e 3) h Q) ?_ (fun e h H => ?_)
  rotate_left
  · unfold s_Valid.j1 at H
    refine WPc_seq' ?_
    refine W_region (by kernel_rfl) ?_
    refine vl_n ?_
    refine H_of_R (R_loadN TN_25 H fun _ t18 _ _ H _ _ => ?_)
    refine vl_n ?_
    refine H_call HB_69 H fun t19 h H => ?_
    refine vl_n ?_
    refine H_of_R (R_move (v := t19) rfl ?_)
    refine vl_n ?_
    refine H_of_R (R_ext H fun t20 H => ?_)
    refine vl_n ?_
    refine H_of_R (R_ext H fun t21 H => ?_)
    refine vl_n ?_
    refine H_of_R (R_assign (v := t20) rfl ?_)
    refine vl_n ?_
    refine H_of_R (R_assign (v := t21) rfl ?_)
    refine vl_e ?_
    refine WPc_seq' ?_
    refine W_drawn [0, 1, 3, 7, 15, 3, 63, 127, 255, 511, 1023, 511, 2559, 8191, 16383, 32767] (.take 0 (.take 1 (.take 2 (.take 3 (.take 5 (.alt 4 (.alt 6 (.take 7 (.take 8 (.take 9 (.take 10 (.take 11 (.alt 12 (.alt 13 (.take 14 (.take 15 .done)) .none) .none)))))) .none) .none)))))) mixed (by kernel_rfl) ?_
    refine tkP rfl ?_
    refine R_move (v := t21) rfl ⟨fun _ => trivial, ?_⟩
    refine tkP rfl ?_
    refine R_move (v := t21) rfl ⟨fun _ => trivial, ?_⟩
    obtain ⟨b, hb, H1, H2⟩ := H
    cases b
    · have H := H2 rfl; clear H1 H2
      refine tk_s rfl rfl (nbT hb) ?_
      refine tk_s rfl rfl (nbT hb) ?_
      refine tk_s rfl rfl (nbT hb) ?_
      refine alt_s rfl rfl (nbT hb) ?_ vp_none
      refine alt_s rfl rfl (nbT hb) ?_ vp_none
      refine tkP rfl ?_
      refine R_pickC (v := (.bool false)) false hb rfl ⟨fun _ => trivial, ?_⟩
      refine tkP rfl ?_
      refine R_move (v := (.bool false)) rfl ⟨fun _ => trivial, ?_⟩
      refine tk_s rfl rfl (nbT rfl) ?_
      refine tk_s rfl rfl (nbT rfl) ?_
      refine tk_s rfl rfl (nbT rfl) ?_
      refine alt_s rfl rfl (nbT rfl) ?_ vp_none
      refine alt_s rfl rfl (nbT rfl) ?_ vp_none
      refine tkP rfl ?_
      refine R_pickC (v := (.bool false)) false rfl rfl ⟨fun _ => trivial, ?_⟩
      refine tkP rfl ?_
      refine R_assign (v := (.bool false)) rfl ⟨fun _ => trivial, ?_⟩
      refine vp_done ?_
      refine WPc_ret ?_
      refine resH_of rfl ?_
      exact H
    · have H := H1 rfl; clear H1 H2
      refine tkPy rfl rfl hb ?_
      refine R_fld TF_39_1 H fun t24 H => ⟨fun _ => trivial, ?_⟩
      refine tkLy rfl rfl hb ?_
      refine R_load1 T1_3 H fun at25 t25 hat25 _ H => ?_
      refine tkLy rfl rfl hb ?_
      refine R_loadN TN_25 H fun at27 xt27 hat27 _ H St27 hSt27 => ?_
      refine alt_y rfl rfl hb ?_ vp_none
      refine H_call HB_64 H fun t26 h ⟨S, H⟩ => ⟨(hcons rfl (hSt27 _ (still_N S hat27 rfl)) (hskip rfl hnil)), ?_⟩
      refine alt_y rfl rfl hb ?_ vp_none
      refine H_call HB_105 H fun t28 h H => ⟨(hskip rfl hnil), ?_⟩
      refine tkP rfl ?_
      refine R_pickC (v := t28) true hb rfl ⟨fun _ => trivial, ?_⟩
      refine tkP rfl ?_
      refine R_move (v := t28) rfl ⟨fun _ => trivial, ?_⟩
      obtain ⟨b_2, hb_2, H1, H2⟩ := H
      cases b_2
      · have H := H2 rfl; clear H1 H2
        refine tk_s rfl rfl (nbT hb_2) ?_
        refine tk_s rfl rfl (nbT hb_2) ?_
        refine tk_s rfl rfl (nbT hb_2) ?_
        refine alt_s rfl rfl (nbT hb_2) ?_ vp_none
        refine alt_s rfl rfl (nbT hb_2) ?_ vp_none
        refine tkP rfl ?_
        refine R_pickC (v := (.bool false)) false hb_2 rfl ⟨fun _ => trivial, ?_⟩
        refine tkP rfl ?_
        refine R_assign (v := (.bool false)) rfl ⟨fun _ => trivial, ?_⟩
        refine vp_done ?_
        refine WPc_ret ?_
        refine resH_of rfl ?_
        exact H
      · have H := H1 rfl; clear H1 H2
        refine tkPy rfl rfl hb_2 ?_
        refine R_fld TF_39_0 H fun t31 H => ⟨fun _ => trivial, ?_⟩
        refine tkLy rfl rfl hb_2 ?_
        refine R_load1 T1_37 H fun at32 t32 hat32 _ H => ?_
        refine tkLy rfl rfl hb_2 ?_
        refine R_loadN TN_25 H fun at33 xt33 hat33 _ H St33 hSt33 => ?_
        refine alt_y rfl rfl hb_2 ?_ vp_none
        refine H_call HB_19 H fun t34 h ⟨S_2, H⟩ => ⟨(hskip rfl (hcons rfl (still_1 S_2 hat32) hnil)), ?_⟩
        refine alt_y rfl rfl hb_2 ?_ vp_none
        refine H_call HB_106 H fun t35 h H => ⟨(hskip rfl hnil), ?_⟩
        refine tkP rfl ?_
        refine R_pickC (v := t35) true hb_2 rfl ⟨fun _ => trivial, ?_⟩
        refine tkP rfl ?_
        refine R_assign (v := t35) rfl ⟨fun _ => trivial, ?_⟩
        refine vp_done ?_
        refine WPc_ret ?_
        refine resH_of rfl ?_
        exact H
  refine WPc_seq' ?_
  refine W_region (by kernel_rfl) ?_
  refine vl_n ?_
  refine H_of_R (R_fld TF_25_0 H fun t7 H => ?_)
  refine vl_n ?_
  refine H_of_R (R_load1 T1_22 H fun _ t8 _ _ H => ?_)
  refine vl_n ?_
  refine H_of_R (R_len Try.underlying22 H fun t9 H => ?_)
  refine vl_n ?_
  refine H_of_R (R_eqI H fun t10 H => ?_)
  refine vl_n ?_
  refine H_of_R (R_move (v := t10) rfl ?_)
  obtain ⟨b, hb, H1, H2⟩ := H
  cases b
  · have H := H2 rfl; clear H1 H2
    refine vl_s rfl (nbT hb) ?_
    refine vl_s rfl (nbT hb) ?_
    refine vl_s rfl (nbT hb) ?_
    refine vl_s rfl (nbT hb) ?_
    refine vl_n ?_
    refine H_of_R (R_pickC (v := (.bool false)) false hb rfl ?_)
    refine vl_e ?_
    refine WPc_cond (t := false) rfl (fun hh => by cases hh) (fun _ => ?_)
    refine WPc_skip ?_
    exact H
  · have H := H1 rfl; clear H1 H2
    refine vl_y rfl hb ?_
    refine H_of_R (R_fld TF_25_1 H fun t12 H => ?_)
    refine vl_y rfl hb ?_
    refine H_of_R (R_load1 T1_23 H fun _ t13 _ _ H => ?_)
    refine vl_y rfl hb ?_
    refine H_of_R (R_len Try.underlying23 H fun t14 H => ?_)
    refine vl_y rfl hb ?_
    refine H_of_R (R_eqI H fun t15 H => ?_)
    refine vl_n ?_
    refine H_of_R (R_pickC (v := t15) true hb rfl ?_)
    refine vl_e ?_
    obtain ⟨b_2, hc, H1, H2⟩ := H
    refine WPc_cond hc (fun hh => ?_) (fun hh => ?_)
    · have H := H1 hh; clear H1 H2
      refine WPc_seq' ?_
      refine W_region (by kernel_rfl) ?_
      refine vl_n ?_
      refine H_of_R (R_assign (v := (.bool true)) rfl ?_)
      refine vl_e ?_
      refine WPc_ret ?_
      refine resH_of rfl ?_
      exact H
    · have H := H2 hh; clear H1 H2
      refine WPc_skip ?_
      exact H
/-! ### laws.validD -/
def l_validD.sh (a0 : Value) (a1 : Value) (h : Heap) (Q : Value → Heap → Prop) : Prop :=
    box 25 a1 h fun t3 h =>
    l_fit.call #[a0] h fun t6 h =>
    br t6 true (buildV [(.slice none 0 0), (.int .i64 0), (.bool false)] [(1, 1, a0)] fun t9 =>
    loadN 3 t3 h fun t10 =>
    s_Valid.call #[t9, t10] h fun t11 h =>
    Q t11 h) (Q (.bool false) h)
theorem l_validD.body (a0 : Value) (a1 : Value) (h : Heap) (Q : Value → Heap → Prop) (H : l_validD.sh a0 a1 h Q) : l_validD.call #[a0, a1] h Q := by
  refine callsH_of (args := [a0, a1]) Try.func13 rfl rfl ?_
  unfold l_validD.sh at H
  refine WPc_seq' ?_
  refine W_region (by kernel_rfl) ?_
  refine vl_n ?_
  refine H_box H fun t3 h H => ?_
  refine vl_n ?_
  refine H_of_R (R_assign (v := (.bool false)) rfl ?_)
  refine vl_e ?_
  refine WPc_seq' ?_
  refine W_region (by kernel_rfl) ?_
  refine vl_n ?_
  refine H_of_R (R_move (v := a0) rfl ?_)
  refine vl_n ?_
  refine H_call HB_25 H fun t6 h H => ?_
  refine vl_n ?_
  refine H_of_R (R_move (v := t6) rfl ?_)
  obtain ⟨b, hb, H1, H2⟩ := H
  cases b
  · have H := H2 rfl; clear H1 H2
    refine vl_s rfl (nbT hb) ?_
    refine vl_s rfl (nbT hb) ?_
    refine vl_s rfl (nbT hb) ?_
    refine vl_s rfl (nbT hb) ?_
    refine vl_n ?_
    refine H_of_R (R_pickC (v := (.bool false)) false hb rfl ?_)
    refine vl_n ?_
    refine H_of_R (R_assign (v := (.bool false)) rfl ?_)
    refine vl_e ?_
    refine WPc_ret ?_
    refine resH_of rfl ?_
    exact H
  · have H := H1 rfl; clear H1 H2
    refine vl_y rfl hb ?_
    refine H_of_R (R_move (v := a0) rfl ?_)
    refine vl_y rfl hb ?_
    refine H_of_R (R_build TB_39 rfl (by decide) H fun t9 H => ?_)
    refine vl_y rfl hb ?_
    refine H_of_R (R_loadN TN_25 H fun _ t10 _ _ H _ _ => ?_)
    refine vl_y rfl hb ?_
    refine H_call HB_55 H fun t11 h H => ?_
    refine vl_n ?_
    refine H_of_R (R_pickC (v := t11) true hb rfl ?_)
    refine vl_n ?_
    refine H_of_R (R_assign (v := t11) rfl ?_)
    refine vl_e ?_
    refine WPc_ret ?_
    refine resH_of rfl ?_
    exact H
/-! ### pub/tidwallbtree.degreeToMinMax -/
def degreeToMinMax.j1 (s0 : Value) (h : Heap) (Q : Value → Heap → Prop) : Prop :=
    arith (· * ·) s0 (.int .i64 2) fun t9 =>
    arith (· - ·) t9 (.int .i64 1) fun t10 =>
    divi t10 (.int .i64 2) fun t12 =>
    Q (.tuple #[t12, t10]) h
def degreeToMinMax.sh (a0 : Value) (h : Heap) (Q : Value → Heap → Prop) : Prop :=
    cmpI (fun a b => decide (a ≤ b)) a0 (.int .i64 0) fun t5 =>
    ifV t5
    (degreeToMinMax.j1 (.int .i64 32) h Q)
    (cmpI (fun a b => a == b) a0 (.int .i64 1) fun t7 =>
    ifV t7
    (degreeToMinMax.j1 (.int .i64 2) h Q)
    (degreeToMinMax.j1 a0 h Q))
theorem degreeToMinMax.body (a0 : Value) (h : Heap) (Q : Value → Heap → Prop) (H : degreeToMinMax.sh a0 h Q) : degreeToMinMax.call #[a0] h Q := by
  refine callsH_of (args := [a0]) Try.func155 rfl rfl ?_
  unfold degreeToMinMax.sh at H
  refine WPc_seq' ?_
  refine W_region (by kernel_rfl) ?_
  refine vl_n ?_
  refine H_of_R (R_assign (v := (.int .i64 0)) rfl ?_)
  refine vl_n ?_
  refine H_of_R (R_assign (v := (.int .i64 0)) rfl ?_)
  refine vl_e ?_
  refine WPc_seq (fun e h => degreeToMinMax.j1 (e 0) h Q) ?_ (fun e h H => ?_)
  rotate_left
  · unfold degreeToMinMax.j1 at H
    refine WPc_seq' ?_
    refine W_region (by kernel_rfl) ?_
    refine vl_n ?_
    refine H_of_R (R_move (v := (e 0)) rfl ?_)
    refine vl_n ?_
    refine H_of_R (R_mul H fun t9 H => ?_)
    refine vl_n ?_
    refine H_of_R (R_sub H fun t10 H => ?_)
    refine vl_n ?_
    refine H_of_R (R_assign (v := t10) rfl ?_)
    refine vl_e ?_
    refine WPc_seq' ?_
    refine W_region (by kernel_rfl) ?_
    refine vl_n ?_
    refine H_of_R (R_move (v := t10) rfl ?_)
    refine vl_n ?_
    refine H_of_R (R_quo H fun t12 H => ?_)
    refine vl_n ?_
    refine H_of_R (R_assign (v := t12) rfl ?_)
    refine vl_e ?_
    refine WPc_seq' ?_
    refine W_region (by kernel_rfl) ?_
    refine vl_n ?_
    refine H_of_R (R_move (v := t12) rfl ?_)
    refine vl_n ?_
    refine H_of_R (R_move (v := t10) rfl ?_)
    refine vl_n ?_
    refine H_of_R (R_assign (v := t12) rfl ?_)
    refine vl_n ?_
    refine H_of_R (R_assign (v := t10) rfl ?_)
    refine vl_e ?_
    refine WPc_ret ?_
    refine resH_of rfl ?_
    exact H
  refine WPc_seq' ?_
  refine W_region (by kernel_rfl) ?_
  refine vl_n ?_
  refine H_of_R (R_move (v := a0) rfl ?_)
  refine vl_n ?_
  refine H_of_R (R_leq H fun t5 H => ?_)
  refine vl_e ?_
  obtain ⟨b, hc, H1, H2⟩ := H
  refine WPc_cond hc (fun hh => ?_) (fun hh => ?_)
  · have H := H1 hh; clear H1 H2
    refine W_region (by kernel_rfl) ?_
    refine vl_n ?_
    refine H_of_R (R_assign (v := (.int .i64 32)) rfl ?_)
    refine vl_e ?_
    exact H
  · have H := H2 hh; clear H1 H2
    refine WPc_seq' ?_
    refine W_region (by kernel_rfl) ?_
    refine vl_n ?_
    refine H_of_R (R_move (v := a0) rfl ?_)
    refine vl_n ?_
    refine H_of_R (R_eqI H fun t7 H => ?_)
    refine vl_e ?_
    obtain ⟨b_2, hc_2, H1, H2⟩ := H
    refine WPc_cond hc_2 (fun hh => ?_) (fun hh => ?_)
    · have H := H1 hh; clear H1 H2
      refine W_region (by kernel_rfl) ?_
      refine vl_n ?_
      refine H_of_R (R_assign (v := (.int .i64 2)) rfl ?_)
      refine vl_e ?_
      exact H
    · have H := H2 hh; clear H1 H2
      refine WPc_skip ?_
      exact H
/-! ### (*pub/tidwallbtree.Map[int, int]).init -/
def Map_ii_init.j1 (s0 : Value) (s1 : Value) (h : Heap) (Q : Value → Heap → Prop) : Prop :=
    degreeToMinMax.call #[s1] h fun t13 h =>
    extr 0 t13 fun t14 =>
    extr 1 t13 fun t15 =>
    nilck s0 fun t16 =>
    fld 6 t16 fun t17 =>
    store1 t17 t14 h fun h =>
    nilck s0 fun t18 =>
    fld 7 t18 fun t19 =>
    store1 t19 t15 h fun h =>
    nilck s0 fun t23 =>
    fld 4 t23 fun t24 =>
    fld 0 t24 fun t25 =>
    load1 t25 h fun t26 =>
    extr 0 (.tuple #[.nilIface, .bool false]) fun t29 =>
    extr 1 (.tuple #[.nilIface, .bool false]) fun t30 =>
    nilck s0 fun t31 =>
    fld 8 t31 fun t32 =>
    store1 t32 t30 h fun h =>
    nilck s0 fun t34 =>
    fld 8 t34 fun t35 =>
    load1 t35 h fun t36 =>
    notV t36 fun t37 =>
    ifV t37
    (nilck s0 fun t41 =>
    fld 4 t41 fun t42 =>
    fld 0 t42 fun t43 =>
    load1 t43 h fun t44 =>
    extr 0 (.tuple #[.nilIface, .bool false]) fun t47 =>
    extr 1 (.tuple #[.nilIface, .bool false]) fun t48 =>
    nilck s0 fun t49 =>
    fld 9 t49 fun t50 =>
    store1 t50 t48 h fun h =>
    Q (.tuple #[]) h)
    (Q (.tuple #[]) h)
def Map_ii_init.sh (a0 : Value) (a1 : Value) (h : Heap) (Q : Value → Heap → Prop) : Prop :=
    nilck a0 fun t5 =>
    fld 6 t5 fun t6 =>
    load1 t6 h fun t7 =>
    cmpI (fun a b => a != b) t7 (.int .i64 0) fun t8 =>
    ifV t8
    (Q (.tuple #[]) h)
    (Map_ii_init.j1 a0 a1 h Q)
theorem Map_ii_init.body (a0 : Value) (a1 : Value) (h : Heap) (Q : Value → Heap → Prop) (H : Map_ii_init.sh a0 a1 h Q) : Map_ii_init.call #[a0, a1] h Q := by
  refine callsH_of (args := [a0, a1]) Try.func111 rfl rfl ?_
  unfold Map_ii_init.sh at H
  refine WPc_seq (fun e h => Map_ii_init.j1 (e 0) (e 1) h Q) ?_ (fun e h H => ?_)
  rotate_left
  · unfold Map_ii_init.j1 at H
    refine WPc_seq' ?_
    refine W_region (by kernel_rfl) ?_
    refine vl_n ?_
    refine H_of_R (R_move (v := (e 0)) rfl ?_)
    refine vl_n ?_
    refine H_of_R (R_move (v := (e 0)) rfl ?_)
    refine vl_n ?_
    refine H_of_R (R_move (v := (e 1)) rfl ?_)
    refine vl_n ?_
    refine H_call HB_155 H fun t13 h H => ?_
    refine vl_n ?_
    refine H_of_R (R_move (v := t13) rfl ?_)
    refine vl_n ?_
    refine H_of_R (R_ext H fun t14 H => ?_)
    refine vl_n ?_
    refine H_of_R (R_ext H fun t15 H => ?_)
    refine vl_n ?_
    refine H_of_R (R_nil H fun t16 H => ?_)
    refine vl_n ?_
    refine H_of_R (R_fld TF_182_5 H fun t17 H => ?_)
    refine vl_n ?_
    refine H_store1 TS_3 H fun h H => ?_
    refine vl_n ?_
    refine H_of_R (R_nil H fun t18 H => ?_)
    refine vl_n ?_
    refine H_of_R (R_fld TF_182_6 H fun t19 H => ?_)
    refine vl_n ?_
    refine H_store1 TS_3 H fun h H => ?_
    refine vl_e ?_
    refine WPc_seq' ?_
    refine W_region (by kernel_rfl) ?_
    refine vl_n ?_
    refine H_of_R (R_move (v := (e 0)) rfl ?_)
    refine vl_n ?_
    refine H_of_R (R_move (v := (e 0)) rfl ?_)
    refine vl_n ?_
    refine H_of_R (R_nil H fun t23 H => ?_)
    refine vl_n ?_
    refine H_of_R (R_fld TF_182_4 H fun t24 H => ?_)
    refine vl_n ?_
    refine H_of_R (R_fld TF_178_0 H fun t25 H => ?_)
    refine vl_n ?_
    refine H_of_R (R_load1 T1_3 H fun _ t26 _ _ H => ?_)
    refine vl_n ?_
    refine H_of_R (R_mkI Try.underlying3 (by intro k hk; cases hk) ?_)
    refine vl_n ?_
    refine H_of_R (R_ta (t := 3) Try.underlying240 Try.type3 (missing_some rfl) Try.type240 rfl rfl ?_)
    refine vl_n ?_
    refine H_of_R (R_move (v := (.tuple #[.nilIface, .bool false])) rfl ?_)
    refine vl_n ?_
    refine H_of_R (R_ext H fun t29 H => ?_)
    refine vl_n ?_
    refine H_of_R (R_ext H fun t30 H => ?_)
    refine vl_n ?_
    refine H_of_R (R_nil H fun t31 H => ?_)
    refine vl_n ?_
    refine H_of_R (R_fld TF_182_7 H fun t32 H => ?_)
    refine vl_n ?_
    refine H_store1 TS_4 H fun h H => ?_
    refine vl_e ?_
    refine WPc_seq' ?_
    refine W_region (by kernel_rfl) ?_
    refine vl_n ?_
    refine H_of_R (R_move (v := (e 0)) rfl ?_)
    refine vl_n ?_
    refine H_of_R (R_nil H fun t34 H => ?_)
    refine vl_n ?_
    refine H_of_R (R_fld TF_182_7 H fun t35 H => ?_)
    refine vl_n ?_
    refine H_of_R (R_load1 T1_4 H fun _ t36 _ _ H => ?_)
    refine vl_n ?_
    refine H_of_R (R_not H fun t37 H => ?_)
    refine vl_e ?_
    obtain ⟨b, hc, H1, H2⟩ := H
    refine WPc_cond hc (fun hh => ?_) (fun hh => ?_)
    · have H := H1 hh; clear H1 H2
      refine W_region (by kernel_rfl) ?_
      refine vl_n ?_
      refine H_of_R (R_move (v := (e 0)) rfl ?_)
      refine vl_n ?_
      refine H_of_R (R_move (v := (e 0)) rfl ?_)
      refine vl_n ?_
      refine H_of_R (R_nil H fun t41 H => ?_)
      refine vl_n ?_
      refine H_of_R (R_fld TF_182_4 H fun t42 H => ?_)
      refine vl_n ?_
      refine H_of_R (R_fld TF_178_0 H fun t43 H => ?_)
      refine vl_n ?_
      refine H_of_R (R_load1 T1_3 H fun _ t44 _ _ H => ?_)
      refine vl_n ?_
      refine H_of_R (R_mkI Try.underlying3 (by intro k hk; cases hk) ?_)
      refine vl_n ?_
      refine H_of_R (R_ta (t := 3) Try.underlying243 Try.type3 (missing_some rfl) Try.type243 rfl rfl ?_)
      refine vl_n ?_
      refine H_of_R (R_move (v := (.tuple #[.nilIface, .bool false])) rfl ?_)
      refine vl_n ?_
      refine H_of_R (R_ext H fun t47 H => ?_)
      refine vl_n ?_
      refine H_of_R (R_ext H fun t48 H => ?_)
      refine vl_n ?_
      refine H_of_R (R_nil H fun t49 H => ?_)
      refine vl_n ?_
      refine H_of_R (R_fld TF_182_8 H fun t50 H => ?_)
      refine vl_n ?_
      refine H_store1 TS_4 H fun h H => ?_
      refine vl_e ?_
      refine resH_of rfl ?_
      exact H
    · have H := H2 hh; clear H1 H2
      refine WPc_skip ?_
      refine resH_of rfl ?_
      exact H
  refine WPc_seq' ?_
  refine W_region (by kernel_rfl) ?_
  refine vl_n ?_
  refine H_of_R (R_move (v := a0) rfl ?_)
  refine vl_n ?_
  refine H_of_R (R_nil H fun t5 H => ?_)
  refine vl_n ?_
  refine H_of_R (R_fld TF_182_5 H fun t6 H => ?_)
  refine vl_n ?_
  refine H_of_R (R_load1 T1_3 H fun _ t7 _ _ H => ?_)
  refine vl_n ?_
  refine H_of_R (R_neI H fun t8 H => ?_)
  refine vl_e ?_
  obtain ⟨b, hc, H1, H2⟩ := H
  refine WPc_cond hc (fun hh => ?_) (fun hh => ?_)
  · have H := H1 hh; clear H1 H2
    refine WPc_ret ?_
    refine resH_of rfl ?_
    exact H
  · have H := H2 hh; clear H1 H2
    refine WPc_skip ?_
    exact H
/-! ### pub/tidwallbtree.NewMap[int,int] -/
def NewMap_ii.sh (a0 : Value) (h : Heap) (Q : Value → Heap → Prop) : Prop :=
    alloc [(.int .u64 0), (.pointer none), (.pointer none), (.int .i64 0), (.int .i64 0), (.int .i64 0), (.int .i64 0), (.int .i64 0), (.bool false), (.bool false)] 182 h fun t4 h =>
    Map_ii_init.call #[t4, a0] h fun t7 h =>
    Q t4 h
theorem NewMap_ii.body (a0 : Value) (h : Heap) (Q : Value → Heap → Prop) (H : NewMap_ii.sh a0 h Q) : NewMap_ii.call #[a0] h Q := by
  refine callsH_of (args := [a0]) Try.func108 rfl rfl ?_
  unfold NewMap_ii.sh at H
  refine WPc_seq' ?_
  refine W_region (by kernel_rfl) ?_
  refine vl_n ?_
  refine H_of_R (R_assign (v := (.pointer none)) rfl ?_)
  refine vl_e ?_
  refine WPc_seq' ?_
  refine W_region (by kernel_rfl) ?_
  refine vl_n ?_
  refine H_alloc TV_182 H fun t4 h H => ?_
  refine vl_n ?_
  refine H_of_R (R_assign (v := t4) rfl ?_)
  refine vl_e ?_
  refine WPc_seq' ?_
  refine W_region (by kernel_rfl) ?_
  refine vl_n ?_
  refine H_of_R (R_move (v := t4) rfl ?_)
  refine vl_n ?_
  refine H_of_R (R_move (v := a0) rfl ?_)
  refine vl_n ?_
  refine H_call HB_111 H fun t7 h H => ?_
  refine vl_e ?_
  refine WPc_seq' ?_
  refine W_region (by kernel_rfl) ?_
  refine vl_n ?_
  refine H_of_R (R_move (v := t4) rfl ?_)
  refine vl_n ?_
  refine H_of_R (R_assign (v := t4) rfl ?_)
  refine vl_e ?_
  refine WPc_ret ?_
  refine resH_of rfl ?_
  exact H
/-! ### (*pub/tidwallbtree.Map[int, int]).DoorPlant -/
def Map_ii_DoorPlant.sh (a0 : Value) (a1 : Value) (h : Heap) (Q : Value → Heap → Prop) : Prop :=
    box 175 a1 h fun t3 h =>
    fld 0 t3 fun t6 =>
    load1 t6 h fun t7 =>
    fld 0 t3 fun t8 =>
    load1 t8 h fun t9 =>
    nilck t9 fun t10 =>
    fld 1 t10 fun t11 =>
    load1 t11 h fun t12 =>
    nilck a0 fun t13 =>
    fld 2 t13 fun t14 =>
    store1 t14 t7 h fun h =>
    nilck a0 fun t15 =>
    fld 3 t15 fun t16 =>
    store1 t16 t12 h fun h =>
    Q (.tuple #[]) h
theorem Map_ii_DoorPlant.body (a0 : Value) (a1 : Value) (h : Heap) (Q : Value → Heap → Prop) (H : Map_ii_DoorPlant.sh a0 a1 h Q) : Map_ii_DoorPlant.call #[a0, a1] h Q := by
  refine callsH_of (args := [a0, a1]) Try.func109 rfl rfl ?_
  unfold Map_ii_DoorPlant.sh at H
  refine WPc_seq' ?_
  refine W_region (by kernel_rfl) ?_
  refine vl_n ?_
  refine H_box H fun t3 h H => ?_
  refine vl_e ?_
  refine W_drawn [0, 0, 0, 4, 0, 16, 48, 112, 240, 509, 1021, 2045, 4095, 8191, 16383] (.take 0 (.take 1 (.take 2 (.take 3 (.take 4 (.take 5 (.take 6 (.take 7 (.take 8 (.take 9 (.take 10 (.alt 11 (.take 12 (.take 13 (.alt 14 .done .none))) .none)))))))))))) mixed (by kernel_rfl) ?_
  refine tkP rfl ?_
  refine R_move (v := a0) rfl ⟨fun _ => trivial, ?_⟩
  refine tkP rfl ?_
  refine R_move (v := a0) rfl ⟨fun _ => trivial, ?_⟩
  refine tkP rfl ?_
  refine R_fld TF_175_0 H fun t6 H => ⟨fun _ => trivial, ?_⟩
  refine tkL rfl ?_
  refine R_load1 T1_173 H fun at7 t7 hat7 _ H => ?_
  refine tkP rfl ?_
  refine R_fld TF_175_0 H fun t8 H => ⟨fun _ => trivial, ?_⟩
  refine tkL rfl ?_
  refine R_load1 T1_173 H fun at9 t9 hat9 _ H => ?_
  refine tkP rfl ?_
  refine R_nil H fun t10 H => ⟨fun _ => trivial, ?_⟩
  refine tkP rfl ?_
  refine R_fld TF_188_1 H fun t11 H => ⟨fun _ => trivial, ?_⟩
  refine tkL rfl ?_
  refine R_load1 T1_3 H fun at12 t12 hat12 _ H => ?_
  refine tkP rfl ?_
  refine R_nil H fun t13 H => ⟨fun _ => trivial, ?_⟩
  refine tkP rfl ?_
  refine R_fld TF_182_2 H fun t14 H => ⟨fun _ => trivial, ?_⟩
  refine alt_n rfl ?_ vp_none
  refine H_store1 TS_173 H fun h H => ⟨(hskip rfl (hskip rfl (hskip rfl hnil))), ?_⟩
  refine tkP rfl ?_
  refine R_nil H fun t15 H => ⟨fun _ => trivial, ?_⟩
  refine tkP rfl ?_
  refine R_fld TF_182_3 H fun t16 H => ⟨fun _ => trivial, ?_⟩
  refine alt_n rfl ?_ vp_none
  refine H_store1 TS_3 H fun h H => ⟨hnil, ?_⟩
  refine vp_done ?_
  refine resH_of rfl ?_
  exact H
/-! ### (*pub/tidwallbtree.Map[int, int]).newNode -/
def Map_ii_newNode.j1 (s5 : Value) (h : Heap) (Q : Value → Heap → Prop) : Prop :=
    Q s5 h
def Map_ii_newNode.sh (a0 : Value) (a1 : Value) (h : Heap) (Q : Value → Heap → Prop) : Prop :=
    alloc [(.int .u64 0), (.int .i64 0), (.slice none 0 0), (.pointer none)] 188 h fun t6 h =>
    nilck a0 fun t9 =>
    fld 0 t9 fun t10 =>
    load1 t10 h fun t11 =>
    nilck t6 fun t12 =>
    fld 0 t12 fun t13 =>
    store1 t13 t11 h fun h =>
    notV a1 fun t15 =>
    ifV t15
    (alloc [(.slice none 0 0)] 194 h fun t17 h =>
    nilck t6 fun t18 =>
    fld 3 t18 fun t19 =>
    store1 t19 t17 h fun h =>
    Map_ii_newNode.j1 t6 h Q)
    (Map_ii_newNode.j1 t6 h Q)
theorem Map_ii_newNode.body (a0 : Value) (a1 : Value) (h : Heap) (Q : Value → Heap → Prop) (H : Map_ii_newNode.sh a0 a1 h Q) : Map_ii_newNode.call #[a0, a1] h Q := by
  refine callsH_of (args := [a0, a1]) Try.func112 rfl rfl ?_
  unfold Map_ii_newNode.sh at H
  refine WPc_seq' ?_
  refine W_region (by kernel_rfl) ?_
  refine vl_n ?_
  refine H_of_R (R_assign (v := (.pointer none)) rfl ?_)
  refine vl_e ?_
  refine WPc_seq' ?_
  refine W_region (by kernel_rfl) ?_
  refine vl_n ?_
  refine H_alloc TV_188 H fun t6 h H => ?_
  refine vl_n ?_
  refine H_of_R (R_assign (v := t6) rfl ?_)
  refine vl_e ?_
  refine WPc_seq' ?_
  refine W_region (by kernel_rfl) ?_
  refine vl_n ?_
  refine H_of_R (R_move (v := t6) rfl ?_)
  refine vl_n ?_
  refine H_of_R (R_move (v := a0) rfl ?_)
  refine vl_n ?_
  refine H_of_R (R_nil H fun t9 H => ?_)
  refine vl_n ?_
  refine H_of_R (R_fld TF_182_0 H fun t10 H => ?_)
  refine vl_n ?_
  refine H_of_R (R_load1 T1_179 H fun _ t11 _ _ H => ?_)
  refine vl_n ?_
  refine H_of_R (R_nil H fun t12 H => ?_)
  refine vl_n ?_
  refine H_of_R (R_fld TF_188_0 H fun t13 H => ?_)
  refine vl_n ?_
  refine H_store1 TS_179 H fun h H => ?_
  refine vl_e ?_
  refine WPc_seq (fun e h => Map_ii_newNode.j1 (e 5) h Q) ?_ (fun e h H => ?_)
  rotate_left
  · unfold Map_ii_newNode.j1 at H
    refine WPc_seq' ?_
    refine W_region (by kernel_rfl) ?_
    refine vl_n ?_
    refine H_of_R (R_move (v := (e 5)) rfl ?_)
    refine vl_n ?_
    refine H_of_R (R_assign (v := (e 5)) rfl ?_)
    refine vl_e ?_
    refine WPc_ret ?_
    refine resH_of rfl ?_
    exact H
  refine WPc_seq' ?_
  refine W_region (by kernel_rfl) ?_
  refine vl_n ?_
  refine H_of_R (R_move (v := a1) rfl ?_)
  refine vl_n ?_
  refine H_of_R (R_not H fun t15 H => ?_)
  refine vl_e ?_
  obtain ⟨b, hc, H1, H2⟩ := H
  refine WPc_cond hc (fun hh => ?_) (fun hh => ?_)
  · have H := H1 hh; clear H1 H2
    refine W_region (by kernel_rfl) ?_
    refine vl_n ?_
    refine H_of_R (R_move (v := t6) rfl ?_)
    refine vl_n ?_
    refine H_alloc TV_194 H fun t17 h H => ?_
    refine vl_n ?_
    refine H_of_R (R_nil H fun t18 H => ?_)
    refine vl_n ?_
    refine H_of_R (R_fld TF_188_3 H fun t19 H => ?_)
    refine vl_n ?_
    refine H_store1 TS_186 H fun h H => ?_
    refine vl_e ?_
    exact H
  · have H := H2 hh; clear H1 H2
    refine WPc_skip ?_
    exact H
/-! ### (*pub/tidwallbtree.Map[int, int]).DoorLeaf -/
def Map_ii_DoorLeaf.sh (a0 : Value) (h : Heap) (Q : Value → Heap → Prop) : Prop :=
    alloc [(.pointer none)] 175 h fun t2 h =>
    Map_ii_newNode.call #[a0, (.bool true)] h fun t4 h =>
    buildV [(.pointer none)] [(0, 1, t4)] fun t5 =>
    storeN 1 t2 t5 h fun h =>
    loadN 1 t2 h fun r2 =>
    Q r2 h
theorem Map_ii_DoorLeaf.body (a0 : Value) (h : Heap) (Q : Value → Heap → Prop) (H : Map_ii_DoorLeaf.sh a0 h Q) : Map_ii_DoorLeaf.call #[a0] h Q := by
  refine callsH_of (args := [a0]) Try.func150 rfl rfl ?_
  unfold Map_ii_DoorLeaf.sh at H
  refine WPc_seq' ?_
  refine W_region (by kernel_rfl) ?_
  refine vl_n ?_
  refine H_alloc TV_175 H fun t2 h H => ?_
  refine vl_e ?_
  refine WPc_seq' ?_
  refine W_region (by kernel_rfl) ?_
  refine vl_n ?_
  refine H_of_R (R_move (v := a0) rfl ?_)
  refine vl_n ?_
  refine H_call HB_112 H fun t4 h H => ?_
  refine vl_n ?_
  refine H_of_R (R_build TB_175 rfl (by decide) H fun t5 H => ?_)
  refine vl_n ?_
  refine H_storeN TS_175 H fun h H => ?_
  refine vl_e ?_
  refine WPc_ret ?_
  refine resH_of rfl ?_
  refine resL_N TN_175 ?_
  refine loadN_imp H fun r2 H => ?_
  exact H
/-! ### (*pub/tidwallbtree.Map[int, int]).DoorInner -/
def Map_ii_DoorInner.sh (a0 : Value) (h : Heap) (Q : Value → Heap → Prop) : Prop :=
    alloc [(.pointer none)] 175 h fun t2 h =>
    Map_ii_newNode.call #[a0, (.bool false)] h fun t4 h =>
    buildV [(.pointer none)] [(0, 1, t4)] fun t5 =>
    storeN 1 t2 t5 h fun h =>
    loadN 1 t2 h fun r2 =>
    Q r2 h
theorem Map_ii_DoorInner.body (a0 : Value) (h : Heap) (Q : Value → Heap → Prop) (H : Map_ii_DoorInner.sh a0 h Q) : Map_ii_DoorInner.call #[a0] h Q := by
  refine callsH_of (args := [a0]) Try.func151 rfl rfl ?_
  unfold Map_ii_DoorInner.sh at H
  refine WPc_seq' ?_
  refine W_region (by kernel_rfl) ?_
  refine vl_n ?_
  refine H_alloc TV_175 H fun t2 h H => ?_
  refine vl_e ?_
  refine WPc_seq' ?_
  refine W_region (by kernel_rfl) ?_
  refine vl_n ?_
  refine H_of_R (R_move (v := a0) rfl ?_)
  refine vl_n ?_
  refine H_call HB_112 H fun t4 h H => ?_
  refine vl_n ?_
  refine H_of_R (R_build TB_175 rfl (by decide) H fun t5 H => ?_)
  refine vl_n ?_
  refine H_storeN TS_175 H fun h H => ?_
  refine vl_e ?_
  refine WPc_ret ?_
  refine resH_of rfl ?_
  refine resL_N TN_175 ?_
  refine loadN_imp H fun r2 H => ?_
  exact H

end Go.Proofs.Ytlihjljdndbpdaa
