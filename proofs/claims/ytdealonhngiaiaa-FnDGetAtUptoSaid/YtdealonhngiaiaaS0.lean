/-
  Shallow forms of the walked functions, and that each call comes to its form. Written by a program of this repo (gen.py). Conditions: none.
-/
import Derived.Test.YtdealonhngiaiaaST
namespace Go.Proofs.Ytdealonhngiaiaa
open Go.Hp
set_option maxRecDepth 100000
set_option maxHeartbeats 8000000
set_option linter.unusedVariables false
set_option linter.unusedSimpArgs false

/-! ### spec.Fits -/
def s_Fits.sh (a0 : Value) (h : Heap) (Q : Value → Heap → Prop) : Prop :=
    cmpI (fun a b => a == b) a0 (.int .i64 0) fun t4 =>
    br t4 false (cmpI (fun a b => decide (a ≥ b)) a0 (.int .i64 2) fun t7 =>
    br t7 true (cmpI (fun a b => decide (a ≤ b)) a0 (.int .i64 128) fun t10 =>
    Q t10 h) (Q (.bool false) h)) (Q (.bool true) h)
theorem s_Fits.body (a0 : Value) (h : Heap) (Q : Value → Heap → Prop) (H : s_Fits.sh a0 h Q) : s_Fits.call #[a0] h Q := by
  refine callsH_of (args := [a0]) Try.func27 rfl rfl ?_
  unfold s_Fits.sh at H
  refine WPc_seq' ?_
  refine W_region (by kernel_rfl) ?_
  refine vl_n ?_
  refine H_of_R (R_assign (v := (.bool false)) rfl ?_)
  refine vl_e ?_
  refine WPc_seq' ?_
  refine W_region (by kernel_rfl) ?_
  refine vl_n ?_
  refine H_of_R (R_move (v := a0) rfl ?_)
  refine vl_n ?_
  refine H_of_R (R_eqI H fun t4 H => ?_)
  refine vl_n ?_
  refine H_of_R (R_move (v := t4) rfl ?_)
  obtain ⟨b, hb, H1, H2⟩ := H
  cases b
  · have H := H1 rfl; clear H1 H2
    refine vl_y rfl hb ?_
    refine H_of_R (R_move (v := a0) rfl ?_)
    refine vl_y rfl hb ?_
    refine H_of_R (R_geq H fun t7 H => ?_)
    refine vl_y rfl hb ?_
    refine H_of_R (R_move (v := t7) rfl ?_)
    obtain ⟨b_2, hb_2, H1, H2⟩ := H
    cases b_2
    · have H := H2 rfl; clear H1 H2
      refine vl_s rfl (nbT hb_2) ?_
      refine vl_s rfl (nbT hb_2) ?_
      refine vl_y rfl hb ?_
      refine H_of_R (R_pickC (v := (.bool false)) false hb_2 rfl ?_)
      refine vl_n ?_
      refine H_of_R (R_pickC (v := (.bool false)) false hb rfl ?_)
      refine vl_n ?_
      refine H_of_R (R_assign (v := (.bool false)) rfl ?_)
      refine vl_e ?_
      refine WPc_ret ?_
      refine resH_of rfl ?_
      exact H
    · have H := H1 rfl; clear H1 H2
      refine vl_y rfl hb_2 ?_
      refine H_of_R (R_move (v := a0) rfl ?_)
      refine vl_y rfl hb_2 ?_
      refine H_of_R (R_leq H fun t10 H => ?_)
      refine vl_y rfl hb ?_
      refine H_of_R (R_pickC (v := t10) true hb_2 rfl ?_)
      refine vl_n ?_
      refine H_of_R (R_pickC (v := t10) false hb rfl ?_)
      refine vl_n ?_
      refine H_of_R (R_assign (v := t10) rfl ?_)
      refine vl_e ?_
      refine WPc_ret ?_
      refine resH_of rfl ?_
      exact H
  · have H := H2 rfl; clear H1 H2
    refine vl_s rfl (nbF hb) ?_
    refine vl_s rfl (nbF hb) ?_
    refine vl_s rfl (nbF hb) ?_
    refine vl_s rfl nbU ?_
    refine vl_s rfl nbU ?_
    refine vl_s rfl (nbF hb) ?_
    refine vl_n ?_
    refine H_of_R (R_pickC (v := (.bool true)) true hb rfl ?_)
    refine vl_n ?_
    refine H_of_R (R_assign (v := (.bool true)) rfl ?_)
    refine vl_e ?_
    refine WPc_ret ?_
    refine resH_of rfl ?_
    exact H
/-! ### laws.fit -/
def l_fit.sh (a0 : Value) (h : Heap) (Q : Value → Heap → Prop) : Prop :=
    cmpI (fun a b => decide (a > b)) a0 (.int .i64 0) fun t4 =>
    br t4 true (s_Fits.call #[a0] h fun t7 h =>
    Q t7 h) (Q (.bool false) h)
theorem l_fit.body (a0 : Value) (h : Heap) (Q : Value → Heap → Prop) (H : l_fit.sh a0 h Q) : l_fit.call #[a0] h Q := by
  refine callsH_of (args := [a0]) Try.func8 rfl rfl ?_
  unfold l_fit.sh at H
  refine WPc_seq' ?_
  refine W_region (by kernel_rfl) ?_
  refine vl_n ?_
  refine H_of_R (R_assign (v := (.bool false)) rfl ?_)
  refine vl_e ?_
  refine WPc_seq' ?_
  refine W_region (by kernel_rfl) ?_
  refine vl_n ?_
  refine H_of_R (R_move (v := a0) rfl ?_)
  refine vl_n ?_
  refine H_of_R (R_gtr H fun t4 H => ?_)
  refine vl_n ?_
  refine H_of_R (R_move (v := t4) rfl ?_)
  obtain ⟨b, hb, H1, H2⟩ := H
  cases b
  · have H := H2 rfl; clear H1 H2
    refine vl_s rfl (nbT hb) ?_
    refine vl_s rfl (nbT hb) ?_
    refine vl_n ?_
    refine H_of_R (R_pickC (v := (.bool false)) false hb rfl ?_)
    refine vl_n ?_
    refine H_of_R (R_assign (v := (.bool false)) rfl ?_)
    refine vl_e ?_
    refine WPc_ret ?_
    refine resH_of rfl ?_
    exact H
  · have H := H1 rfl; clear H1 H2
    refine vl_y rfl hb ?_
    refine H_of_R (R_move (v := a0) rfl ?_)
    refine vl_y rfl hb ?_
    refine H_call HB_27 H fun t7 h H => ?_
    refine vl_n ?_
    refine H_of_R (R_pickC (v := t7) true hb rfl ?_)
    refine vl_n ?_
    refine H_of_R (R_assign (v := t7) rfl ?_)
    refine vl_e ?_
    refine WPc_ret ?_
    refine resH_of rfl ?_
    exact H
/-! ### spec.Rank -/
def s_Rank.j1 (s0 : Value) (s1 : Value) (s5 : Value) (h : Heap) (Q : Value → Heap → Prop) : Prop :=
    remi s1 s5 fun t14 =>
    arith (· + ·) t14 s5 fun t16 =>
    remi t16 s5 fun t18 =>
    idx 1 s0 t18 fun t19 =>
    load1 t19 h fun t20 =>
    Q t20 h
def s_Rank.sh (a0 : Value) (a1 : Value) (h : Heap) (Q : Value → Heap → Prop) : Prop :=
    lenV a0 fun t7 =>
    cmpI (fun a b => a == b) t7 (.int .i64 0) fun t9 =>
    ifV t9
    (Q a1 h)
    (s_Rank.j1 a0 a1 t7 h Q)
theorem s_Rank.body (a0 : Value) (a1 : Value) (h : Heap) (Q : Value → Heap → Prop) (H : s_Rank.sh a0 a1 h Q) : s_Rank.call #[a0, a1] h Q := by
  refine callsH_of (args := [a0, a1]) Try.func51 rfl rfl ?_
  unfold s_Rank.sh at H
  refine WPc_seq' ?_
  refine W_region (by kernel_rfl) ?_
  refine vl_n ?_
  refine H_of_R (R_assign (v := (.int .i64 0)) rfl ?_)
  refine vl_e ?_
  refine WPc_seq' ?_
  refine W_region (by kernel_rfl) ?_
  refine vl_n ?_
  refine H_of_R (R_move (v := a0) rfl ?_)
  refine vl_n ?_
  refine H_of_R (R_len Try.underlying47 H fun t7 H => ?_)
  refine vl_n ?_
  refine H_of_R (R_assign (v := t7) rfl ?_)
  refine vl_e ?_
  refine WPc_seq (fun e h => s_Rank.j1 (e 0) (e 1) (e 5) h Q) ?_ (fun e h H => ?_)
  rotate_left
  · unfold s_Rank.j1 at H
    refine WPc_seq' ?_
    refine W_region (by kernel_rfl) ?_
    refine vl_n ?_
    refine H_of_R (R_move (v := (e 0)) rfl ?_)
    refine vl_n ?_
    refine H_of_R (R_move (v := (e 1)) rfl ?_)
    refine vl_n ?_
    refine H_of_R (R_move (v := (e 5)) rfl ?_)
    refine vl_n ?_
    refine H_of_R (R_rem H fun t14 H => ?_)
    refine vl_n ?_
    refine H_of_R (R_move (v := (e 5)) rfl ?_)
    refine vl_n ?_
    refine H_of_R (R_add H fun t16 H => ?_)
    refine vl_n ?_
    refine H_of_R (R_move (v := (e 5)) rfl ?_)
    refine vl_n ?_
    refine H_of_R (R_rem H fun t18 H => ?_)
    refine vl_n ?_
    refine H_of_R (R_idx TE_47 H fun t19 H => ?_)
    refine vl_n ?_
    refine H_of_R (R_load1 T1_3 H fun _ t20 _ _ H => ?_)
    refine vl_n ?_
    refine H_of_R (R_assign (v := t20) rfl ?_)
    refine vl_e ?_
    refine WPc_ret ?_
    refine resH_of rfl ?_
    exact H
  refine WPc_seq' ?_
  refine W_region (by kernel_rfl) ?_
  refine vl_n ?_
  refine H_of_R (R_move (v := t7) rfl ?_)
  refine vl_n ?_
  refine H_of_R (R_eqI H fun t9 H => ?_)
  refine vl_e ?_
  obtain ⟨b, hc, H1, H2⟩ := H
  refine WPc_cond hc (fun hh => ?_) (fun hh => ?_)
  · have H := H1 hh; clear H1 H2
    refine WPc_seq' ?_
    refine W_region (by kernel_rfl) ?_
    refine vl_n ?_
    refine H_of_R (R_move (v := a1) rfl ?_)
    refine vl_n ?_
    refine H_of_R (R_assign (v := a1) rfl ?_)
    refine vl_e ?_
    refine WPc_ret ?_
    refine resH_of rfl ?_
    exact H
  · have H := H2 hh; clear H1 H2
    refine WPc_skip ?_
    exact H
/-! ### spec.Before -/
def s_Before.sh (a0 : Value) (a1 : Value) (a2 : Value) (h : Heap) (Q : Value → Heap → Prop) : Prop :=
    box 30 a1 h fun t4 h =>
    box 30 a2 h fun t5 h =>
    fld 0 t4 fun t8 =>
    load1 t8 h fun t9 =>
    fld 0 t5 fun t12 =>
    load1 t12 h fun t13 =>
    s_Rank.call #[a0, t9] h fun t10 h =>
    still1 t12 t13 h ∧ s_Rank.call #[a0, t13] h fun t14 h =>
    cmpI (fun a b => decide (a < b)) t10 t14 fun t15 =>
    Q t15 h
theorem s_Before.body (a0 : Value) (a1 : Value) (a2 : Value) (h : Heap) (Q : Value → Heap → Prop) (H : s_Before.sh a0 a1 a2 h Q) : s_Before.call #[a0, a1, a2] h Q := by
  refine callsH_of (args := [a0, a1, a2]) Try.func28 rfl rfl ?_
  unfold s_Before.sh at H
  refine WPc_seq' ?_
  refine W_region (by kernel_rfl) ?_
  refine vl_n ?_
  refine H_box H fun t4 h H => ?_
  refine vl_n ?_
  refine H_box H fun t5 h H => ?_
  refine vl_n ?_
  refine H_of_R (R_assign (v := (.bool false)) rfl ?_)
  refine vl_e ?_
  refine WPc_seq' ?_
  refine W_drawn [0, 0, 2, 7, 0, 0, 32, 127, 255, 511] (.take 0 (.take 1 (.take 2 (.take 4 (.take 5 (.take 6 (.alt 3 (.alt 7 (.take 8 (.take 9 .done)) .none) .none))))))) mixed (by kernel_rfl) ?_
  refine tkP rfl ?_
  refine R_move (v := a0) rfl ⟨fun _ => trivial, ?_⟩
  refine tkP rfl ?_
  refine R_fld TF_30_0 H fun t8 H => ⟨fun _ => trivial, ?_⟩
  refine tkL rfl ?_
  refine R_load1 T1_3 H fun at9 t9 hat9 _ H => ?_
  refine tkP rfl ?_
  refine R_move (v := a0) rfl ⟨fun _ => trivial, ?_⟩
  refine tkP rfl ?_
  refine R_fld TF_30_0 H fun t12 H => ⟨fun _ => trivial, ?_⟩
  refine tkL rfl ?_
  refine R_load1 T1_3 H fun at13 t13 hat13 _ H => ?_
  refine alt_n rfl ?_ vp_none
  refine H_call HB_51 H fun t10 h ⟨S, H⟩ => ⟨(hcons rfl (still_1 S hat13) (hskip rfl hnil)), ?_⟩
  refine alt_n rfl ?_ vp_none
  refine H_call HB_51 H fun t14 h H => ⟨(hskip rfl hnil), ?_⟩
  refine tkP rfl ?_
  refine R_lss H fun t15 H => ⟨fun _ => trivial, ?_⟩
  refine tkP rfl ?_
  refine R_assign (v := t15) rfl ⟨fun _ => trivial, ?_⟩
  refine vp_done ?_
  refine WPc_ret ?_
  refine resH_of rfl ?_
  exact H
/-! ### spec.Rising -/
def s_Rising.j1 (h : Heap) (Q : Value → Heap → Prop) : Prop :=
    Q (.bool true) h
def s_Rising.j4 (s0 : Value) (s1 : Value) (s5 : Value) (h : Heap) (K1 : List Value → Heap → Prop) (Q : Value → Heap → Prop) : Prop :=
    arith (· + ·) s5 (.int .i64 1) fun t11 =>
    K1 [t11] h
def s_Rising.j3 (s0 : Value) (s1 : Value) (s5 : Value) (h : Heap) (K1 : List Value → Heap → Prop) (Q : Value → Heap → Prop) : Prop :=
    arith (· - ·) s5 (.int .i64 1) fun t15 =>
    idx 2 s1 t15 fun t16 =>
    loadN 2 t16 h fun t17 =>
    idx 2 s1 s5 fun t20 =>
    loadN 2 t20 h fun t21 =>
    s_Before.call #[s0, t17, t21] h fun t22 h =>
    notV t22 fun t23 =>
    ifV t23
    (Q (.bool false) h)
    (s_Rising.j4 s0 s1 s5 h K1 Q)
def s_Rising.l2.b (c0 : Value) (c1 : Value) (s5 : Value) (h : Heap) (K1 : List Value → Heap → Prop) (Q : Value → Heap → Prop) : Prop :=
    lenV c1 fun t8 =>
    cmpI (fun a b => decide (a < b)) s5 t8 fun t9 =>
    ifV t9
    (s_Rising.j3 c0 c1 s5 h K1 Q)
    (s_Rising.j1 h Q)
def s_Rising.sh (a0 : Value) (a1 : Value) (h : Heap) (Q : Value → Heap → Prop) : Prop :=
    loopC (fun c s h K1 => s_Rising.l2.b (c.getD 0 undef) (c.getD 1 undef) (s.getD 0 undef) h K1 Q) [a0, a1] [(.int .i64 1)] h
theorem s_Rising.body (a0 : Value) (a1 : Value) (h : Heap) (Q : Value → Heap → Prop) (H : s_Rising.sh a0 a1 h Q) : s_Rising.call #[a0, a1] h Q := by
  refine callsH_of (args := [a0, a1]) Try.func9 rfl rfl ?_
  unfold s_Rising.sh at H
  refine WPc_seq' ?_
  refine W_region (by kernel_rfl) ?_
  refine vl_n ?_
  refine H_of_R (R_assign (v := (.bool false)) rfl ?_)
  refine vl_e ?_
  refine WPc_seq (fun e h => s_Rising.j1 h Q) ?_ (fun e h H => ?_)
  rotate_left
  · unfold s_Rising.j1 at H
    refine WPc_seq' ?_
    refine W_region (by kernel_rfl) ?_
    refine vl_n ?_
    refine H_of_R (R_assign (v := (.bool true)) rfl ?_)
    refine vl_e ?_
    refine WPc_ret ?_
    refine resH_of rfl ?_
    exact H
  refine WPc_seq' ?_
  refine W_region (by kernel_rfl) ?_
  refine vl_n ?_
  refine H_of_R (R_assign (v := (.int .i64 1)) rfl ?_)
  refine vl_e ?_
  refine WPc_block ?_
  refine loop_at (fun e => [e 5]) (fun e => [e 0, e 1]) H rfl rfl ?_
  intro K1 e1 h H hin1
  replace H : s_Rising.l2.b (e1 0) (e1 1) (e1 5) h K1 Q := H
  unfold s_Rising.l2.b at H
  clear hin1
  refine WPc_seq (fun e h => s_Rising.j3 (e 0) (e 1) (e 5) h K1 Q ∧ [e1 0, e1 1] = [e 0, e 1]) ?_ (fun e h ⟨H, hq1⟩ => ?_)
  rotate_left
  · unfold s_Rising.j3 at H
    refine WPc_seq (fun e h => s_Rising.j4 (e 0) (e 1) (e 5) h K1 Q ∧ [e1 0, e1 1] = [e 0, e 1]) ?_ (fun e h ⟨H, hq1⟩ => ?_)
    rotate_left
    · unfold s_Rising.j4 at H
      refine W_region (by kernel_rfl) ?_
      refine vl_n ?_
      refine H_of_R (R_move (v := (e 5)) rfl ?_)
      refine vl_n ?_
      refine H_of_R (R_add H fun t11 H => ?_)
      refine vl_n ?_
      refine H_of_R (R_assign (v := t11) rfl ?_)
      refine vl_e ?_
      exact ⟨H, hq1⟩
    refine WPc_block ?_
    refine WPc_seq' ?_
    refine W_drawn [0, 0, 0, 4, 14, 30, 0, 0, 192, 448, 1023, 2047] (.take 0 (.take 1 (.take 2 (.take 3 (.take 4 (.take 5 (.take 6 (.take 7 (.take 8 (.take 9 (.alt 10 (.take 11 .done) .none))))))))))) mixed (by kernel_rfl) ?_
    refine tkP rfl ?_
    refine R_move (v := (e 0)) rfl ⟨fun _ => trivial, ?_⟩
    refine tkP rfl ?_
    refine R_move (v := (e 1)) rfl ⟨fun _ => trivial, ?_⟩
    refine tkP rfl ?_
    refine R_move (v := (e 5)) rfl ⟨fun _ => trivial, ?_⟩
    refine tkP rfl ?_
    refine R_sub H fun t15 H => ⟨fun _ => trivial, ?_⟩
    refine tkP rfl ?_
    refine R_idx TE_22 H fun t16 H => ⟨fun _ => trivial, ?_⟩
    refine tkL rfl ?_
    refine R_loadN TN_30 H fun at17 xt17 hat17 _ H St17 hSt17 => ?_
    refine tkP rfl ?_
    refine R_move (v := (e 1)) rfl ⟨fun _ => trivial, ?_⟩
    refine tkP rfl ?_
    refine R_move (v := (e 5)) rfl ⟨fun _ => trivial, ?_⟩
    refine tkP rfl ?_
    refine R_idx TE_22 H fun t20 H => ⟨fun _ => trivial, ?_⟩
    refine tkL rfl ?_
    refine R_loadN TN_30 H fun at21 xt21 hat21 _ H St21 hSt21 => ?_
    refine alt_n rfl ?_ vp_none
    refine H_call HB_28 H fun t22 h H => ⟨(hskip rfl (hskip rfl hnil)), ?_⟩
    refine tkP rfl ?_
    refine R_not H fun t23 H => ⟨fun _ => trivial, ?_⟩
    refine vp_done ?_
    obtain ⟨b, hc, H1, H2⟩ := H
    refine WPc_cond hc (fun hh => ?_) (fun hh => ?_)
    · have H := H1 hh; clear H1 H2
      refine WPc_seq' ?_
      refine W_region (by kernel_rfl) ?_
      refine vl_n ?_
      refine H_of_R (R_assign (v := (.bool false)) rfl ?_)
      refine vl_e ?_
      refine WPc_ret ?_
      refine resH_of rfl ?_
      exact H
    · have H := H2 hh; clear H1 H2
      refine WPc_skip ?_
      exact ⟨H, hq1⟩
  refine WPc_seq' ?_
  refine W_region (by kernel_rfl) ?_
  refine vl_n ?_
  refine H_of_R (R_move (v := (e1 5)) rfl ?_)
  refine vl_n ?_
  refine H_of_R (R_move (v := (e1 1)) rfl ?_)
  refine vl_n ?_
  refine H_of_R (R_len Try.underlying22 H fun t8 H => ?_)
  refine vl_n ?_
  refine H_of_R (R_lss H fun t9 H => ?_)
  refine vl_e ?_
  obtain ⟨b, hc, H1, H2⟩ := H
  refine WPc_cond hc (fun hh => ?_) (fun hh => ?_)
  · have H := H1 hh; clear H1 H2
    refine WPc_skip ?_
    exact ⟨H, rfl⟩
  · have H := H2 hh; clear H1 H2
    refine WPc_exit ?_
    exact H
/-! ### pub/tidwallbtree.degreeToMinMax -/
def degreeToMinMax.j1 (s0 : Value) (h : Heap) (Q : Value → Heap → Prop) : Prop :=
    arith (· * ·) s0 (.int .i64 2) fun t9 =>
    arith (· - ·) t9 (.int .i64 1) fun t10 =>
    divi t10 (.int .i64 2) fun t12 =>
    Q (.tuple #[t12, t10]) h
def degreeToMinMax.sh (a0 : Value) (h : Heap) (Q : Value → Heap → Prop) : Prop :=
    cmpI (fun a b => decide (a ≤ b)) a0 (.int .i64 0) fun t5 =>
    ifV t5
    (degreeToMinMax.j1 (.int .i64 32) h Q)
    (cmpI (fun a b => a == b) a0 (.int .i64 1) fun t7 =>
    ifV t7
    (degreeToMinMax.j1 (.int .i64 2) h Q)
    (degreeToMinMax.j1 a0 h Q))
theorem degreeToMinMax.body (a0 : Value) (h : Heap) (Q : Value → Heap → Prop) (H : degreeToMinMax.sh a0 h Q) : degreeToMinMax.call #[a0] h Q := by
  refine callsH_of (args := [a0]) Try.func81 rfl rfl ?_
  unfold degreeToMinMax.sh at H
  refine WPc_seq' ?_
  refine W_region (by kernel_rfl) ?_
  refine vl_n ?_
  refine H_of_R (R_assign (v := (.int .i64 0)) rfl ?_)
  refine vl_n ?_
  refine H_of_R (R_assign (v := (.int .i64 0)) rfl ?_)
  refine vl_e ?_
  refine WPc_seq (fun e h => degreeToMinMax.j1 (e 0) h Q) ?_ (fun e h H => ?_)
  rotate_left
  · unfold degreeToMinMax.j1 at H
    refine WPc_seq' ?_
    refine W_region (by kernel_rfl) ?_
    refine vl_n ?_
    refine H_of_R (R_move (v := (e 0)) rfl ?_)
    refine vl_n ?_
    refine H_of_R (R_mul H fun t9 H => ?_)
    refine vl_n ?_
    refine H_of_R (R_sub H fun t10 H => ?_)
    refine vl_n ?_
    refine H_of_R (R_assign (v := t10) rfl ?_)
    refine vl_e ?_
    refine WPc_seq' ?_
    refine W_region (by kernel_rfl) ?_
    refine vl_n ?_
    refine H_of_R (R_move (v := t10) rfl ?_)
    refine vl_n ?_
    refine H_of_R (R_quo H fun t12 H => ?_)
    refine vl_n ?_
    refine H_of_R (R_assign (v := t12) rfl ?_)
    refine vl_e ?_
    refine WPc_seq' ?_
    refine W_region (by kernel_rfl) ?_
    refine vl_n ?_
    refine H_of_R (R_move (v := t12) rfl ?_)
    refine vl_n ?_
    refine H_of_R (R_move (v := t10) rfl ?_)
    refine vl_n ?_
    refine H_of_R (R_assign (v := t12) rfl ?_)
    refine vl_n ?_
    refine H_of_R (R_assign (v := t10) rfl ?_)
    refine vl_e ?_
    refine WPc_ret ?_
    refine resH_of rfl ?_
    exact H
  refine WPc_seq' ?_
  refine W_region (by kernel_rfl) ?_
  refine vl_n ?_
  refine H_of_R (R_move (v := a0) rfl ?_)
  refine vl_n ?_
  refine H_of_R (R_leq H fun t5 H => ?_)
  refine vl_e ?_
  obtain ⟨b, hc, H1, H2⟩ := H
  refine WPc_cond hc (fun hh => ?_) (fun hh => ?_)
  · have H := H1 hh; clear H1 H2
    refine W_region (by kernel_rfl) ?_
    refine vl_n ?_
    refine H_of_R (R_assign (v := (.int .i64 32)) rfl ?_)
    refine vl_e ?_
    exact H
  · have H := H2 hh; clear H1 H2
    refine WPc_seq' ?_
    refine W_region (by kernel_rfl) ?_
    refine vl_n ?_
    refine H_of_R (R_move (v := a0) rfl ?_)
    refine vl_n ?_
    refine H_of_R (R_eqI H fun t7 H => ?_)
    refine vl_e ?_
    obtain ⟨b_2, hc_2, H1, H2⟩ := H
    refine WPc_cond hc_2 (fun hh => ?_) (fun hh => ?_)
    · have H := H1 hh; clear H1 H2
      refine W_region (by kernel_rfl) ?_
      refine vl_n ?_
      refine H_of_R (R_assign (v := (.int .i64 2)) rfl ?_)
      refine vl_e ?_
      exact H
    · have H := H2 hh; clear H1 H2
      refine WPc_skip ?_
      exact H
/-! ### (*pub/tidwallbtree.Map[int, int]).init -/
def Map_ii_init.j1 (s0 : Value) (s1 : Value) (h : Heap) (Q : Value → Heap → Prop) : Prop :=
    degreeToMinMax.call #[s1] h fun t13 h =>
    extr 0 t13 fun t14 =>
    extr 1 t13 fun t15 =>
    nilck s0 fun t16 =>
    fld 6 t16 fun t17 =>
    store1 t17 t14 h fun h =>
    nilck s0 fun t18 =>
    fld 7 t18 fun t19 =>
    store1 t19 t15 h fun h =>
    nilck s0 fun t23 =>
    fld 4 t23 fun t24 =>
    fld 0 t24 fun t25 =>
    load1 t25 h fun t26 =>
    extr 0 (.tuple #[.nilIface, .bool false]) fun t29 =>
    extr 1 (.tuple #[.nilIface, .bool false]) fun t30 =>
    nilck s0 fun t31 =>
    fld 8 t31 fun t32 =>
    store1 t32 t30 h fun h =>
    nilck s0 fun t34 =>
    fld 8 t34 fun t35 =>
    load1 t35 h fun t36 =>
    notV t36 fun t37 =>
    ifV t37
    (nilck s0 fun t41 =>
    fld 4 t41 fun t42 =>
    fld 0 t42 fun t43 =>
    load1 t43 h fun t44 =>
    extr 0 (.tuple #[.nilIface, .bool false]) fun t47 =>
    extr 1 (.tuple #[.nilIface, .bool false]) fun t48 =>
    nilck s0 fun t49 =>
    fld 9 t49 fun t50 =>
    store1 t50 t48 h fun h =>
    Q (.tuple #[]) h)
    (Q (.tuple #[]) h)
def Map_ii_init.sh (a0 : Value) (a1 : Value) (h : Heap) (Q : Value → Heap → Prop) : Prop :=
    nilck a0 fun t5 =>
    fld 6 t5 fun t6 =>
    load1 t6 h fun t7 =>
    cmpI (fun a b => a != b) t7 (.int .i64 0) fun t8 =>
    ifV t8
    (Q (.tuple #[]) h)
    (Map_ii_init.j1 a0 a1 h Q)
theorem Map_ii_init.body (a0 : Value) (a1 : Value) (h : Heap) (Q : Value → Heap → Prop) (H : Map_ii_init.sh a0 a1 h Q) : Map_ii_init.call #[a0, a1] h Q := by
  refine callsH_of (args := [a0, a1]) Try.func55 rfl rfl ?_
  unfold Map_ii_init.sh at H
  refine WPc_seq (fun e h => Map_ii_init.j1 (e 0) (e 1) h Q) ?_ (fun e h H => ?_)
  rotate_left
  · unfold Map_ii_init.j1 at H
    refine WPc_seq' ?_
    refine W_region (by kernel_rfl) ?_
    refine vl_n ?_
    refine H_of_R (R_move (v := (e 0)) rfl ?_)
    refine vl_n ?_
    refine H_of_R (R_move (v := (e 0)) rfl ?_)
    refine vl_n ?_
    refine H_of_R (R_move (v := (e 1)) rfl ?_)
    refine vl_n ?_
    refine H_call HB_81 H fun t13 h H => ?_
    refine vl_n ?_
    refine H_of_R (R_move (v := t13) rfl ?_)
    refine vl_n ?_
    refine H_of_R (R_ext H fun t14 H => ?_)
    refine vl_n ?_
    refine H_of_R (R_ext H fun t15 H => ?_)
    refine vl_n ?_
    refine H_of_R (R_nil H fun t16 H => ?_)
    refine vl_n ?_
    refine H_of_R (R_fld TF_92_5 H fun t17 H => ?_)
    refine vl_n ?_
    refine H_store1 TS_3 H fun h H => ?_
    refine vl_n ?_
    refine H_of_R (R_nil H fun t18 H => ?_)
    refine vl_n ?_
    refine H_of_R (R_fld TF_92_6 H fun t19 H => ?_)
    refine vl_n ?_
    refine H_store1 TS_3 H fun h H => ?_
    refine vl_e ?_
    refine WPc_seq' ?_
    refine W_region (by kernel_rfl) ?_
    refine vl_n ?_
    refine H_of_R (R_move (v := (e 0)) rfl ?_)
    refine vl_n ?_
    refine H_of_R (R_move (v := (e 0)) rfl ?_)
    refine vl_n ?_
    refine H_of_R (R_nil H fun t23 H => ?_)
    refine vl_n ?_
    refine H_of_R (R_fld TF_92_4 H fun t24 H => ?_)
    refine vl_n ?_
    refine H_of_R (R_fld TF_90_0 H fun t25 H => ?_)
    refine vl_n ?_
    refine H_of_R (R_load1 T1_3 H fun _ t26 _ _ H => ?_)
    refine vl_n ?_
    refine H_of_R (R_mkI Try.underlying3 (by intro k hk; cases hk) ?_)
    refine vl_n ?_
    refine H_of_R (R_ta (t := 3) Try.underlying128 Try.type3 (missing_some rfl) Try.type128 rfl rfl ?_)
    refine vl_n ?_
    refine H_of_R (R_move (v := (.tuple #[.nilIface, .bool false])) rfl ?_)
    refine vl_n ?_
    refine H_of_R (R_ext H fun t29 H => ?_)
    refine vl_n ?_
    refine H_of_R (R_ext H fun t30 H => ?_)
    refine vl_n ?_
    refine H_of_R (R_nil H fun t31 H => ?_)
    refine vl_n ?_
    refine H_of_R (R_fld TF_92_7 H fun t32 H => ?_)
    refine vl_n ?_
    refine H_store1 TS_4 H fun h H => ?_
    refine vl_e ?_
    refine WPc_seq' ?_
    refine W_region (by kernel_rfl) ?_
    refine vl_n ?_
    refine H_of_R (R_move (v := (e 0)) rfl ?_)
    refine vl_n ?_
    refine H_of_R (R_nil H fun t34 H => ?_)
    refine vl_n ?_
    refine H_of_R (R_fld TF_92_7 H fun t35 H => ?_)
    refine vl_n ?_
    refine H_of_R (R_load1 T1_4 H fun _ t36 _ _ H => ?_)
    refine vl_n ?_
    refine H_of_R (R_not H fun t37 H => ?_)
    refine vl_e ?_
    obtain ⟨b, hc, H1, H2⟩ := H
    refine WPc_cond hc (fun hh => ?_) (fun hh => ?_)
    · have H := H1 hh; clear H1 H2
      refine W_region (by kernel_rfl) ?_
      refine vl_n ?_
      refine H_of_R (R_move (v := (e 0)) rfl ?_)
      refine vl_n ?_
      refine H_of_R (R_move (v := (e 0)) rfl ?_)
      refine vl_n ?_
      refine H_of_R (R_nil H fun t41 H => ?_)
      refine vl_n ?_
      refine H_of_R (R_fld TF_92_4 H fun t42 H => ?_)
      refine vl_n ?_
      refine H_of_R (R_fld TF_90_0 H fun t43 H => ?_)
      refine vl_n ?_
      refine H_of_R (R_load1 T1_3 H fun _ t44 _ _ H => ?_)
      refine vl_n ?_
      refine H_of_R (R_mkI Try.underlying3 (by intro k hk; cases hk) ?_)
      refine vl_n ?_
      refine H_of_R (R_ta (t := 3) Try.underlying131 Try.type3 (missing_some rfl) Try.type131 rfl rfl ?_)
      refine vl_n ?_
      refine H_of_R (R_move (v := (.tuple #[.nilIface, .bool false])) rfl ?_)
      refine vl_n ?_
      refine H_of_R (R_ext H fun t47 H => ?_)
      refine vl_n ?_
      refine H_of_R (R_ext H fun t48 H => ?_)
      refine vl_n ?_
      refine H_of_R (R_nil H fun t49 H => ?_)
      refine vl_n ?_
      refine H_of_R (R_fld TF_92_8 H fun t50 H => ?_)
      refine vl_n ?_
      refine H_store1 TS_4 H fun h H => ?_
      refine vl_e ?_
      refine resH_of rfl ?_
      exact H
    · have H := H2 hh; clear H1 H2
      refine WPc_skip ?_
      refine resH_of rfl ?_
      exact H
  refine WPc_seq' ?_
  refine W_region (by kernel_rfl) ?_
  refine vl_n ?_
  refine H_of_R (R_move (v := a0) rfl ?_)
  refine vl_n ?_
  refine H_of_R (R_nil H fun t5 H => ?_)
  refine vl_n ?_
  refine H_of_R (R_fld TF_92_5 H fun t6 H => ?_)
  refine vl_n ?_
  refine H_of_R (R_load1 T1_3 H fun _ t7 _ _ H => ?_)
  refine vl_n ?_
  refine H_of_R (R_neI H fun t8 H => ?_)
  refine vl_e ?_
  obtain ⟨b, hc, H1, H2⟩ := H
  refine WPc_cond hc (fun hh => ?_) (fun hh => ?_)
  · have H := H1 hh; clear H1 H2
    refine WPc_ret ?_
    refine resH_of rfl ?_
    exact H
  · have H := H2 hh; clear H1 H2
    refine WPc_skip ?_
    exact H
/-! ### pub/tidwallbtree.NewMap[int,int] -/
def NewMap_ii.sh (a0 : Value) (h : Heap) (Q : Value → Heap → Prop) : Prop :=
    alloc [(.int .u64 0), (.pointer none), (.pointer none), (.int .i64 0), (.int .i64 0), (.int .i64 0), (.int .i64 0), (.int .i64 0), (.bool false), (.bool false)] 92 h fun t4 h =>
    Map_ii_init.call #[t4, a0] h fun t7 h =>
    Q t4 h
theorem NewMap_ii.body (a0 : Value) (h : Heap) (Q : Value → Heap → Prop) (H : NewMap_ii.sh a0 h Q) : NewMap_ii.call #[a0] h Q := by
  refine callsH_of (args := [a0]) Try.func31 rfl rfl ?_
  unfold NewMap_ii.sh at H
  refine WPc_seq' ?_
  refine W_region (by kernel_rfl) ?_
  refine vl_n ?_
  refine H_of_R (R_assign (v := (.pointer none)) rfl ?_)
  refine vl_e ?_
  refine WPc_seq' ?_
  refine W_region (by kernel_rfl) ?_
  refine vl_n ?_
  refine H_alloc TV_92 H fun t4 h H => ?_
  refine vl_n ?_
  refine H_of_R (R_assign (v := t4) rfl ?_)
  refine vl_e ?_
  refine WPc_seq' ?_
  refine W_region (by kernel_rfl) ?_
  refine vl_n ?_
  refine H_of_R (R_move (v := t4) rfl ?_)
  refine vl_n ?_
  refine H_of_R (R_move (v := a0) rfl ?_)
  refine vl_n ?_
  refine H_call HB_55 H fun t7 h H => ?_
  refine vl_e ?_
  refine WPc_seq' ?_
  refine W_region (by kernel_rfl) ?_
  refine vl_n ?_
  refine H_of_R (R_move (v := t4) rfl ?_)
  refine vl_n ?_
  refine H_of_R (R_assign (v := t4) rfl ?_)
  refine vl_e ?_
  refine WPc_ret ?_
  refine resH_of rfl ?_
  exact H
/-! ### (*pub/tidwallbtree.Map[int, int]).newNode -/
def Map_ii_newNode.j1 (s5 : Value) (h : Heap) (Q : Value → Heap → Prop) : Prop :=
    Q s5 h
def Map_ii_newNode.sh (a0 : Value) (a1 : Value) (h : Heap) (Q : Value → Heap → Prop) : Prop :=
    alloc [(.int .u64 0), (.int .i64 0), (.slice none 0 0), (.pointer none)] 105 h fun t6 h =>
    nilck a0 fun t9 =>
    fld 0 t9 fun t10 =>
    load1 t10 h fun t11 =>
    nilck t6 fun t12 =>
    fld 0 t12 fun t13 =>
    store1 t13 t11 h fun h =>
    notV a1 fun t15 =>
    ifV t15
    (alloc [(.slice none 0 0)] 111 h fun t17 h =>
    nilck t6 fun t18 =>
    fld 3 t18 fun t19 =>
    store1 t19 t17 h fun h =>
    Map_ii_newNode.j1 t6 h Q)
    (Map_ii_newNode.j1 t6 h Q)
theorem Map_ii_newNode.body (a0 : Value) (a1 : Value) (h : Heap) (Q : Value → Heap → Prop) (H : Map_ii_newNode.sh a0 a1 h Q) : Map_ii_newNode.call #[a0, a1] h Q := by
  refine callsH_of (args := [a0, a1]) Try.func66 rfl rfl ?_
  unfold Map_ii_newNode.sh at H
  refine WPc_seq' ?_
  refine W_region (by kernel_rfl) ?_
  refine vl_n ?_
  refine H_of_R (R_assign (v := (.pointer none)) rfl ?_)
  refine vl_e ?_
  refine WPc_seq' ?_
  refine W_region (by kernel_rfl) ?_
  refine vl_n ?_
  refine H_alloc TV_105 H fun t6 h H => ?_
  refine vl_n ?_
  refine H_of_R (R_assign (v := t6) rfl ?_)
  refine vl_e ?_
  refine WPc_seq' ?_
  refine W_region (by kernel_rfl) ?_
  refine vl_n ?_
  refine H_of_R (R_move (v := t6) rfl ?_)
  refine vl_n ?_
  refine H_of_R (R_move (v := a0) rfl ?_)
  refine vl_n ?_
  refine H_of_R (R_nil H fun t9 H => ?_)
  refine vl_n ?_
  refine H_of_R (R_fld TF_92_0 H fun t10 H => ?_)
  refine vl_n ?_
  refine H_of_R (R_load1 T1_87 H fun _ t11 _ _ H => ?_)
  refine vl_n ?_
  refine H_of_R (R_nil H fun t12 H => ?_)
  refine vl_n ?_
  refine H_of_R (R_fld TF_105_0 H fun t13 H => ?_)
  refine vl_n ?_
  refine H_store1 TS_87 H fun h H => ?_
  refine vl_e ?_
  refine WPc_seq (fun e h => Map_ii_newNode.j1 (e 5) h Q) ?_ (fun e h H => ?_)
  rotate_left
  · unfold Map_ii_newNode.j1 at H
    refine WPc_seq' ?_
    refine W_region (by kernel_rfl) ?_
    refine vl_n ?_
    refine H_of_R (R_move (v := (e 5)) rfl ?_)
    refine vl_n ?_
    refine H_of_R (R_assign (v := (e 5)) rfl ?_)
    refine vl_e ?_
    refine WPc_ret ?_
    refine resH_of rfl ?_
    exact H
  refine WPc_seq' ?_
  refine W_region (by kernel_rfl) ?_
  refine vl_n ?_
  refine H_of_R (R_move (v := a1) rfl ?_)
  refine vl_n ?_
  refine H_of_R (R_not H fun t15 H => ?_)
  refine vl_e ?_
  obtain ⟨b, hc, H1, H2⟩ := H
  refine WPc_cond hc (fun hh => ?_) (fun hh => ?_)
  · have H := H1 hh; clear H1 H2
    refine W_region (by kernel_rfl) ?_
    refine vl_n ?_
    refine H_of_R (R_move (v := t6) rfl ?_)
    refine vl_n ?_
    refine H_alloc TV_111 H fun t17 h H => ?_
    refine vl_n ?_
    refine H_of_R (R_nil H fun t18 H => ?_)
    refine vl_n ?_
    refine H_of_R (R_fld TF_105_3 H fun t19 H => ?_)
    refine vl_n ?_
    refine H_store1 TS_103 H fun h H => ?_
    refine vl_e ?_
    exact H
  · have H := H2 hh; clear H1 H2
    refine WPc_skip ?_
    exact H
/-! ### (*pub/tidwallbtree.Map[int, int]).DoorLeaf -/
def Map_ii_DoorLeaf.sh (a0 : Value) (h : Heap) (Q : Value → Heap → Prop) : Prop :=
    alloc [(.pointer none)] 65 h fun t2 h =>
    Map_ii_newNode.call #[a0, (.bool true)] h fun t4 h =>
    buildV [(.pointer none)] [(0, 1, t4)] fun t5 =>
    storeN 1 t2 t5 h fun h =>
    loadN 1 t2 h fun r2 =>
    Q r2 h
theorem Map_ii_DoorLeaf.body (a0 : Value) (h : Heap) (Q : Value → Heap → Prop) (H : Map_ii_DoorLeaf.sh a0 h Q) : Map_ii_DoorLeaf.call #[a0] h Q := by
  refine callsH_of (args := [a0]) Try.func57 rfl rfl ?_
  unfold Map_ii_DoorLeaf.sh at H
  refine WPc_seq' ?_
  refine W_region (by kernel_rfl) ?_
  refine vl_n ?_
  refine H_alloc TV_65 H fun t2 h H => ?_
  refine vl_e ?_
  refine WPc_seq' ?_
  refine W_region (by kernel_rfl) ?_
  refine vl_n ?_
  refine H_of_R (R_move (v := a0) rfl ?_)
  refine vl_n ?_
  refine H_call HB_66 H fun t4 h H => ?_
  refine vl_n ?_
  refine H_of_R (R_build TB_65 rfl (by decide) H fun t5 H => ?_)
  refine vl_n ?_
  refine H_storeN TS_65 H fun h H => ?_
  refine vl_e ?_
  refine WPc_ret ?_
  refine resH_of rfl ?_
  refine resL_N TN_65 ?_
  refine loadN_imp H fun r2 H => ?_
  exact H
/-! ### (*pub/tidwallbtree.Map[int, int]).DoorInner -/
def Map_ii_DoorInner.sh (a0 : Value) (h : Heap) (Q : Value → Heap → Prop) : Prop :=
    alloc [(.pointer none)] 65 h fun t2 h =>
    Map_ii_newNode.call #[a0, (.bool false)] h fun t4 h =>
    buildV [(.pointer none)] [(0, 1, t4)] fun t5 =>
    storeN 1 t2 t5 h fun h =>
    loadN 1 t2 h fun r2 =>
    Q r2 h
theorem Map_ii_DoorInner.body (a0 : Value) (h : Heap) (Q : Value → Heap → Prop) (H : Map_ii_DoorInner.sh a0 h Q) : Map_ii_DoorInner.call #[a0] h Q := by
  refine callsH_of (args := [a0]) Try.func58 rfl rfl ?_
  unfold Map_ii_DoorInner.sh at H
  refine WPc_seq' ?_
  refine W_region (by kernel_rfl) ?_
  refine vl_n ?_
  refine H_alloc TV_65 H fun t2 h H => ?_
  refine vl_e ?_
  refine WPc_seq' ?_
  refine W_region (by kernel_rfl) ?_
  refine vl_n ?_
  refine H_of_R (R_move (v := a0) rfl ?_)
  refine vl_n ?_
  refine H_call HB_66 H fun t4 h H => ?_
  refine vl_n ?_
  refine H_of_R (R_build TB_65 rfl (by decide) H fun t5 H => ?_)
  refine vl_n ?_
  refine H_storeN TS_65 H fun h H => ?_
  refine vl_e ?_
  refine WPc_ret ?_
  refine resH_of rfl ?_
  refine resL_N TN_65 ?_
  refine loadN_imp H fun r2 H => ?_
  exact H
/-! ### (pub/tidwallbtree.DoorMapNode[int, int]).DoorItem -/
def DoorMapNode_ii_DoorItem.sh (a0 : Value) (a1 : Value) (a2 : Value) (h : Heap) (Q : Value → Heap → Prop) : Prop :=
    box 65 a0 h fun t3 h =>
    fld 0 t3 fun t6 =>
    load1 t6 h fun t7 =>
    fld 0 t3 fun t8 =>
    load1 t8 h fun t9 =>
    nilck t9 fun t10 =>
    fld 2 t10 fun t11 =>
    load1 t11 h fun t12 =>
    buildV [(.int .i64 0), (.int .i64 0)] [(1, 1, a1), (0, 1, a2)] fun t15 =>
    mkSl (if 1 * 2 = 0 then [] else zeros [(.int .i64 0), (.int .i64 0)] 1) 1 [(0 * 2, 2, t15)] 90 h fun t16 h =>
    still1 t6 t7 h ∧ still1 t8 t9 h ∧ still1 t11 t12 h ∧ app 90 2 16 [(.int .i64 0), (.int .i64 0)] t12 t16 h fun t17 h =>
    still1 t6 t7 h ∧ nilck t7 fun t18 =>
    fld 2 t18 fun t19 =>
    store1 t19 t17 h fun h =>
    Q (.tuple #[]) h
theorem DoorMapNode_ii_DoorItem.body (a0 : Value) (a1 : Value) (a2 : Value) (h : Heap) (Q : Value → Heap → Prop) (H : DoorMapNode_ii_DoorItem.sh a0 a1 a2 h Q) : DoorMapNode_ii_DoorItem.call #[a0, a1, a2] h Q := by
  refine callsH_of (args := [a0, a1, a2]) Try.func59 rfl rfl ?_
  unfold DoorMapNode_ii_DoorItem.sh at H
  refine WPc_seq' ?_
  refine W_region (by kernel_rfl) ?_
  refine vl_n ?_
  refine H_box H fun t3 h H => ?_
  refine vl_e ?_
  refine W_drawn [0, 1, 0, 4, 12, 28, 60, 0, 0, 384, 896, 2044, 4095, 8191, 16383] (.take 0 (.take 1 (.take 2 (.take 3 (.take 4 (.take 5 (.take 6 (.take 7 (.take 8 (.take 9 (.alt 10 (.alt 11 (.take 12 (.take 13 (.alt 14 .done .none))) .none) .none))))))))))) mixed (by kernel_rfl) ?_
  refine tkP rfl ?_
  refine R_fld TF_65_0 H fun t6 H => ⟨fun _ => trivial, ?_⟩
  refine tkL rfl ?_
  refine R_load1 T1_63 H fun at7 t7 hat7 _ H => ?_
  refine tkP rfl ?_
  refine R_fld TF_65_0 H fun t8 H => ⟨fun _ => trivial, ?_⟩
  refine tkL rfl ?_
  refine R_load1 T1_63 H fun at9 t9 hat9 _ H => ?_
  refine tkP rfl ?_
  refine R_nil H fun t10 H => ⟨fun _ => trivial, ?_⟩
  refine tkP rfl ?_
  refine R_fld TF_105_2 H fun t11 H => ⟨fun _ => trivial, ?_⟩
  refine tkL rfl ?_
  refine R_load1 T1_102 H fun at12 t12 hat12 _ H => ?_
  refine tkP rfl ?_
  refine R_move (v := a1) rfl ⟨fun _ => trivial, ?_⟩
  refine tkP rfl ?_
  refine R_move (v := a2) rfl ⟨fun _ => trivial, ?_⟩
  refine tkP rfl ?_
  refine R_build TB_90 rfl (by decide) H fun t15 H => ⟨fun _ => trivial, ?_⟩
  refine alt_n rfl ?_ vp_none
  refine H_mkSl TZ_102 (by decide) rfl H rfl fun t16 h ⟨S, S_2, S_3, H⟩ => ⟨(hcons rfl (still_1 S_3 hat12) (hcons rfl (still_1 S_2 hat9) (hcons rfl (still_1 S hat7) hnil))), ?_⟩
  refine alt_n rfl ?_ vp_none
  refine H_app TZ_102 TU_102 H fun t17 h ⟨S_4, H⟩ => ⟨(hskip rfl (hskip rfl (hcons rfl (still_1 S_4 hat7) hnil))), ?_⟩
  refine tkP rfl ?_
  refine R_nil H fun t18 H => ⟨fun _ => trivial, ?_⟩
  refine tkP rfl ?_
  refine R_fld TF_105_2 H fun t19 H => ⟨fun _ => trivial, ?_⟩
  refine alt_n rfl ?_ vp_none
  refine H_store1 TS_102 H fun h H => ⟨(hskip rfl hnil), ?_⟩
  refine vp_done ?_
  refine resH_of rfl ?_
  exact H
/-! ### (pub/tidwallbtree.DoorMapNode[int, int]).DoorAppend -/
def DoorMapNode_ii_DoorAppend.sh (a0 : Value) (a1 : Value) (h : Heap) (Q : Value → Heap → Prop) : Prop :=
    box 65 a0 h fun t2 h =>
    box 65 a1 h fun t3 h =>
    fld 0 t2 fun t4 =>
    load1 t4 h fun t5 =>
    nilck t5 fun t6 =>
    fld 3 t6 fun t7 =>
    load1 t7 h fun t8 =>
    fld 0 t2 fun t9 =>
    load1 t9 h fun t10 =>
    nilck t10 fun t11 =>
    fld 3 t11 fun t12 =>
    load1 t12 h fun t13 =>
    nilck t13 fun t14 =>
    load1 t14 h fun t15 =>
    fld 0 t3 fun t16 =>
    load1 t16 h fun t17 =>
    mkSl (if 1 * 1 = 0 then [] else zeros [(.pointer none)] 1) 1 [(0 * 1, 1, t17)] 63 h fun t18 h =>
    still1 t4 t5 h ∧ still1 t7 t8 h ∧ still1 t9 t10 h ∧ still1 t12 t13 h ∧ still1 t14 t15 h ∧ app 63 1 8 [(.pointer none)] t15 t18 h fun t19 h =>
    still1 t4 t5 h ∧ still1 t7 t8 h ∧ nilck t8 fun t20 =>
    store1 t20 t19 h fun h =>
    Q (.tuple #[]) h
theorem DoorMapNode_ii_DoorAppend.body (a0 : Value) (a1 : Value) (h : Heap) (Q : Value → Heap → Prop) (H : DoorMapNode_ii_DoorAppend.sh a0 a1 h Q) : DoorMapNode_ii_DoorAppend.call #[a0, a1] h Q := by
  refine callsH_of (args := [a0, a1]) Try.func60 rfl rfl ?_
  unfold DoorMapNode_ii_DoorAppend.sh at H
  refine WPc_seq' ?_
  refine W_region (by kernel_rfl) ?_
  refine vl_n ?_
  refine H_box H fun t2 h H => ?_
  refine vl_n ?_
  refine H_box H fun t3 h H => ?_
  refine vl_e ?_
  refine W_drawn [0, 1, 3, 7, 15, 0, 32, 96, 224, 480, 992, 2016, 0, 4096, 12288, 32736, 65535, 131071] (.take 0 (.take 1 (.take 2 (.take 3 (.take 4 (.take 5 (.take 6 (.take 7 (.take 8 (.take 9 (.take 10 (.take 11 (.take 12 (.take 13 (.alt 14 (.alt 15 (.take 16 (.alt 17 .done .none)) .none) .none))))))))))))))) mixed (by kernel_rfl) ?_
  refine tkP rfl ?_
  refine R_fld TF_65_0 H fun t4 H => ⟨fun _ => trivial, ?_⟩
  refine tkL rfl ?_
  refine R_load1 T1_63 H fun at5 t5 hat5 _ H => ?_
  refine tkP rfl ?_
  refine R_nil H fun t6 H => ⟨fun _ => trivial, ?_⟩
  refine tkP rfl ?_
  refine R_fld TF_105_3 H fun t7 H => ⟨fun _ => trivial, ?_⟩
  refine tkL rfl ?_
  refine R_load1 T1_103 H fun at8 t8 hat8 _ H => ?_
  refine tkP rfl ?_
  refine R_fld TF_65_0 H fun t9 H => ⟨fun _ => trivial, ?_⟩
  refine tkL rfl ?_
  refine R_load1 T1_63 H fun at10 t10 hat10 _ H => ?_
  refine tkP rfl ?_
  refine R_nil H fun t11 H => ⟨fun _ => trivial, ?_⟩
  refine tkP rfl ?_
  refine R_fld TF_105_3 H fun t12 H => ⟨fun _ => trivial, ?_⟩
  refine tkL rfl ?_
  refine R_load1 T1_103 H fun at13 t13 hat13 _ H => ?_
  refine tkP rfl ?_
  refine R_nil H fun t14 H => ⟨fun _ => trivial, ?_⟩
  refine tkL rfl ?_
  refine R_load1 T1_111 H fun at15 t15 hat15 _ H => ?_
  refine tkP rfl ?_
  refine R_fld TF_65_0 H fun t16 H => ⟨fun _ => trivial, ?_⟩
  refine tkL rfl ?_
  refine R_load1 T1_63 H fun at17 t17 hat17 _ H => ?_
  refine alt_n rfl ?_ vp_none
  refine H_mkSl TZ_111 (by decide) rfl H rfl fun t18 h ⟨S, S_2, S_3, S_4, S_5, H⟩ => ⟨(hskip rfl (hcons rfl (still_1 S_5 hat15) (hcons rfl (still_1 S_4 hat13) (hcons rfl (still_1 S_3 hat10) (hcons rfl (still_1 S_2 hat8) (hcons rfl (still_1 S hat5) hnil)))))), ?_⟩
  refine alt_n rfl ?_ vp_none
  refine H_app TZ_111 TU_111 H fun t19 h ⟨S_6, S_7, H⟩ => ⟨(hskip rfl (hskip rfl (hskip rfl (hcons rfl (still_1 S_7 hat8) (hcons rfl (still_1 S_6 hat5) hnil))))), ?_⟩
  refine tkP rfl ?_
  refine R_nil H fun t20 H => ⟨fun _ => trivial, ?_⟩
  refine alt_n rfl ?_ vp_none
  refine H_store1 TS_111 H fun h H => ⟨(hskip rfl (hskip rfl hnil)), ?_⟩
  refine vp_done ?_
  refine resH_of rfl ?_
  exact H
/-! ### (*pub/tidwallbtree.mapNode[int, int]).leaf -/
def mapNode_ii_leaf.sh (a0 : Value) (h : Heap) (Q : Value → Heap → Prop) : Prop :=
    nilck a0 fun t4 =>
    fld 3 t4 fun t5 =>
    load1 t5 h fun t6 =>
    eqNilP t6 fun t7 =>
    Q t7 h
theorem mapNode_ii_leaf.body (a0 : Value) (h : Heap) (Q : Value → Heap → Prop) (H : mapNode_ii_leaf.sh a0 h Q) : mapNode_ii_leaf.call #[a0] h Q := by
  refine callsH_of (args := [a0]) Try.func78 rfl rfl ?_
  unfold mapNode_ii_leaf.sh at H
  refine WPc_seq' ?_
  refine W_region (by kernel_rfl) ?_
  refine vl_n ?_
  refine H_of_R (R_assign (v := (.bool false)) rfl ?_)
  refine vl_e ?_
  refine WPc_seq' ?_
  refine W_region (by kernel_rfl) ?_
  refine vl_n ?_
  refine H_of_R (R_move (v := a0) rfl ?_)
  refine vl_n ?_
  refine H_of_R (R_nil H fun t4 H => ?_)
  refine vl_n ?_
  refine H_of_R (R_fld TF_105_3 H fun t5 H => ?_)
  refine vl_n ?_
  refine H_of_R (R_load1 T1_103 H fun _ t6 _ _ H => ?_)
  refine vl_n ?_
  refine H_of_R (R_eqNilP Try.underlying103 rfl H fun t7 H => ?_)
  refine vl_n ?_
  refine H_of_R (R_assign (v := t7) rfl ?_)
  refine vl_e ?_
  refine WPc_ret ?_
  refine resH_of rfl ?_
  exact H
/-! ### (*pub/tidwallbtree.mapNode[int, int]).updateCount -/
def mapNode_ii_updateCount.j3 (s0 : Value) (s2 : Value) (h : Heap) (K1 : List Value → Heap → Prop) (Q : Value → Heap → Prop) : Prop :=
    arith (· + ·) s2 (.int .i64 1) fun t24 =>
    K1 [t24] h
def mapNode_ii_updateCount.j2 (s0 : Value) (s2 : Value) (h : Heap) (K1 : List Value → Heap → Prop) (Q : Value → Heap → Prop) : Prop :=
    nilck s0 fun t26 =>
    fld 1 t26 fun t27 =>
    load1 t27 h fun t28 =>
    nilck s0 fun t30 =>
    fld 3 t30 fun t31 =>
    load1 t31 h fun t32 =>
    nilck t32 fun t33 =>
    load1 t33 h fun t34 =>
    idx 1 t34 s2 fun t36 =>
    load1 t36 h fun t37 =>
    nilck t37 fun t38 =>
    fld 1 t38 fun t39 =>
    load1 t39 h fun t40 =>
    arith (· + ·) t28 t40 fun t41 =>
    nilck s0 fun t42 =>
    fld 1 t42 fun t43 =>
    store1 t43 t41 h fun h =>
    mapNode_ii_updateCount.j3 s0 s2 h K1 Q
def mapNode_ii_updateCount.l1.b (c0 : Value) (s2 : Value) (h : Heap) (K1 : List Value → Heap → Prop) (Q : Value → Heap → Prop) : Prop :=
    nilck c0 fun t16 =>
    fld 3 t16 fun t17 =>
    load1 t17 h fun t18 =>
    nilck t18 fun t19 =>
    load1 t19 h fun t20 =>
    lenV t20 fun t21 =>
    cmpI (fun a b => decide (a < b)) s2 t21 fun t22 =>
    ifV t22
    (mapNode_ii_updateCount.j2 c0 s2 h K1 Q)
    (Q (.tuple #[]) h)
def mapNode_ii_updateCount.sh (a0 : Value) (h : Heap) (Q : Value → Heap → Prop) : Prop :=
    nilck a0 fun t5 =>
    fld 2 t5 fun t6 =>
    load1 t6 h fun t7 =>
    lenV t7 fun t8 =>
    nilck a0 fun t9 =>
    fld 1 t9 fun t10 =>
    store1 t10 t8 h fun h =>
    mapNode_ii_leaf.call #[a0] h fun t12 h =>
    notV t12 fun t13 =>
    ifV t13
    (loopC (fun c s h K1 => mapNode_ii_updateCount.l1.b (c.getD 0 undef) (s.getD 0 undef) h K1 Q) [a0] [(.int .i64 0)] h)
    (Q (.tuple #[]) h)
theorem mapNode_ii_updateCount.body (a0 : Value) (h : Heap) (Q : Value → Heap → Prop) (H : mapNode_ii_updateCount.sh a0 h Q) : mapNode_ii_updateCount.call #[a0] h Q := by
  refine callsH_of (args := [a0]) Try.func69 rfl rfl ?_
  unfold mapNode_ii_updateCount.sh at H
  refine WPc_seq' ?_
  refine W_region (by kernel_rfl) ?_
  refine vl_n ?_
  refine H_of_R (R_move (v := a0) rfl ?_)
  refine vl_n ?_
  refine H_of_R (R_move (v := a0) rfl ?_)
  refine vl_n ?_
  refine H_of_R (R_nil H fun t5 H => ?_)
  refine vl_n ?_
  refine H_of_R (R_fld TF_105_2 H fun t6 H => ?_)
  refine vl_n ?_
  refine H_of_R (R_load1 T1_102 H fun _ t7 _ _ H => ?_)
  refine vl_n ?_
  refine H_of_R (R_len Try.underlying102 H fun t8 H => ?_)
  refine vl_n ?_
  refine H_of_R (R_nil H fun t9 H => ?_)
  refine vl_n ?_
  refine H_of_R (R_fld TF_105_1 H fun t10 H => ?_)
  refine vl_n ?_
  refine H_store1 TS_3 H fun h H => ?_
  refine vl_e ?_
  refine WPc_seq' ?_
  refine W_region (by kernel_rfl) ?_
  refine vl_n ?_
  refine H_of_R (R_move (v := a0) rfl ?_)
  refine vl_n ?_
  refine H_call HB_78 H fun t12 h H => ?_
  refine vl_n ?_
  refine H_of_R (R_not H fun t13 H => ?_)
  refine vl_e ?_
  obtain ⟨b, hc, H1, H2⟩ := H
  refine WPc_cond hc (fun hh => ?_) (fun hh => ?_)
  · have H := H1 hh; clear H1 H2
    refine WPc_seq' ?_
    refine W_region (by kernel_rfl) ?_
    refine vl_n ?_
    refine H_of_R (R_assign (v := (.int .i64 0)) rfl ?_)
    refine vl_e ?_
    refine WPc_block ?_
    refine loop_at (fun e => [e 2]) (fun e => [e 0]) H rfl rfl ?_
    intro K1 e1 h H hin1
    replace H : mapNode_ii_updateCount.l1.b (e1 0) (e1 2) h K1 Q := H
    unfold mapNode_ii_updateCount.l1.b at H
    clear hin1
    refine WPc_seq (fun e h => mapNode_ii_updateCount.j2 (e 0) (e 2) h K1 Q ∧ [e1 0] = [e 0]) ?_ (fun e h ⟨H, hq1⟩ => ?_)
    rotate_left
    · unfold mapNode_ii_updateCount.j2 at H
      refine WPc_seq (fun e h => mapNode_ii_updateCount.j3 (e 0) (e 2) h K1 Q ∧ [e1 0] = [e 0]) ?_ (fun e h ⟨H, hq1⟩ => ?_)
      rotate_left
      · unfold mapNode_ii_updateCount.j3 at H
        refine W_region (by kernel_rfl) ?_
        refine vl_n ?_
        refine H_of_R (R_move (v := (e 2)) rfl ?_)
        refine vl_n ?_
        refine H_of_R (R_add H fun t24 H => ?_)
        refine vl_n ?_
        refine H_of_R (R_assign (v := t24) rfl ?_)
        refine vl_e ?_
        exact ⟨H, hq1⟩
      refine WPc_block ?_
      refine W_drawn [0, 1, 3, 7, 0, 16, 48, 112, 240, 496, 0, 2032, 4080, 8176, 16368, 32752, 65535, 131071, 262143, 524287] (.take 0 (.take 1 (.take 2 (.take 3 (.take 4 (.take 5 (.take 6 (.take 7 (.take 8 (.take 9 (.take 10 (.take 11 (.take 12 (.take 13 (.take 14 (.take 15 (.take 16 (.take 17 (.take 18 (.alt 19 .done .none)))))))))))))))))))) mixed (by kernel_rfl) ?_
      refine tkP rfl ?_
      refine R_move (v := (e 0)) rfl ⟨fun _ => trivial, ?_⟩
      refine tkP rfl ?_
      refine R_nil H fun t26 H => ⟨fun _ => trivial, ?_⟩
      refine tkP rfl ?_
      refine R_fld TF_105_1 H fun t27 H => ⟨fun _ => trivial, ?_⟩
      refine tkL rfl ?_
      refine R_load1 T1_3 H fun at28 t28 hat28 _ H => ?_
      refine tkP rfl ?_
      refine R_move (v := (e 0)) rfl ⟨fun _ => trivial, ?_⟩
      refine tkP rfl ?_
      refine R_nil H fun t30 H => ⟨fun _ => trivial, ?_⟩
      refine tkP rfl ?_
      refine R_fld TF_105_3 H fun t31 H => ⟨fun _ => trivial, ?_⟩
      refine tkL rfl ?_
      refine R_load1 T1_103 H fun at32 t32 hat32 _ H => ?_
      refine tkP rfl ?_
      refine R_nil H fun t33 H => ⟨fun _ => trivial, ?_⟩
      refine tkL rfl ?_
      refine R_load1 T1_111 H fun at34 t34 hat34 _ H => ?_
      refine tkP rfl ?_
      refine R_move (v := (e 2)) rfl ⟨fun _ => trivial, ?_⟩
      refine tkP rfl ?_
      refine R_idx TE_111 H fun t36 H => ⟨fun _ => trivial, ?_⟩
      refine tkL rfl ?_
      refine R_load1 T1_63 H fun at37 t37 hat37 _ H => ?_
      refine tkP rfl ?_
      refine R_nil H fun t38 H => ⟨fun _ => trivial, ?_⟩
      refine tkP rfl ?_
      refine R_fld TF_105_1 H fun t39 H => ⟨fun _ => trivial, ?_⟩
      refine tkL rfl ?_
      refine R_load1 T1_3 H fun at40 t40 hat40 _ H => ?_
      refine tkP rfl ?_
      refine R_add H fun t41 H => ⟨fun _ => trivial, ?_⟩
      refine tkP rfl ?_
      refine R_nil H fun t42 H => ⟨fun _ => trivial, ?_⟩
      refine tkP rfl ?_
      refine R_fld TF_105_1 H fun t43 H => ⟨fun _ => trivial, ?_⟩
      refine alt_n rfl ?_ vp_none
      refine H_store1 TS_3 H fun h H => ⟨(hskip rfl (hskip rfl (hskip rfl (hskip rfl (hskip rfl hnil))))), ?_⟩
      refine vp_done ?_
      exact ⟨H, hq1⟩
    refine WPc_seq' ?_
    refine W_region (by kernel_rfl) ?_
    refine vl_n ?_
    refine H_of_R (R_move (v := (e1 2)) rfl ?_)
    refine vl_n ?_
    refine H_of_R (R_move (v := (e1 0)) rfl ?_)
    refine vl_n ?_
    refine H_of_R (R_nil H fun t16 H => ?_)
    refine vl_n ?_
    refine H_of_R (R_fld TF_105_3 H fun t17 H => ?_)
    refine vl_n ?_
    refine H_of_R (R_load1 T1_103 H fun _ t18 _ _ H => ?_)
    refine vl_n ?_
    refine H_of_R (R_nil H fun t19 H => ?_)
    refine vl_n ?_
    refine H_of_R (R_load1 T1_111 H fun _ t20 _ _ H => ?_)
    refine vl_n ?_
    refine H_of_R (R_len Try.underlying111 H fun t21 H => ?_)
    refine vl_n ?_
    refine H_of_R (R_lss H fun t22 H => ?_)
    refine vl_e ?_
    obtain ⟨b, hc, H1, H2⟩ := H
    refine WPc_cond hc (fun hh => ?_) (fun hh => ?_)
    · have H := H1 hh; clear H1 H2
      refine WPc_skip ?_
      exact ⟨H, rfl⟩
    · have H := H2 hh; clear H1 H2
      refine WPc_exit ?_
      refine resH_of rfl ?_
      exact H
  · have H := H2 hh; clear H1 H2
    refine WPc_skip ?_
    refine resH_of rfl ?_
    exact H
/-! ### (pub/tidwallbtree.DoorMapNode[int, int]).DoorUpdateCount -/
def DoorMapNode_ii_DoorUpdateCount.sh (a0 : Value) (h : Heap) (Q : Value → Heap → Prop) : Prop :=
    box 65 a0 h fun t1 h =>
    fld 0 t1 fun t2 =>
    load1 t2 h fun t3 =>
    mapNode_ii_updateCount.call #[t3] h fun t4 h =>
    Q (.tuple #[]) h
theorem DoorMapNode_ii_DoorUpdateCount.body (a0 : Value) (h : Heap) (Q : Value → Heap → Prop) (H : DoorMapNode_ii_DoorUpdateCount.sh a0 h Q) : DoorMapNode_ii_DoorUpdateCount.call #[a0] h Q := by
  refine callsH_of (args := [a0]) Try.func61 rfl rfl ?_
  unfold DoorMapNode_ii_DoorUpdateCount.sh at H
  refine WPc_seq' ?_
  refine W_region (by kernel_rfl) ?_
  refine vl_n ?_
  refine H_box H fun t1 h H => ?_
  refine vl_e ?_
  refine W_region (by kernel_rfl) ?_
  refine vl_n ?_
  refine H_of_R (R_fld TF_65_0 H fun t2 H => ?_)
  refine vl_n ?_
  refine H_of_R (R_load1 T1_63 H fun _ t3 _ _ H => ?_)
  refine vl_n ?_
  refine H_call HB_69 H fun t4 h H => ?_
  refine vl_e ?_
  refine resH_of rfl ?_
  exact H
/-! ### impl.plantedMap -/
def i_plantedMap.j3 (s4 : Value) (s5 : Value) (h : Heap) (Q : Value → Heap → Prop) : Prop :=
    loadN 1 s5 h fun t45 =>
    DoorMapNode_ii_DoorUpdateCount.call #[t45] h fun t46 h =>
    loadN 1 s5 h fun t47 =>
    storeN 1 s4 t47 h fun h =>
    loadN 1 s4 h fun r4 =>
    Q r4 h
def i_plantedMap.j6 (s0 : Value) (s4 : Value) (s5 : Value) (s33 : Value) (s34 : Value) (s35 : Value) (h : Heap) (K1 : List Value → Heap → Prop) (Q : Value → Heap → Prop) : Prop :=
    arith (· + ·) s35 (.int .i64 1) fun t44 =>
    K1 [t44] h
def i_plantedMap.j5 (s0 : Value) (s4 : Value) (s5 : Value) (s33 : Value) (s34 : Value) (s35 : Value) (h : Heap) (K1 : List Value → Heap → Prop) (Q : Value → Heap → Prop) : Prop :=
    idx 3 s33 s35 fun t37 =>
    loadN 3 t37 h fun t38 =>
    alloc [(.slice none 0 0), (.slice none 0 0), (.int .i64 0)] 34 h fun t9 h =>
    storeN 3 t9 t38 h fun h =>
    loadN 1 s5 h fun t39 =>
    loadN 3 t9 h fun t41 =>
    i_plantedMap.call #[s0, t41] h fun t42 h =>
    stillN 1 s5 t39 h ∧ DoorMapNode_ii_DoorAppend.call #[t39, t42] h fun t43 h =>
    i_plantedMap.j6 s0 s4 s5 s33 s34 s35 h K1 Q
def i_plantedMap.l4.b (c0 : Value) (c4 : Value) (c5 : Value) (c33 : Value) (c34 : Value) (s35 : Value) (h : Heap) (K1 : List Value → Heap → Prop) (Q : Value → Heap → Prop) : Prop :=
    cmpI (fun a b => decide (a < b)) s35 c34 fun t36 =>
    ifV t36
    (i_plantedMap.j5 c0 c4 c5 c33 c34 s35 h K1 Q)
    (i_plantedMap.j3 c4 c5 h Q)
def i_plantedMap.j2 (s0 : Value) (s3 : Value) (s4 : Value) (s5 : Value) (h : Heap) (Q : Value → Heap → Prop) : Prop :=
    fld 1 s3 fun t32 =>
    load1 t32 h fun t33 =>
    lenV t33 fun t34 =>
    loopC (fun c s h K1 => i_plantedMap.l4.b (c.getD 0 undef) (c.getD 1 undef) (c.getD 2 undef) (c.getD 3 undef) (c.getD 4 undef) (s.getD 0 undef) h K1 Q) [s0, s4, s5, t33, t34] [(.int .i64 0)] h
def i_plantedMap.j9 (s0 : Value) (s3 : Value) (s4 : Value) (s5 : Value) (s19 : Value) (s20 : Value) (s21 : Value) (h : Heap) (K1 : List Value → Heap → Prop) (Q : Value → Heap → Prop) : Prop :=
    arith (· + ·) s21 (.int .i64 1) fun t31 =>
    K1 [t31] h
def i_plantedMap.j8 (s0 : Value) (s3 : Value) (s4 : Value) (s5 : Value) (s19 : Value) (s20 : Value) (s21 : Value) (h : Heap) (K1 : List Value → Heap → Prop) (Q : Value → Heap → Prop) : Prop :=
    idx 2 s19 s21 fun t23 =>
    loadN 2 t23 h fun t24 =>
    alloc [(.int .i64 0), (.int .i64 0)] 30 h fun t7 h =>
    storeN 2 t7 t24 h fun h =>
    loadN 1 s5 h fun t25 =>
    fld 0 t7 fun t26 =>
    load1 t26 h fun t27 =>
    fld 1 t7 fun t28 =>
    load1 t28 h fun t29 =>
    DoorMapNode_ii_DoorItem.call #[t25, t27, t29] h fun t30 h =>
    i_plantedMap.j9 s0 s3 s4 s5 s19 s20 s21 h K1 Q
def i_plantedMap.l7.b (c0 : Value) (c3 : Value) (c4 : Value) (c5 : Value) (c19 : Value) (c20 : Value) (s21 : Value) (h : Heap) (K1 : List Value → Heap → Prop) (Q : Value → Heap → Prop) : Prop :=
    cmpI (fun a b => decide (a < b)) s21 c20 fun t22 =>
    ifV t22
    (i_plantedMap.j8 c0 c3 c4 c5 c19 c20 s21 h K1 Q)
    (i_plantedMap.j2 c0 c3 c4 c5 h Q)
def i_plantedMap.j1 (s0 : Value) (s3 : Value) (s4 : Value) (s5 : Value) (h : Heap) (Q : Value → Heap → Prop) : Prop :=
    fld 0 s3 fun t18 =>
    load1 t18 h fun t19 =>
    lenV t19 fun t20 =>
    loopC (fun c s h K1 => i_plantedMap.l7.b (c.getD 0 undef) (c.getD 1 undef) (c.getD 2 undef) (c.getD 3 undef) (c.getD 4 undef) (c.getD 5 undef) (s.getD 0 undef) h K1 Q) [s0, s3, s4, s5, t19, t20] [(.int .i64 0)] h
def i_plantedMap.sh (a0 : Value) (a1 : Value) (h : Heap) (Q : Value → Heap → Prop) : Prop :=
    box 34 a1 h fun t3 h =>
    alloc [(.pointer none)] 65 h fun t4 h =>
    Map_ii_DoorLeaf.call #[a0] h fun t11 h =>
    alloc [(.pointer none)] 65 h fun t5 h =>
    storeN 1 t5 t11 h fun h =>
    fld 1 t3 fun t12 =>
    load1 t12 h fun t13 =>
    lenV t13 fun t14 =>
    cmpI (fun a b => decide (a > b)) t14 (.int .i64 0) fun t15 =>
    ifV t15
    (Map_ii_DoorInner.call #[a0] h fun t17 h =>
    storeN 1 t5 t17 h fun h =>
    i_plantedMap.j1 a0 t3 t4 t5 h Q)
    (i_plantedMap.j1 a0 t3 t4 t5 h Q)
theorem i_plantedMap.body (a0 : Value) (a1 : Value) (h : Heap) (Q : Value → Heap → Prop) (H : i_plantedMap.sh a0 a1 h Q) : i_plantedMap.call #[a0, a1] h Q := by
  refine callsH_of (args := [a0, a1]) Try.func33 rfl rfl ?_
  unfold i_plantedMap.sh at H
  refine WPc_seq' ?_
  refine W_region (by kernel_rfl) ?_
  refine vl_n ?_
  refine H_box H fun t3 h H => ?_
  refine vl_n ?_
  refine H_alloc TV_65 H fun t4 h H => ?_
  refine vl_e ?_
  refine WPc_seq' ?_
  refine W_region (by kernel_rfl) ?_
  refine vl_n ?_
  refine H_of_R (R_move (v := a0) rfl ?_)
  refine vl_n ?_
  refine H_call HB_57 H fun t11 h H => ?_
  refine vl_n ?_
  refine H_alloc TV_65 H fun t5 h H => ?_
  refine vl_n ?_
  refine H_storeN TS_65 H fun h H => ?_
  refine vl_e ?_
  refine WPc_seq (fun e h => i_plantedMap.j1 (e 0) (e 3) (e 4) (e 5) h Q) ?_ (fun e h H => ?_)
  rotate_left
  · unfold i_plantedMap.j1 at H
    refine WPc_seq (fun e h => i_plantedMap.j2 (e 0) (e 3) (e 4) (e 5) h Q) ?_ (fun e h H => ?_)
    rotate_left
    · unfold i_plantedMap.j2 at H
      refine WPc_seq (fun e h => i_plantedMap.j3 (e 4) (e 5) h Q) ?_ (fun e h H => ?_)
      rotate_left
      · unfold i_plantedMap.j3 at H
        refine WPc_seq' ?_
        refine W_region (by kernel_rfl) ?_
        refine vl_n ?_
        refine H_of_R (R_loadN TN_65 H fun _ t45 _ _ H _ _ => ?_)
        refine vl_n ?_
        refine H_call HB_61 H fun t46 h H => ?_
        refine vl_e ?_
        refine WPc_seq' ?_
        refine W_region (by kernel_rfl) ?_
        refine vl_n ?_
        refine H_of_R (R_loadN TN_65 H fun _ t47 _ _ H _ _ => ?_)
        refine vl_n ?_
        refine H_storeN TS_65 H fun h H => ?_
        refine vl_e ?_
        refine WPc_ret ?_
        refine resH_of rfl ?_
        refine resL_N TN_65 ?_
        refine loadN_imp H fun r4 H => ?_
        exact H
      refine WPc_seq' ?_
      refine W_region (by kernel_rfl) ?_
      refine vl_n ?_
      refine H_of_R (R_fld TF_34_1 H fun t32 H => ?_)
      refine vl_n ?_
      refine H_of_R (R_load1 T1_32 H fun _ t33 _ _ H => ?_)
      refine vl_n ?_
      refine H_of_R (R_len Try.underlying32 H fun t34 H => ?_)
      refine vl_n ?_
      refine H_of_R (R_move (v := (.int .i64 0)) rfl ?_)
      refine vl_e ?_
      refine WPc_block ?_
      refine loop_at (fun e => [e 35]) (fun e => [e 0, e 4, e 5, e 33, e 34]) H rfl rfl ?_
      intro K1 e1 h H hin1
      replace H : i_plantedMap.l4.b (e1 0) (e1 4) (e1 5) (e1 33) (e1 34) (e1 35) h K1 Q := H
      unfold i_plantedMap.l4.b at H
      clear hin1
      refine WPc_seq' ?_
      refine W_region (by kernel_rfl) ?_
      refine vl_n ?_
      refine H_of_R (R_lss H fun t36 H => ?_)
      refine vl_e ?_
      refine WPc_seq (fun e h => i_plantedMap.j5 (e 0) (e 4) (e 5) (e 33) (e 34) (e 35) h K1 Q ∧ [e1 0, e1 4, e1 5, e1 33, e1 34] = [e 0, e 4, e 5, e 33, e 34]) ?_ (fun e h ⟨H, hq1⟩ => ?_)
      rotate_left
      · unfold i_plantedMap.j5 at H
        refine WPc_seq (fun e h => i_plantedMap.j6 (e 0) (e 4) (e 5) (e 33) (e 34) (e 35) h K1 Q ∧ [e1 0, e1 4, e1 5, e1 33, e1 34] = [e 0, e 4, e 5, e 33, e 34]) ?_ (fun e h ⟨H, hq1⟩ => ?_)
        rotate_left
        · unfold i_plantedMap.j6 at H
          refine W_region (by kernel_rfl) ?_
          refine vl_n ?_
          refine H_of_R (R_add H fun t44 H => ?_)
          refine vl_n ?_
          refine H_of_R (R_move (v := t44) rfl ?_)
          refine vl_e ?_
          exact ⟨H, hq1⟩
        refine WPc_block ?_
        refine WPc_seq' ?_
        refine W_region (by kernel_rfl) ?_
        refine vl_n ?_
        refine H_of_R (R_idx TE_32 H fun t37 H => ?_)
        refine vl_n ?_
        refine H_of_R (R_loadN TN_34 H fun _ t38 _ _ H _ _ => ?_)
        refine vl_n ?_
        refine H_alloc TV_34 H fun t9 h H => ?_
        refine vl_n ?_
        refine H_storeN TS_34 H fun h H => ?_
        refine vl_e ?_
        refine W_drawn [0, 0, 0, 6, 15] (.take 0 (.take 1 (.take 2 (.alt 3 (.alt 4 .done .none) .none)))) mixed (by kernel_rfl) ?_
        refine tkL rfl ?_
        refine R_loadN TN_65 H fun at39 xt39 hat39 _ H St39 hSt39 => ?_
        refine tkP rfl ?_
        refine R_move (v := (e 0)) rfl ⟨fun _ => trivial, ?_⟩
        refine tkL rfl ?_
        refine R_loadN TN_34 H fun at41 xt41 hat41 _ H St41 hSt41 => ?_
        refine alt_n rfl ?_ vp_none
        refine H_call HB_33 H fun t42 h ⟨S, H⟩ => ⟨(hskip rfl (hcons rfl (hSt39 _ (still_N S hat39 rfl)) hnil)), ?_⟩
        refine alt_n rfl ?_ vp_none
        refine H_call HB_60 H fun t43 h H => ⟨(hskip rfl hnil), ?_⟩
        refine vp_done ?_
        exact ⟨H, hq1⟩
      obtain ⟨b, hc, H1, H2⟩ := H
      refine WPc_cond hc (fun hh => ?_) (fun hh => ?_)
      · have H := H1 hh; clear H1 H2
        refine WPc_skip ?_
        exact ⟨H, rfl⟩
      · have H := H2 hh; clear H1 H2
        refine WPc_exit ?_
        exact H
    refine WPc_seq' ?_
    refine W_region (by kernel_rfl) ?_
    refine vl_n ?_
    refine H_of_R (R_fld TF_34_0 H fun t18 H => ?_)
    refine vl_n ?_
    refine H_of_R (R_load1 T1_22 H fun _ t19 _ _ H => ?_)
    refine vl_n ?_
    refine H_of_R (R_len Try.underlying22 H fun t20 H => ?_)
    refine vl_n ?_
    refine H_of_R (R_move (v := (.int .i64 0)) rfl ?_)
    refine vl_e ?_
    refine WPc_block ?_
    refine loop_at (fun e => [e 21]) (fun e => [e 0, e 3, e 4, e 5, e 19, e 20]) H rfl rfl ?_
    intro K1 e1 h H hin1
    replace H : i_plantedMap.l7.b (e1 0) (e1 3) (e1 4) (e1 5) (e1 19) (e1 20) (e1 21) h K1 Q := H
    unfold i_plantedMap.l7.b at H
    clear hin1
    refine WPc_seq' ?_
    refine W_region (by kernel_rfl) ?_
    refine vl_n ?_
    refine H_of_R (R_lss H fun t22 H => ?_)
    refine vl_e ?_
    refine WPc_seq (fun e h => i_plantedMap.j8 (e 0) (e 3) (e 4) (e 5) (e 19) (e 20) (e 21) h K1 Q ∧ [e1 0, e1 3, e1 4, e1 5, e1 19, e1 20] = [e 0, e 3, e 4, e 5, e 19, e 20]) ?_ (fun e h ⟨H, hq1⟩ => ?_)
    rotate_left
    · unfold i_plantedMap.j8 at H
      refine WPc_seq (fun e h => i_plantedMap.j9 (e 0) (e 3) (e 4) (e 5) (e 19) (e 20) (e 21) h K1 Q ∧ [e1 0, e1 3, e1 4, e1 5, e1 19, e1 20] = [e 0, e 3, e 4, e 5, e 19, e 20]) ?_ (fun e h ⟨H, hq1⟩ => ?_)
      rotate_left
      · unfold i_plantedMap.j9 at H
        refine W_region (by kernel_rfl) ?_
        refine vl_n ?_
        refine H_of_R (R_add H fun t31 H => ?_)
        refine vl_n ?_
        refine H_of_R (R_move (v := t31) rfl ?_)
        refine vl_e ?_
        exact ⟨H, hq1⟩
      refine WPc_block ?_
      refine WPc_seq' ?_
      refine W_region (by kernel_rfl) ?_
      refine vl_n ?_
      refine H_of_R (R_idx TE_22 H fun t23 H => ?_)
      refine vl_n ?_
      refine H_of_R (R_loadN TN_30 H fun _ t24 _ _ H _ _ => ?_)
      refine vl_n ?_
      refine H_alloc TV_30 H fun t7 h H => ?_
      refine vl_n ?_
      refine H_storeN TS_30 H fun h H => ?_
      refine vl_e ?_
      refine W_region (by kernel_rfl) ?_
      refine vl_n ?_
      refine H_of_R (R_loadN TN_65 H fun _ t25 _ _ H _ _ => ?_)
      refine vl_n ?_
      refine H_of_R (R_fld TF_30_0 H fun t26 H => ?_)
      refine vl_n ?_
      refine H_of_R (R_load1 T1_3 H fun _ t27 _ _ H => ?_)
      refine vl_n ?_
      refine H_of_R (R_fld TF_30_1 H fun t28 H => ?_)
      refine vl_n ?_
      refine H_of_R (R_load1 T1_3 H fun _ t29 _ _ H => ?_)
      refine vl_n ?_
      refine H_call HB_59 H fun t30 h H => ?_
      refine vl_e ?_
      exact ⟨H, hq1⟩
    obtain ⟨b, hc, H1, H2⟩ := H
    refine WPc_cond hc (fun hh => ?_) (fun hh => ?_)
    · have H := H1 hh; clear H1 H2
      refine WPc_skip ?_
      exact ⟨H, rfl⟩
    · have H := H2 hh; clear H1 H2
      refine WPc_exit ?_
      exact H
  refine WPc_seq' ?_
  refine W_region (by kernel_rfl) ?_
  refine vl_n ?_
  refine H_of_R (R_fld TF_34_1 H fun t12 H => ?_)
  refine vl_n ?_
  refine H_of_R (R_load1 T1_32 H fun _ t13 _ _ H => ?_)
  refine vl_n ?_
  refine H_of_R (R_len Try.underlying32 H fun t14 H => ?_)
  refine vl_n ?_
  refine H_of_R (R_gtr H fun t15 H => ?_)
  refine vl_e ?_
  obtain ⟨b, hc, H1, H2⟩ := H
  refine WPc_cond hc (fun hh => ?_) (fun hh => ?_)
  · have H := H1 hh; clear H1 H2
    refine W_region (by kernel_rfl) ?_
    refine vl_n ?_
    refine H_of_R (R_move (v := a0) rfl ?_)
    refine vl_n ?_
    refine H_call HB_58 H fun t17 h H => ?_
    refine vl_n ?_
    refine H_storeN TS_65 H fun h H => ?_
    refine vl_e ?_
    exact H
  · have H := H2 hh; clear H1 H2
    refine WPc_skip ?_
    exact H
/-! ### (*pub/tidwallbtree.Map[int, int]).DoorPlant -/
def Map_ii_DoorPlant.sh (a0 : Value) (a1 : Value) (h : Heap) (Q : Value → Heap → Prop) : Prop :=
    box 65 a1 h fun t3 h =>
    fld 0 t3 fun t6 =>
    load1 t6 h fun t7 =>
    fld 0 t3 fun t8 =>
    load1 t8 h fun t9 =>
    nilck t9 fun t10 =>
    fld 1 t10 fun t11 =>
    load1 t11 h fun t12 =>
    nilck a0 fun t13 =>
    fld 2 t13 fun t14 =>
    store1 t14 t7 h fun h =>
    nilck a0 fun t15 =>
    fld 3 t15 fun t16 =>
    store1 t16 t12 h fun h =>
    Q (.tuple #[]) h
theorem Map_ii_DoorPlant.body (a0 : Value) (a1 : Value) (h : Heap) (Q : Value → Heap → Prop) (H : Map_ii_DoorPlant.sh a0 a1 h Q) : Map_ii_DoorPlant.call #[a0, a1] h Q := by
  refine callsH_of (args := [a0, a1]) Try.func64 rfl rfl ?_
  unfold Map_ii_DoorPlant.sh at H
  refine WPc_seq' ?_
  refine W_region (by kernel_rfl) ?_
  refine vl_n ?_
  refine H_box H fun t3 h H => ?_
  refine vl_e ?_
  refine W_drawn [0, 0, 0, 4, 0, 16, 48, 112, 240, 509, 1021, 2045, 4095, 8191, 16383] (.take 0 (.take 1 (.take 2 (.take 3 (.take 4 (.take 5 (.take 6 (.take 7 (.take 8 (.take 9 (.take 10 (.alt 11 (.take 12 (.take 13 (.alt 14 .done .none))) .none)))))))))))) mixed (by kernel_rfl) ?_
  refine tkP rfl ?_
  refine R_move (v := a0) rfl ⟨fun _ => trivial, ?_⟩
  refine tkP rfl ?_
  refine R_move (v := a0) rfl ⟨fun _ => trivial, ?_⟩
  refine tkP rfl ?_
  refine R_fld TF_65_0 H fun t6 H => ⟨fun _ => trivial, ?_⟩
  refine tkL rfl ?_
  refine R_load1 T1_63 H fun at7 t7 hat7 _ H => ?_
  refine tkP rfl ?_
  refine R_fld TF_65_0 H fun t8 H => ⟨fun _ => trivial, ?_⟩
  refine tkL rfl ?_
  refine R_load1 T1_63 H fun at9 t9 hat9 _ H => ?_
  refine tkP rfl ?_
  refine R_nil H fun t10 H => ⟨fun _ => trivial, ?_⟩
  refine tkP rfl ?_
  refine R_fld TF_105_1 H fun t11 H => ⟨fun _ => trivial, ?_⟩
  refine tkL rfl ?_
  refine R_load1 T1_3 H fun at12 t12 hat12 _ H => ?_
  refine tkP rfl ?_
  refine R_nil H fun t13 H => ⟨fun _ => trivial, ?_⟩
  refine tkP rfl ?_
  refine R_fld TF_92_2 H fun t14 H => ⟨fun _ => trivial, ?_⟩
  refine alt_n rfl ?_ vp_none
  refine H_store1 TS_63 H fun h H => ⟨(hskip rfl (hskip rfl (hskip rfl hnil))), ?_⟩
  refine tkP rfl ?_
  refine R_nil H fun t15 H => ⟨fun _ => trivial, ?_⟩
  refine tkP rfl ?_
  refine R_fld TF_92_3 H fun t16 H => ⟨fun _ => trivial, ?_⟩
  refine alt_n rfl ?_ vp_none
  refine H_store1 TS_3 H fun h H => ⟨hnil, ?_⟩
  refine vp_done ?_
  refine resH_of rfl ?_
  exact H
/-! ### impl.standMap -/
def i_standMap.j1 (s5 : Value) (h : Heap) (Q : Value → Heap → Prop) : Prop :=
    Q s5 h
def i_standMap.sh (a0 : Value) (a1 : Value) (h : Heap) (Q : Value → Heap → Prop) : Prop :=
    box 34 a1 h fun t3 h =>
    NewMap_ii.call #[a0] h fun t7 h =>
    fld 0 t3 fun t8 =>
    load1 t8 h fun t9 =>
    lenV t9 fun t10 =>
    cmpI (fun a b => decide (a > b)) t10 (.int .i64 0) fun t11 =>
    br t11 false (fld 1 t3 fun t13 =>
    load1 t13 h fun t14 =>
    lenV t14 fun t15 =>
    cmpI (fun a b => decide (a > b)) t15 (.int .i64 0) fun t16 =>
    ifV t16
    (loadN 3 t3 h fun t20 =>
    i_plantedMap.call #[t7, t20] h fun t21 h =>
    Map_ii_DoorPlant.call #[t7, t21] h fun t22 h =>
    i_standMap.j1 t7 h Q)
    (i_standMap.j1 t7 h Q)) (loadN 3 t3 h fun t20_2 =>
    i_plantedMap.call #[t7, t20_2] h fun t21_2 h =>
    Map_ii_DoorPlant.call #[t7, t21_2] h fun t22_2 h =>
    i_standMap.j1 t7 h Q)
theorem i_standMap.body (a0 : Value) (a1 : Value) (h : Heap) (Q : Value → Heap → Prop) (H : i_standMap.sh a0 a1 h Q) : i_standMap.call #[a0, a1] h Q := by
  refine callsH_of (args := [a0, a1]) Try.func36 rfl rfl ?_
  unfold i_standMap.sh at H
  refine WPc_seq' ?_
  refine W_region (by kernel_rfl) ?_
  refine vl_n ?_
  refine H_box H fun t3 h H => ?_
  refine vl_n ?_
  refine H_of_R (R_assign (v := (.pointer none)) rfl ?_)
  refine vl_e ?_
  refine WPc_seq' ?_
  refine W_region (by kernel_rfl) ?_
  refine vl_n ?_
  refine H_of_R (R_move (v := a0) rfl ?_)
  refine vl_n ?_
  refine H_call HB_31 H fun t7 h H => ?_
  refine vl_n ?_
  refine H_of_R (R_assign (v := t7) rfl ?_)
  refine vl_e ?_
  refine WPc_seq (fun e h => i_standMap.j1 (e 5) h Q) ?_ (fun e h H => ?_)
  rotate_left
  · unfold i_standMap.j1 at H
    refine WPc_seq' ?_
    refine W_region (by kernel_rfl) ?_
    refine vl_n ?_
    refine H_of_R (R_move (v := (e 5)) rfl ?_)
    refine vl_n ?_
    refine H_of_R (R_assign (v := (e 5)) rfl ?_)
    refine vl_e ?_
    refine WPc_ret ?_
    refine resH_of rfl ?_
    exact H
  refine WPc_seq' ?_
  refine W_region (by kernel_rfl) ?_
  refine vl_n ?_
  refine H_of_R (R_fld TF_34_0 H fun t8 H => ?_)
  refine vl_n ?_
  refine H_of_R (R_load1 T1_22 H fun _ t9 _ _ H => ?_)
  refine vl_n ?_
  refine H_of_R (R_len Try.underlying22 H fun t10 H => ?_)
  refine vl_n ?_
  refine H_of_R (R_gtr H fun t11 H => ?_)
  refine vl_n ?_
  refine H_of_R (R_move (v := t11) rfl ?_)
  obtain ⟨b, hb, H1, H2⟩ := H
  cases b
  · have H := H1 rfl; clear H1 H2
    refine vl_y rfl hb ?_
    refine H_of_R (R_fld TF_34_1 H fun t13 H => ?_)
    refine vl_y rfl hb ?_
    refine H_of_R (R_load1 T1_32 H fun _ t14 _ _ H => ?_)
    refine vl_y rfl hb ?_
    refine H_of_R (R_len Try.underlying32 H fun t15 H => ?_)
    refine vl_y rfl hb ?_
    refine H_of_R (R_gtr H fun t16 H => ?_)
    refine vl_n ?_
    refine H_of_R (R_pickC (v := t16) false hb rfl ?_)
    refine vl_e ?_
    obtain ⟨b_2, hc, H1, H2⟩ := H
    refine WPc_cond hc (fun hh => ?_) (fun hh => ?_)
    · have H := H1 hh; clear H1 H2
      refine W_region (by kernel_rfl) ?_
      refine vl_n ?_
      refine H_of_R (R_move (v := t7) rfl ?_)
      refine vl_n ?_
      refine H_of_R (R_move (v := t7) rfl ?_)
      refine vl_n ?_
      refine H_of_R (R_loadN TN_34 H fun _ t20 _ _ H _ _ => ?_)
      refine vl_n ?_
      refine H_call HB_33 H fun t21 h H => ?_
      refine vl_n ?_
      refine H_call HB_64 H fun t22 h H => ?_
      refine vl_e ?_
      exact H
    · have H := H2 hh; clear H1 H2
      refine WPc_skip ?_
      exact H
  · have H := H2 rfl; clear H1 H2
    refine vl_s rfl (nbF hb) ?_
    refine vl_s rfl (nbF hb) ?_
    refine vl_s rfl (nbF hb) ?_
    refine vl_s rfl (nbF hb) ?_
    refine vl_n ?_
    refine H_of_R (R_pickC (v := (.bool true)) true hb rfl ?_)
    refine vl_e ?_
    refine WPc_cond (t := true) rfl (fun _ => ?_) (fun hh => by cases hh)
    refine W_region (by kernel_rfl) ?_
    refine vl_n ?_
    refine H_of_R (R_move (v := t7) rfl ?_)
    refine vl_n ?_
    refine H_of_R (R_move (v := t7) rfl ?_)
    refine vl_n ?_
    refine H_of_R (R_loadN TN_34 H fun _ t20_2 _ _ H _ _ => ?_)
    refine vl_n ?_
    refine H_call HB_33 H fun t21_2 h H => ?_
    refine vl_n ?_
    refine H_call HB_64 H fun t22_2 h H => ?_
    refine vl_e ?_
    exact H
/-! ### (*pub/tidwallbtree.Map[int, int]).Len -/
def Map_ii_Len.sh (a0 : Value) (h : Heap) (Q : Value → Heap → Prop) : Prop :=
    nilck a0 fun t4 =>
    fld 3 t4 fun t5 =>
    load1 t5 h fun t6 =>
    Q t6 h
theorem Map_ii_Len.body (a0 : Value) (h : Heap) (Q : Value → Heap → Prop) (H : Map_ii_Len.sh a0 h Q) : Map_ii_Len.call #[a0] h Q := by
  refine callsH_of (args := [a0]) Try.func53 rfl rfl ?_
  unfold Map_ii_Len.sh at H
  refine WPc_seq' ?_
  refine W_region (by kernel_rfl) ?_
  refine vl_n ?_
  refine H_of_R (R_assign (v := (.int .i64 0)) rfl ?_)
  refine vl_e ?_
  refine WPc_seq' ?_
  refine W_region (by kernel_rfl) ?_
  refine vl_n ?_
  refine H_of_R (R_move (v := a0) rfl ?_)
  refine vl_n ?_
  refine H_of_R (R_nil H fun t4 H => ?_)
  refine vl_n ?_
  refine H_of_R (R_fld TF_92_3 H fun t5 H => ?_)
  refine vl_n ?_
  refine H_of_R (R_load1 T1_3 H fun _ t6 _ _ H => ?_)
  refine vl_n ?_
  refine H_of_R (R_assign (v := t6) rfl ?_)
  refine vl_e ?_
  refine WPc_ret ?_
  refine resH_of rfl ?_
  exact H
/-! ### (*pub/tidwallbtree.Map[int, int]).copy -/
def Map_ii_copy.j2 (s5 : Value) (h : Heap) (Q : Value → Heap → Prop) : Prop :=
    Q s5 h
def Map_ii_copy.j1 (s0 : Value) (s1 : Value) (s5 : Value) (h : Heap) (Q : Value → Heap → Prop) : Prop :=
    mapNode_ii_leaf.call #[s1] h fun t109 h =>
    notV t109 fun t110 =>
    ifV t110
    (alloc [(.slice none 0 0)] 111 h fun t112 h =>
    nilck s5 fun t113 =>
    fld 3 t113 fun t114 =>
    store1 t114 t112 h fun h =>
    nilck s5 fun t116 =>
    fld 3 t116 fun t117 =>
    load1 t117 h fun t118 =>
    nilck s1 fun t120 =>
    fld 3 t120 fun t121 =>
    load1 t121 h fun t122 =>
    nilck t122 fun t123 =>
    load1 t123 h fun t124 =>
    lenV t124 fun t125 =>
    nilck s0 fun t127 =>
    fld 7 t127 fun t128 =>
    load1 t128 h fun t129 =>
    arith (· + ·) t129 (.int .i64 1) fun t130 =>
    mks 63 1 8 [(.pointer none)] t125 t130 h fun t131 h =>
    still1 t117 t118 h ∧ nilck t118 fun t132 =>
    store1 t132 t131 h fun h =>
    nilck s5 fun t134 =>
    fld 3 t134 fun t135 =>
    load1 t135 h fun t136 =>
    nilck t136 fun t137 =>
    load1 t137 h fun t138 =>
    nilck s1 fun t140 =>
    fld 3 t140 fun t141 =>
    load1 t141 h fun t142 =>
    nilck t142 fun t143 =>
    load1 t143 h fun t144 =>
    cpy 1 t138 t144 h fun t145 h =>
    Map_ii_copy.j2 s5 h Q)
    (Map_ii_copy.j2 s5 h Q)
def Map_ii_copy.j5 (s0 : Value) (s1 : Value) (s5 : Value) (s6 : Value) (h : Heap) (K1 : List Value → Heap → Prop) (Q : Value → Heap → Prop) : Prop :=
    arith (· + ·) s6 (.int .i64 1) fun t58 =>
    K1 [t58] h
def Map_ii_copy.j4 (s0 : Value) (s1 : Value) (s5 : Value) (s6 : Value) (h : Heap) (K1 : List Value → Heap → Prop) (Q : Value → Heap → Prop) : Prop :=
    nilck s5 fun t60 =>
    fld 2 t60 fun t61 =>
    load1 t61 h fun t62 =>
    nilck s5 fun t65 =>
    fld 2 t65 fun t66 =>
    load1 t66 h fun t67 =>
    idx 2 t67 s6 fun t69 =>
    fld 0 t69 fun t70 =>
    load1 t70 h fun t71 =>
    False
def Map_ii_copy.l3.b (c0 : Value) (c1 : Value) (c5 : Value) (s6 : Value) (h : Heap) (K1 : List Value → Heap → Prop) (Q : Value → Heap → Prop) : Prop :=
    nilck c5 fun t52 =>
    fld 2 t52 fun t53 =>
    load1 t53 h fun t54 =>
    lenV t54 fun t55 =>
    cmpI (fun a b => decide (a < b)) s6 t55 fun t56 =>
    ifV t56
    (Map_ii_copy.j4 c0 c1 c5 s6 h K1 Q)
    (Map_ii_copy.j1 c0 c1 c5 h Q)
def Map_ii_copy.j8 (s0 : Value) (s1 : Value) (s5 : Value) (s7 : Value) (h : Heap) (K1 : List Value → Heap → Prop) (Q : Value → Heap → Prop) : Prop :=
    arith (· + ·) s7 (.int .i64 1) fun t89 =>
    K1 [t89] h
def Map_ii_copy.j7 (s0 : Value) (s1 : Value) (s5 : Value) (s7 : Value) (h : Heap) (K1 : List Value → Heap → Prop) (Q : Value → Heap → Prop) : Prop :=
    nilck s5 fun t91 =>
    fld 2 t91 fun t92 =>
    load1 t92 h fun t93 =>
    nilck s5 fun t96 =>
    fld 2 t96 fun t97 =>
    load1 t97 h fun t98 =>
    idx 2 t98 s7 fun t100 =>
    fld 0 t100 fun t101 =>
    load1 t101 h fun t102 =>
    False
def Map_ii_copy.l6.b (c0 : Value) (c1 : Value) (c5 : Value) (s7 : Value) (h : Heap) (K1 : List Value → Heap → Prop) (Q : Value → Heap → Prop) : Prop :=
    nilck c5 fun t83 =>
    fld 2 t83 fun t84 =>
    load1 t84 h fun t85 =>
    lenV t85 fun t86 =>
    cmpI (fun a b => decide (a < b)) s7 t86 fun t87 =>
    ifV t87
    (Map_ii_copy.j7 c0 c1 c5 s7 h K1 Q)
    (Map_ii_copy.j1 c0 c1 c5 h Q)
def Map_ii_copy.sh (a0 : Value) (a1 : Value) (h : Heap) (Q : Value → Heap → Prop) : Prop :=
    alloc [(.int .u64 0), (.int .i64 0), (.slice none 0 0), (.pointer none)] 105 h fun t8 h =>
    nilck a0 fun t11 =>
    fld 0 t11 fun t12 =>
    load1 t12 h fun t13 =>
    nilck t8 fun t14 =>
    fld 0 t14 fun t15 =>
    store1 t15 t13 h fun h =>
    nilck a1 fun t18 =>
    fld 1 t18 fun t19 =>
    load1 t19 h fun t20 =>
    nilck t8 fun t21 =>
    fld 1 t21 fun t22 =>
    store1 t22 t20 h fun h =>
    nilck a1 fun t25 =>
    fld 2 t25 fun t26 =>
    load1 t26 h fun t27 =>
    lenV t27 fun t28 =>
    nilck a1 fun t30 =>
    fld 2 t30 fun t31 =>
    load1 t31 h fun t32 =>
    capV t32 fun t33 =>
    mks 90 2 16 [(.int .i64 0), (.int .i64 0)] t28 t33 h fun t34 h =>
    nilck t8 fun t35 =>
    fld 2 t35 fun t36 =>
    store1 t36 t34 h fun h =>
    nilck t8 fun t38 =>
    fld 2 t38 fun t39 =>
    load1 t39 h fun t40 =>
    nilck a1 fun t42 =>
    fld 2 t42 fun t43 =>
    load1 t43 h fun t44 =>
    cpy 2 t40 t44 h fun t45 h =>
    nilck a0 fun t47 =>
    fld 8 t47 fun t48 =>
    load1 t48 h fun t49 =>
    ifV t49
    (loopC (fun c s h K1 => Map_ii_copy.l3.b (c.getD 0 undef) (c.getD 1 undef) (c.getD 2 undef) (s.getD 0 undef) h K1 Q) [a0, a1, t8] [(.int .i64 0)] h)
    (nilck a0 fun t78 =>
    fld 9 t78 fun t79 =>
    load1 t79 h fun t80 =>
    ifV t80
    (loopC (fun c s h K1 => Map_ii_copy.l6.b (c.getD 0 undef) (c.getD 1 undef) (c.getD 2 undef) (s.getD 0 undef) h K1 Q) [a0, a1, t8] [(.int .i64 0)] h)
    (Map_ii_copy.j1 a0 a1 t8 h Q))
theorem Map_ii_copy.body (a0 : Value) (a1 : Value) (h : Heap) (Q : Value → Heap → Prop) (H : Map_ii_copy.sh a0 a1 h Q) : Map_ii_copy.call #[a0, a1] h Q := by
  refine callsH_of (args := [a0, a1]) Try.func90 rfl rfl ?_
  unfold Map_ii_copy.sh at H
  refine WPc_seq' ?_
  refine W_region (by kernel_rfl) ?_
  refine vl_n ?_
  refine H_of_R (R_assign (v := (.pointer none)) rfl ?_)
  refine vl_e ?_
  refine WPc_seq' ?_
  refine W_region (by kernel_rfl) ?_
  refine vl_n ?_
  refine H_alloc TV_105 H fun t8 h H => ?_
  refine vl_n ?_
  refine H_of_R (R_assign (v := t8) rfl ?_)
  refine vl_e ?_
  refine WPc_seq' ?_
  refine W_region (by kernel_rfl) ?_
  refine vl_n ?_
  refine H_of_R (R_move (v := t8) rfl ?_)
  refine vl_n ?_
  refine H_of_R (R_move (v := a0) rfl ?_)
  refine vl_n ?_
  refine H_of_R (R_nil H fun t11 H => ?_)
  refine vl_n ?_
  refine H_of_R (R_fld TF_92_0 H fun t12 H => ?_)
  refine vl_n ?_
  refine H_of_R (R_load1 T1_87 H fun _ t13 _ _ H => ?_)
  refine vl_n ?_
  refine H_of_R (R_nil H fun t14 H => ?_)
  refine vl_n ?_
  refine H_of_R (R_fld TF_105_0 H fun t15 H => ?_)
  refine vl_n ?_
  refine H_store1 TS_87 H fun h H => ?_
  refine vl_e ?_
  refine WPc_seq' ?_
  refine W_region (by kernel_rfl) ?_
  refine vl_n ?_
  refine H_of_R (R_move (v := t8) rfl ?_)
  refine vl_n ?_
  refine H_of_R (R_move (v := a1) rfl ?_)
  refine vl_n ?_
  refine H_of_R (R_nil H fun t18 H => ?_)
  refine vl_n ?_
  refine H_of_R (R_fld TF_105_1 H fun t19 H => ?_)
  refine vl_n ?_
  refine H_of_R (R_load1 T1_3 H fun _ t20 _ _ H => ?_)
  refine vl_n ?_
  refine H_of_R (R_nil H fun t21 H => ?_)
  refine vl_n ?_
  refine H_of_R (R_fld TF_105_1 H fun t22 H => ?_)
  refine vl_n ?_
  refine H_store1 TS_3 H fun h H => ?_
  refine vl_e ?_
  refine WPc_seq' ?_
  refine W_drawn [0, 0, 2, 6, 14, 30, 0, 64, 192, 448, 960, 2046, 4095, 8191, 16383] (.take 0 (.take 1 (.take 2 (.take 3 (.take 4 (.take 5 (.take 6 (.take 7 (.take 8 (.take 9 (.take 10 (.alt 11 (.take 12 (.take 13 (.alt 14 .done .none))) .none)))))))))))) mixed (by kernel_rfl) ?_
  refine tkP rfl ?_
  refine R_move (v := t8) rfl ⟨fun _ => trivial, ?_⟩
  refine tkP rfl ?_
  refine R_move (v := a1) rfl ⟨fun _ => trivial, ?_⟩
  refine tkP rfl ?_
  refine R_nil H fun t25 H => ⟨fun _ => trivial, ?_⟩
  refine tkP rfl ?_
  refine R_fld TF_105_2 H fun t26 H => ⟨fun _ => trivial, ?_⟩
  refine tkL rfl ?_
  refine R_load1 T1_102 H fun at27 t27 hat27 _ H => ?_
  refine tkP rfl ?_
  refine R_len Try.underlying102 H fun t28 H => ⟨fun _ => trivial, ?_⟩
  refine tkP rfl ?_
  refine R_move (v := a1) rfl ⟨fun _ => trivial, ?_⟩
  refine tkP rfl ?_
  refine R_nil H fun t30 H => ⟨fun _ => trivial, ?_⟩
  refine tkP rfl ?_
  refine R_fld TF_105_2 H fun t31 H => ⟨fun _ => trivial, ?_⟩
  refine tkL rfl ?_
  refine R_load1 T1_102 H fun at32 t32 hat32 _ H => ?_
  refine tkP rfl ?_
  refine R_cap Try.underlying102 H fun t33 H => ⟨fun _ => trivial, ?_⟩
  refine alt_n rfl ?_ vp_none
  refine H_mks TZ_102 rfl H fun t34 h H => ⟨(hskip rfl (hskip rfl hnil)), ?_⟩
  refine tkP rfl ?_
  refine R_nil H fun t35 H => ⟨fun _ => trivial, ?_⟩
  refine tkP rfl ?_
  refine R_fld TF_105_2 H fun t36 H => ⟨fun _ => trivial, ?_⟩
  refine alt_n rfl ?_ vp_none
  refine H_store1 TS_102 H fun h H => ⟨hnil, ?_⟩
  refine vp_done ?_
  refine WPc_seq' ?_
  refine W_drawn [0, 1, 3, 7, 0, 16, 48, 112, 255] (.take 0 (.take 1 (.take 2 (.take 3 (.take 4 (.take 5 (.take 6 (.take 7 (.alt 8 .done .none))))))))) mixed (by kernel_rfl) ?_
  refine tkP rfl ?_
  refine R_move (v := t8) rfl ⟨fun _ => trivial, ?_⟩
  refine tkP rfl ?_
  refine R_nil H fun t38 H => ⟨fun _ => trivial, ?_⟩
  refine tkP rfl ?_
  refine R_fld TF_105_2 H fun t39 H => ⟨fun _ => trivial, ?_⟩
  refine tkL rfl ?_
  refine R_load1 T1_102 H fun at40 t40 hat40 _ H => ?_
  refine tkP rfl ?_
  refine R_move (v := a1) rfl ⟨fun _ => trivial, ?_⟩
  refine tkP rfl ?_
  refine R_nil H fun t42 H => ⟨fun _ => trivial, ?_⟩
  refine tkP rfl ?_
  refine R_fld TF_105_2 H fun t43 H => ⟨fun _ => trivial, ?_⟩
  refine tkL rfl ?_
  refine R_load1 T1_102 H fun at44 t44 hat44 _ H => ?_
  refine alt_n rfl ?_ vp_none
  refine H_cpy TE_102 H fun t45 h H => ⟨(hskip rfl (hskip rfl hnil)), ?_⟩
  refine vp_done ?_
  refine WPc_seq (fun e h => Map_ii_copy.j1 (e 0) (e 1) (e 5) h Q) ?_ (fun e h H => ?_)
  rotate_left
  · unfold Map_ii_copy.j1 at H
    refine WPc_seq (fun e h => Map_ii_copy.j2 (e 5) h Q) ?_ (fun e h H => ?_)
    rotate_left
    · unfold Map_ii_copy.j2 at H
      refine WPc_seq' ?_
      refine W_region (by kernel_rfl) ?_
      refine vl_n ?_
      refine H_of_R (R_move (v := (e 5)) rfl ?_)
      refine vl_n ?_
      refine H_of_R (R_assign (v := (e 5)) rfl ?_)
      refine vl_e ?_
      refine WPc_ret ?_
      refine resH_of rfl ?_
      exact H
    refine WPc_seq' ?_
    refine W_region (by kernel_rfl) ?_
    refine vl_n ?_
    refine H_of_R (R_move (v := (e 1)) rfl ?_)
    refine vl_n ?_
    refine H_call HB_78 H fun t109 h H => ?_
    refine vl_n ?_
    refine H_of_R (R_not H fun t110 H => ?_)
    refine vl_e ?_
    obtain ⟨b, hc, H1, H2⟩ := H
    refine WPc_cond hc (fun hh => ?_) (fun hh => ?_)
    · have H := H1 hh; clear H1 H2
      refine WPc_seq' ?_
      refine W_region (by kernel_rfl) ?_
      refine vl_n ?_
      refine H_of_R (R_move (v := (e 5)) rfl ?_)
      refine vl_n ?_
      refine H_alloc TV_111 H fun t112 h H => ?_
      refine vl_n ?_
      refine H_of_R (R_nil H fun t113 H => ?_)
      refine vl_n ?_
      refine H_of_R (R_fld TF_105_3 H fun t114 H => ?_)
      refine vl_n ?_
      refine H_store1 TS_103 H fun h H => ?_
      refine vl_e ?_
      refine WPc_seq' ?_
      refine W_drawn [0, 1, 3, 7, 0, 16, 48, 112, 240, 496, 1008, 0, 2048, 6144, 14336, 30720, 65520, 131071, 262143] (.take 0 (.take 1 (.take 2 (.take 3 (.take 4 (.take 5 (.take 6 (.take 7 (.take 8 (.take 9 (.take 10 (.take 11 (.take 12 (.take 13 (.take 14 (.take 15 (.alt 16 (.take 17 (.alt 18 .done .none)) .none))))))))))))))))) mixed (by kernel_rfl) ?_
      refine tkP rfl ?_
      refine R_move (v := (e 5)) rfl ⟨fun _ => trivial, ?_⟩
      refine tkP rfl ?_
      refine R_nil H fun t116 H => ⟨fun _ => trivial, ?_⟩
      refine tkP rfl ?_
      refine R_fld TF_105_3 H fun t117 H => ⟨fun _ => trivial, ?_⟩
      refine tkL rfl ?_
      refine R_load1 T1_103 H fun at118 t118 hat118 _ H => ?_
      refine tkP rfl ?_
      refine R_move (v := (e 1)) rfl ⟨fun _ => trivial, ?_⟩
      refine tkP rfl ?_
      refine R_nil H fun t120 H => ⟨fun _ => trivial, ?_⟩
      refine tkP rfl ?_
      refine R_fld TF_105_3 H fun t121 H => ⟨fun _ => trivial, ?_⟩
      refine tkL rfl ?_
      refine R_load1 T1_103 H fun at122 t122 hat122 _ H => ?_
      refine tkP rfl ?_
      refine R_nil H fun t123 H => ⟨fun _ => trivial, ?_⟩
      refine tkL rfl ?_
      refine R_load1 T1_111 H fun at124 t124 hat124 _ H => ?_
      refine tkP rfl ?_
      refine R_len Try.underlying111 H fun t125 H => ⟨fun _ => trivial, ?_⟩
      refine tkP rfl ?_
      refine R_move (v := (e 0)) rfl ⟨fun _ => trivial, ?_⟩
      refine tkP rfl ?_
      refine R_nil H fun t127 H => ⟨fun _ => trivial, ?_⟩
      refine tkP rfl ?_
      refine R_fld TF_92_6 H fun t128 H => ⟨fun _ => trivial, ?_⟩
      refine tkL rfl ?_
      refine R_load1 T1_3 H fun at129 t129 hat129 _ H => ?_
      refine tkP rfl ?_
      refine R_add H fun t130 H => ⟨fun _ => trivial, ?_⟩
      refine alt_n rfl ?_ vp_none
      refine H_mks TZ_111 rfl H fun t131 h ⟨S, H⟩ => ⟨(hskip rfl (hskip rfl (hskip rfl (hcons rfl (still_1 S hat118) hnil)))), ?_⟩
      refine tkP rfl ?_
      refine R_nil H fun t132 H => ⟨fun _ => trivial, ?_⟩
      refine alt_n rfl ?_ vp_none
      refine H_store1 TS_111 H fun h H => ⟨(hskip rfl hnil), ?_⟩
      refine vp_done ?_
      refine W_drawn [0, 1, 3, 7, 15, 31, 0, 64, 192, 448, 960, 1984, 4095] (.take 0 (.take 1 (.take 2 (.take 3 (.take 4 (.take 5 (.take 6 (.take 7 (.take 8 (.take 9 (.take 10 (.take 11 (.alt 12 .done .none))))))))))))) mixed (by kernel_rfl) ?_
      refine tkP rfl ?_
      refine R_move (v := (e 5)) rfl ⟨fun _ => trivial, ?_⟩
      refine tkP rfl ?_
      refine R_nil H fun t134 H => ⟨fun _ => trivial, ?_⟩
      refine tkP rfl ?_
      refine R_fld TF_105_3 H fun t135 H => ⟨fun _ => trivial, ?_⟩
      refine tkL rfl ?_
      refine R_load1 T1_103 H fun at136 t136 hat136 _ H => ?_
      refine tkP rfl ?_
      refine R_nil H fun t137 H => ⟨fun _ => trivial, ?_⟩
      refine tkL rfl ?_
      refine R_load1 T1_111 H fun at138 t138 hat138 _ H => ?_
      refine tkP rfl ?_
      refine R_move (v := (e 1)) rfl ⟨fun _ => trivial, ?_⟩
      refine tkP rfl ?_
      refine R_nil H fun t140 H => ⟨fun _ => trivial, ?_⟩
      refine tkP rfl ?_
      refine R_fld TF_105_3 H fun t141 H => ⟨fun _ => trivial, ?_⟩
      refine tkL rfl ?_
      refine R_load1 T1_103 H fun at142 t142 hat142 _ H => ?_
      refine tkP rfl ?_
      refine R_nil H fun t143 H => ⟨fun _ => trivial, ?_⟩
      refine tkL rfl ?_
      refine R_load1 T1_111 H fun at144 t144 hat144 _ H => ?_
      refine alt_n rfl ?_ vp_none
      refine H_cpy TE_111 H fun t145 h H => ⟨(hskip rfl (hskip rfl (hskip rfl (hskip rfl hnil)))), ?_⟩
      refine vp_done ?_
      exact H
    · have H := H2 hh; clear H1 H2
      refine WPc_skip ?_
      exact H
  refine WPc_seq' ?_
  refine W_region (by kernel_rfl) ?_
  refine vl_n ?_
  refine H_of_R (R_move (v := a0) rfl ?_)
  refine vl_n ?_
  refine H_of_R (R_nil H fun t47 H => ?_)
  refine vl_n ?_
  refine H_of_R (R_fld TF_92_7 H fun t48 H => ?_)
  refine vl_n ?_
  refine H_of_R (R_load1 T1_4 H fun _ t49 _ _ H => ?_)
  refine vl_e ?_
  obtain ⟨b, hc, H1, H2⟩ := H
  refine WPc_cond hc (fun hh => ?_) (fun hh => ?_)
  · have H := H1 hh; clear H1 H2
    refine WPc_seq' ?_
    refine W_region (by kernel_rfl) ?_
    refine vl_n ?_
    refine H_of_R (R_assign (v := (.int .i64 0)) rfl ?_)
    refine vl_e ?_
    refine WPc_block ?_
    refine loop_at (fun e => [e 6]) (fun e => [e 0, e 1, e 5]) H rfl rfl ?_
    intro K1 e1 h H hin1
    replace H : Map_ii_copy.l3.b (e1 0) (e1 1) (e1 5) (e1 6) h K1 Q := H
    unfold Map_ii_copy.l3.b at H
    clear hin1
    refine WPc_seq (fun e h => Map_ii_copy.j4 (e 0) (e 1) (e 5) (e 6) h K1 Q ∧ [e1 0, e1 1, e1 5] = [e 0, e 1, e 5]) ?_ (fun e h ⟨H, hq1⟩ => ?_)
    rotate_left
    · unfold Map_ii_copy.j4 at H
      refine WPc_seq (fun e h => Map_ii_copy.j5 (e 0) (e 1) (e 5) (e 6) h K1 Q ∧ [e1 0, e1 1, e1 5] = [e 0, e 1, e 5]) ?_ (fun e h ⟨H, hq1⟩ => ?_)
      rotate_left
      · unfold Map_ii_copy.j5 at H
        refine W_region (by kernel_rfl) ?_
        refine vl_n ?_
        refine H_of_R (R_move (v := (e 6)) rfl ?_)
        refine vl_n ?_
        refine H_of_R (R_add H fun t58 H => ?_)
        refine vl_n ?_
        refine H_of_R (R_assign (v := t58) rfl ?_)
        refine vl_e ?_
        exact ⟨H, hq1⟩
      refine WPc_block ?_
      refine W_drawn [0, 1, 3, 7, 0, 0, 32, 96, 224, 0, 992, 2016, 4064, 8160, 16352, 32736, 65535, 131071, 262143] (.take 0 (.take 1 (.take 2 (.take 3 (.take 4 (.take 5 (.take 6 (.take 7 (.take 8 (.take 9 (.take 10 (.take 11 (.take 12 (.take 13 (.take 14 (.alt 15 (.take 16 (.take 17 (.alt 18 .done .none))) .none)))))))))))))))) mixed (by kernel_rfl) ?_
      refine tkP rfl ?_
      refine R_move (v := (e 5)) rfl ⟨fun _ => trivial, ?_⟩
      refine tkP rfl ?_
      refine R_nil H fun t60 H => ⟨fun _ => trivial, ?_⟩
      refine tkP rfl ?_
      refine R_fld TF_105_2 H fun t61 H => ⟨fun _ => trivial, ?_⟩
      refine tkL rfl ?_
      refine R_load1 T1_102 H fun at62 t62 hat62 _ H => ?_
      refine tkP rfl ?_
      refine R_move (v := (e 6)) rfl ⟨fun _ => trivial, ?_⟩
      refine tkP rfl ?_
      refine R_move (v := (e 5)) rfl ⟨fun _ => trivial, ?_⟩
      refine tkP rfl ?_
      refine R_nil H fun t65 H => ⟨fun _ => trivial, ?_⟩
      refine tkP rfl ?_
      refine R_fld TF_105_2 H fun t66 H => ⟨fun _ => trivial, ?_⟩
      refine tkL rfl ?_
      refine R_load1 T1_102 H fun at67 t67 hat67 _ H => ?_
      refine tkP rfl ?_
      refine R_move (v := (e 6)) rfl ⟨fun _ => trivial, ?_⟩
      refine tkP rfl ?_
      refine R_idx TE_102 H fun t69 H => ⟨fun _ => trivial, ?_⟩
      refine tkP rfl ?_
      refine R_fld TF_90_0 H fun t70 H => ⟨fun _ => trivial, ?_⟩
      refine tkL rfl ?_
      refine R_load1 T1_3 H fun at71 t71 hat71 _ H => ?_
      refine tkP rfl ?_
      refine R_mkI Try.underlying3 (by intro k hk; cases hk) ⟨fun _ => trivial, ?_⟩
      exact H.elim
    refine WPc_seq' ?_
    refine W_region (by kernel_rfl) ?_
    refine vl_n ?_
    refine H_of_R (R_move (v := (e1 6)) rfl ?_)
    refine vl_n ?_
    refine H_of_R (R_move (v := (e1 5)) rfl ?_)
    refine vl_n ?_
    refine H_of_R (R_nil H fun t52 H => ?_)
    refine vl_n ?_
    refine H_of_R (R_fld TF_105_2 H fun t53 H => ?_)
    refine vl_n ?_
    refine H_of_R (R_load1 T1_102 H fun _ t54 _ _ H => ?_)
    refine vl_n ?_
    refine H_of_R (R_len Try.underlying102 H fun t55 H => ?_)
    refine vl_n ?_
    refine H_of_R (R_lss H fun t56 H => ?_)
    refine vl_e ?_
    obtain ⟨b, hc, H1, H2⟩ := H
    refine WPc_cond hc (fun hh => ?_) (fun hh => ?_)
    · have H := H1 hh; clear H1 H2
      refine WPc_skip ?_
      exact ⟨H, rfl⟩
    · have H := H2 hh; clear H1 H2
      refine WPc_exit ?_
      exact H
  · have H := H2 hh; clear H1 H2
    refine WPc_seq' ?_
    refine W_region (by kernel_rfl) ?_
    refine vl_n ?_
    refine H_of_R (R_move (v := a0) rfl ?_)
    refine vl_n ?_
    refine H_of_R (R_nil H fun t78 H => ?_)
    refine vl_n ?_
    refine H_of_R (R_fld TF_92_8 H fun t79 H => ?_)
    refine vl_n ?_
    refine H_of_R (R_load1 T1_4 H fun _ t80 _ _ H => ?_)
    refine vl_e ?_
    obtain ⟨b_2, hc_2, H1, H2⟩ := H
    refine WPc_cond hc_2 (fun hh => ?_) (fun hh => ?_)
    · have H := H1 hh; clear H1 H2
      refine WPc_seq' ?_
      refine W_region (by kernel_rfl) ?_
      refine vl_n ?_
      refine H_of_R (R_assign (v := (.int .i64 0)) rfl ?_)
      refine vl_e ?_
      refine WPc_block ?_
      refine loop_at (fun e => [e 7]) (fun e => [e 0, e 1, e 5]) H rfl rfl ?_
      intro K1 e1 h H hin1
      replace H : Map_ii_copy.l6.b (e1 0) (e1 1) (e1 5) (e1 7) h K1 Q := H
      unfold Map_ii_copy.l6.b at H
      clear hin1
      refine WPc_seq (fun e h => Map_ii_copy.j7 (e 0) (e 1) (e 5) (e 7) h K1 Q ∧ [e1 0, e1 1, e1 5] = [e 0, e 1, e 5]) ?_ (fun e h ⟨H, hq1⟩ => ?_)
      rotate_left
      · unfold Map_ii_copy.j7 at H
        refine WPc_seq (fun e h => Map_ii_copy.j8 (e 0) (e 1) (e 5) (e 7) h K1 Q ∧ [e1 0, e1 1, e1 5] = [e 0, e 1, e 5]) ?_ (fun e h ⟨H, hq1⟩ => ?_)
        rotate_left
        · unfold Map_ii_copy.j8 at H
          refine W_region (by kernel_rfl) ?_
          refine vl_n ?_
          refine H_of_R (R_move (v := (e 7)) rfl ?_)
          refine vl_n ?_
          refine H_of_R (R_add H fun t89 H => ?_)
          refine vl_n ?_
          refine H_of_R (R_assign (v := t89) rfl ?_)
          refine vl_e ?_
          exact ⟨H, hq1⟩
        refine WPc_block ?_
        refine W_drawn [0, 1, 3, 7, 0, 0, 32, 96, 224, 0, 992, 2016, 4064, 8160, 16352, 32736, 65535, 131071, 262143] (.take 0 (.take 1 (.take 2 (.take 3 (.take 4 (.take 5 (.take 6 (.take 7 (.take 8 (.take 9 (.take 10 (.take 11 (.take 12 (.take 13 (.take 14 (.alt 15 (.take 16 (.take 17 (.alt 18 .done .none))) .none)))))))))))))))) mixed (by kernel_rfl) ?_
        refine tkP rfl ?_
        refine R_move (v := (e 5)) rfl ⟨fun _ => trivial, ?_⟩
        refine tkP rfl ?_
        refine R_nil H fun t91 H => ⟨fun _ => trivial, ?_⟩
        refine tkP rfl ?_
        refine R_fld TF_105_2 H fun t92 H => ⟨fun _ => trivial, ?_⟩
        refine tkL rfl ?_
        refine R_load1 T1_102 H fun at93 t93 hat93 _ H => ?_
        refine tkP rfl ?_
        refine R_move (v := (e 7)) rfl ⟨fun _ => trivial, ?_⟩
        refine tkP rfl ?_
        refine R_move (v := (e 5)) rfl ⟨fun _ => trivial, ?_⟩
        refine tkP rfl ?_
        refine R_nil H fun t96 H => ⟨fun _ => trivial, ?_⟩
        refine tkP rfl ?_
        refine R_fld TF_105_2 H fun t97 H => ⟨fun _ => trivial, ?_⟩
        refine tkL rfl ?_
        refine R_load1 T1_102 H fun at98 t98 hat98 _ H => ?_
        refine tkP rfl ?_
        refine R_move (v := (e 7)) rfl ⟨fun _ => trivial, ?_⟩
        refine tkP rfl ?_
        refine R_idx TE_102 H fun t100 H => ⟨fun _ => trivial, ?_⟩
        refine tkP rfl ?_
        refine R_fld TF_90_0 H fun t101 H => ⟨fun _ => trivial, ?_⟩
        refine tkL rfl ?_
        refine R_load1 T1_3 H fun at102 t102 hat102 _ H => ?_
        refine tkP rfl ?_
        refine R_mkI Try.underlying3 (by intro k hk; cases hk) ⟨fun _ => trivial, ?_⟩
        exact H.elim
      refine WPc_seq' ?_
      refine W_region (by kernel_rfl) ?_
      refine vl_n ?_
      refine H_of_R (R_move (v := (e1 7)) rfl ?_)
      refine vl_n ?_
      refine H_of_R (R_move (v := (e1 5)) rfl ?_)
      refine vl_n ?_
      refine H_of_R (R_nil H fun t83 H => ?_)
      refine vl_n ?_
      refine H_of_R (R_fld TF_105_2 H fun t84 H => ?_)
      refine vl_n ?_
      refine H_of_R (R_load1 T1_102 H fun _ t85 _ _ H => ?_)
      refine vl_n ?_
      refine H_of_R (R_len Try.underlying102 H fun t86 H => ?_)
      refine vl_n ?_
      refine H_of_R (R_lss H fun t87 H => ?_)
      refine vl_e ?_
      obtain ⟨b, hc, H1, H2⟩ := H
      refine WPc_cond hc (fun hh => ?_) (fun hh => ?_)
      · have H := H1 hh; clear H1 H2
        refine WPc_skip ?_
        exact ⟨H, rfl⟩
      · have H := H2 hh; clear H1 H2
        refine WPc_exit ?_
        exact H
    · have H := H2 hh; clear H1 H2
      refine WPc_skip ?_
      exact H
/-! ### (*pub/tidwallbtree.Map[int, int]).isoLoad -/
def Map_ii_isoLoad.j1 (s1 : Value) (h : Heap) (Q : Value → Heap → Prop) : Prop :=
    nilck s1 fun t29 =>
    load1 t29 h fun t30 =>
    Q t30 h
def Map_ii_isoLoad.sh (a0 : Value) (a1 : Value) (a2 : Value) (h : Heap) (Q : Value → Heap → Prop) : Prop :=
    br a2 true (nilck a1 fun t10 =>
    load1 t10 h fun t11 =>
    nilck t11 fun t12 =>
    fld 0 t12 fun t13 =>
    load1 t13 h fun t14 =>
    nilck a0 fun t16 =>
    fld 0 t16 fun t17 =>
    load1 t17 h fun t18 =>
    cmpI (fun a b => a != b) t14 t18 fun t19 =>
    ifV t19
    (nilck a1 fun t24 =>
    load1 t24 h fun t25 =>
    Map_ii_copy.call #[a0, t25] h fun t26 h =>
    nilck a1 fun t27 =>
    store1 t27 t26 h fun h =>
    Map_ii_isoLoad.j1 a1 h Q)
    (Map_ii_isoLoad.j1 a1 h Q)) (Map_ii_isoLoad.j1 a1 h Q)
theorem Map_ii_isoLoad.body (a0 : Value) (a1 : Value) (a2 : Value) (h : Heap) (Q : Value → Heap → Prop) (H : Map_ii_isoLoad.sh a0 a1 a2 h Q) : Map_ii_isoLoad.call #[a0, a1, a2] h Q := by
  refine callsH_of (args := [a0, a1, a2]) Try.func77 rfl rfl ?_
  unfold Map_ii_isoLoad.sh at H
  refine WPc_seq' ?_
  refine W_region (by kernel_rfl) ?_
  refine vl_n ?_
  refine H_of_R (R_assign (v := (.pointer none)) rfl ?_)
  refine vl_e ?_
  refine WPc_seq (fun e h => Map_ii_isoLoad.j1 (e 1) h Q) ?_ (fun e h H => ?_)
  rotate_left
  · unfold Map_ii_isoLoad.j1 at H
    refine WPc_seq' ?_
    refine W_region (by kernel_rfl) ?_
    refine vl_n ?_
    refine H_of_R (R_move (v := (e 1)) rfl ?_)
    refine vl_n ?_
    refine H_of_R (R_nil H fun t29 H => ?_)
    refine vl_n ?_
    refine H_of_R (R_load1 T1_63 H fun _ t30 _ _ H => ?_)
    refine vl_n ?_
    refine H_of_R (R_assign (v := t30) rfl ?_)
    refine vl_e ?_
    refine WPc_ret ?_
    refine resH_of rfl ?_
    exact H
  refine WPc_seq' ?_
  refine W_drawn [0, 1, 3, 7, 15, 31, 63, 127, 3, 259, 771, 1795, 4095, 8191] (.take 0 (.take 1 (.take 2 (.take 3 (.take 4 (.take 5 (.take 6 (.take 7 (.take 8 (.take 9 (.take 10 (.take 11 (.take 12 (.take 13 .done)))))))))))))) mixed (by kernel_rfl) ?_
  refine tkP rfl ?_
  refine R_move (v := a2) rfl ⟨fun _ => trivial, ?_⟩
  refine tkP rfl ?_
  refine R_move (v := a2) rfl ⟨fun _ => trivial, ?_⟩
  obtain ⟨b, hb, H1, H2⟩ := H
  cases b
  · have H := H2 rfl; clear H1 H2
    refine tk_s rfl rfl (nbT hb) ?_
    refine tk_s rfl rfl (nbT hb) ?_
    refine tk_s rfl rfl (nbT hb) ?_
    refine tk_s rfl rfl (nbT hb) ?_
    refine tk_s rfl rfl (nbT hb) ?_
    refine tk_s rfl rfl (nbT hb) ?_
    refine tk_s rfl rfl (nbT hb) ?_
    refine tk_s rfl rfl (nbT hb) ?_
    refine tk_s rfl rfl (nbT hb) ?_
    refine tk_s rfl rfl (nbT hb) ?_
    refine tk_s rfl rfl (nbT hb) ?_
    refine tkP rfl ?_
    refine R_pickC (v := (.bool false)) false hb rfl ⟨fun _ => trivial, ?_⟩
    refine vp_done ?_
    refine WPc_cond (t := false) rfl (fun hh => by cases hh) (fun _ => ?_)
    refine WPc_skip ?_
    exact H
  · have H := H1 rfl; clear H1 H2
    refine tkPy rfl rfl hb ?_
    refine R_move (v := a1) rfl ⟨fun _ => trivial, ?_⟩
    refine tkPy rfl rfl hb ?_
    refine R_nil H fun t10 H => ⟨fun _ => trivial, ?_⟩
    refine tkLy rfl rfl hb ?_
    refine R_load1 T1_63 H fun at11 t11 hat11 _ H => ?_
    refine tkPy rfl rfl hb ?_
    refine R_nil H fun t12 H => ⟨fun _ => trivial, ?_⟩
    refine tkPy rfl rfl hb ?_
    refine R_fld TF_105_0 H fun t13 H => ⟨fun _ => trivial, ?_⟩
    refine tkLy rfl rfl hb ?_
    refine R_load1 T1_87 H fun at14 t14 hat14 _ H => ?_
    refine tkPy rfl rfl hb ?_
    refine R_move (v := a0) rfl ⟨fun _ => trivial, ?_⟩
    refine tkPy rfl rfl hb ?_
    refine R_nil H fun t16 H => ⟨fun _ => trivial, ?_⟩
    refine tkPy rfl rfl hb ?_
    refine R_fld TF_92_0 H fun t17 H => ⟨fun _ => trivial, ?_⟩
    refine tkLy rfl rfl hb ?_
    refine R_load1 T1_87 H fun at18 t18 hat18 _ H => ?_
    refine tkPy rfl rfl hb ?_
    refine R_neI H fun t19 H => ⟨fun _ => trivial, ?_⟩
    refine tkP rfl ?_
    refine R_pickC (v := t19) true hb rfl ⟨fun _ => trivial, ?_⟩
    refine vp_done ?_
    obtain ⟨b_2, hc, H1, H2⟩ := H
    refine WPc_cond hc (fun hh => ?_) (fun hh => ?_)
    · have H := H1 hh; clear H1 H2
      refine W_region (by kernel_rfl) ?_
      refine vl_n ?_
      refine H_of_R (R_move (v := a1) rfl ?_)
      refine vl_n ?_
      refine H_of_R (R_move (v := a0) rfl ?_)
      refine vl_n ?_
      refine H_of_R (R_move (v := a1) rfl ?_)
      refine vl_n ?_
      refine H_of_R (R_nil H fun t24 H => ?_)
      refine vl_n ?_
      refine H_of_R (R_load1 T1_63 H fun _ t25 _ _ H => ?_)
      refine vl_n ?_
      refine H_call HB_90 H fun t26 h H => ?_
      refine vl_n ?_
      refine H_of_R (R_nil H fun t27 H => ?_)
      refine vl_n ?_
      refine H_store1 TS_63 H fun h H => ?_
      refine vl_e ?_
      exact H
    · have H := H2 hh; clear H1 H2
      refine WPc_skip ?_
      exact H

end Go.Proofs.Ytdealonhngiaiaa
