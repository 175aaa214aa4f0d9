/-
  Shallow forms of the walked functions, and that each call comes to its form. Written by a program of this repo (gen.py). Conditions: none.
-/
import Derived.Test.YtoinihchhngcpaaST
namespace Go.Proofs.Ytoinihchhngcpaa
open Go.Hp
set_option maxRecDepth 100000
set_option maxHeartbeats 8000000
set_option linter.unusedVariables false
set_option linter.unusedSimpArgs false

/-! ### impl.WLoad -/
def i_WLoad.j1 (s7 : Value) (s8 : Value) (s9 : Value) (h : Heap) (Q : Value → Heap → Prop) : Prop :=
    i_allWords.call #[s7] h fun t46 h =>
    Q (.tuple #[s8, s9, t46]) h
def i_WLoad.j4 (s7 : Value) (s8 : Value) (s9 : Value) (s16 : Value) (s17 : Value) (s18 : Value) (h : Heap) (K1 : List Value → Heap → Prop) (Q : Value → Heap → Prop) : Prop :=
    arith (· + ·) s18 (.int .i64 1) fun t42 =>
    K1 [s8, s9, t42] h
def i_WLoad.j3 (s7 : Value) (s8 : Value) (s9 : Value) (s16 : Value) (s17 : Value) (s18 : Value) (h : Heap) (K1 : List Value → Heap → Prop) (Q : Value → Heap → Prop) : Prop :=
    idx 2 s16 s18 fun t20 =>
    loadN 2 t20 h fun t21 =>
    alloc [(.string ⟨#[]⟩), (.int .i64 0)] 26 h fun t11 h =>
    storeN 2 t11 t21 h fun h =>
    fld 0 t11 fun t24 =>
    load1 t24 h fun t25 =>
    fld 1 t11 fun t26 =>
    load1 t26 h fun t27 =>
    Map_si_Load.call #[s7, t25, t27] h fun t28 h =>
    extr 0 t28 fun t29 =>
    extr 1 t28 fun t30 =>
    fld 0 t11 fun t32 =>
    load1 t32 h fun t33 =>
    buildV [(.string ⟨#[]⟩), (.int .i64 0)] [(0, 1, t33), (1, 1, t29)] fun t35 =>
    mkSl (if 1 * 2 = 0 then [] else zeros [(.string ⟨#[]⟩), (.int .i64 0)] 1) 1 [(0 * 2, 2, t35)] 26 h fun t36 h =>
    app 26 2 24 [(.string ⟨#[]⟩), (.int .i64 0)] s8 t36 h fun t37 h =>
    mkSl (if 1 * 1 = 0 then [] else zeros [(.bool false)] 1) 1 [(0 * 1, 1, t30)] 4 h fun t40 h =>
    app 4 1 1 [(.bool false)] s9 t40 h fun t41 h =>
    i_WLoad.j4 s7 t37 t41 s16 s17 s18 h K1 Q
def i_WLoad.l2.b (c7 : Value) (c16 : Value) (c17 : Value) (s8 : Value) (s9 : Value) (s18 : Value) (h : Heap) (K1 : List Value → Heap → Prop) (Q : Value → Heap → Prop) : Prop :=
    cmpI (fun a b => decide (a < b)) s18 c17 fun t19 =>
    ifV t19
    (i_WLoad.j3 c7 s8 s9 c16 c17 s18 h K1 Q)
    (i_WLoad.j1 c7 s8 s9 h Q)
def i_WLoad.sh (a0 : Value) (a1 : Value) (h : Heap) (Q : Value → Heap → Prop) : Prop :=
    i_growWords.call #[a0, (.slice none 0 0)] h fun t15 h =>
    lenV a1 fun t17 =>
    loopC (fun c s h K1 => i_WLoad.l2.b (c.getD 0 undef) (c.getD 1 undef) (c.getD 2 undef) (s.getD 0 undef) (s.getD 1 undef) (s.getD 2 undef) h K1 Q) [t15, a1, t17] [(.slice none 0 0), (.slice none 0 0), (.int .i64 0)] h
theorem i_WLoad.body (a0 : Value) (a1 : Value) (h : Heap) (Q : Value → Heap → Prop) (H : i_WLoad.sh a0 a1 h Q) : i_WLoad.call #[a0, a1] h Q := by
  refine callsH_of (args := [a0, a1]) Try.func32 rfl rfl ?_
  unfold i_WLoad.sh at H
  refine WPc_seq' ?_
  refine W_region (by kernel_rfl) ?_
  refine vl_n ?_
  refine H_of_R (R_assign (v := (.slice none 0 0)) rfl ?_)
  refine vl_n ?_
  refine H_of_R (R_assign (v := (.slice none 0 0)) rfl ?_)
  refine vl_n ?_
  refine H_of_R (R_assign (v := (.slice none 0 0)) rfl ?_)
  refine vl_e ?_
  refine WPc_seq' ?_
  refine W_region (by kernel_rfl) ?_
  refine vl_n ?_
  refine H_of_R (R_move (v := a0) rfl ?_)
  refine vl_n ?_
  refine H_call HB_58 H fun t15 h H => ?_
  refine vl_n ?_
  refine H_of_R (R_assign (v := t15) rfl ?_)
  refine vl_e ?_
  refine WPc_seq' ?_
  refine W_region (by kernel_rfl) ?_
  refine vl_n ?_
  refine H_of_R (R_assign (v := (.slice none 0 0)) rfl ?_)
  refine vl_e ?_
  refine WPc_seq' ?_
  refine W_region (by kernel_rfl) ?_
  refine vl_n ?_
  refine H_of_R (R_assign (v := (.slice none 0 0)) rfl ?_)
  refine vl_e ?_
  refine WPc_seq (fun e h => i_WLoad.j1 (e 7) (e 8) (e 9) h Q) ?_ (fun e h H => ?_)
  rotate_left
  · unfold i_WLoad.j1 at H
    refine WPc_seq' ?_
    refine W_region (by kernel_rfl) ?_
    refine vl_n ?_
    refine H_of_R (R_move (v := (e 8)) rfl ?_)
    refine vl_n ?_
    refine H_of_R (R_move (v := (e 9)) rfl ?_)
    refine vl_n ?_
    refine H_of_R (R_move (v := (e 7)) rfl ?_)
    refine vl_n ?_
    refine H_call HB_74 H fun t46 h H => ?_
    refine vl_n ?_
    refine H_of_R (R_assign (v := (e 8)) rfl ?_)
    refine vl_n ?_
    refine H_of_R (R_assign (v := (e 9)) rfl ?_)
    refine vl_n ?_
    refine H_of_R (R_assign (v := t46) rfl ?_)
    refine vl_e ?_
    refine WPc_ret ?_
    refine resH_of rfl ?_
    exact H
  refine WPc_seq' ?_
  refine W_region (by kernel_rfl) ?_
  refine vl_n ?_
  refine H_of_R (R_move (v := a1) rfl ?_)
  refine vl_n ?_
  refine H_of_R (R_len Try.underlying27 H fun t17 H => ?_)
  refine vl_n ?_
  refine H_of_R (R_move (v := (.int .i64 0)) rfl ?_)
  refine vl_e ?_
  refine WPc_block ?_
  refine loop_at (fun e => [e 8, e 9, e 18]) (fun e => [e 7, e 16, e 17]) H rfl rfl ?_
  intro K1 e1 h H hin1
  replace H : i_WLoad.l2.b (e1 7) (e1 16) (e1 17) (e1 8) (e1 9) (e1 18) h K1 Q := H
  unfold i_WLoad.l2.b at H
  clear hin1
  refine WPc_seq' ?_
  refine W_region (by kernel_rfl) ?_
  refine vl_n ?_
  refine H_of_R (R_lss H fun t19 H => ?_)
  refine vl_e ?_
  refine WPc_seq (fun e h => i_WLoad.j3 (e 7) (e 8) (e 9) (e 16) (e 17) (e 18) h K1 Q ∧ [e1 7, e1 16, e1 17] = [e 7, e 16, e 17]) ?_ (fun e h ⟨H, hq1⟩ => ?_)
  rotate_left
  · unfold i_WLoad.j3 at H
    refine WPc_seq (fun e h => i_WLoad.j4 (e 7) (e 8) (e 9) (e 16) (e 17) (e 18) h K1 Q ∧ [e1 7, e1 16, e1 17] = [e 7, e 16, e 17]) ?_ (fun e h ⟨H, hq1⟩ => ?_)
    rotate_left
    · unfold i_WLoad.j4 at H
      refine W_region (by kernel_rfl) ?_
      refine vl_n ?_
      refine H_of_R (R_add H fun t42 H => ?_)
      refine vl_n ?_
      refine H_of_R (R_move (v := t42) rfl ?_)
      refine vl_e ?_
      exact ⟨H, hq1⟩
    refine WPc_block ?_
    refine WPc_seq' ?_
    refine W_region (by kernel_rfl) ?_
    refine vl_n ?_
    refine H_of_R (R_idx TE_27 H fun t20 H => ?_)
    refine vl_n ?_
    refine H_of_R (R_loadN TN_26 H fun _ t21 _ _ H _ _ => ?_)
    refine vl_n ?_
    refine H_alloc TV_26 H fun t11 h H => ?_
    refine vl_n ?_
    refine H_storeN TS_26 H fun h H => ?_
    refine vl_e ?_
    refine WPc_seq' ?_
    refine W_region (by kernel_rfl) ?_
    refine vl_n ?_
    refine H_of_R (R_move (v := (e 7)) rfl ?_)
    refine vl_n ?_
    refine H_of_R (R_fld TF_26_0 H fun t24 H => ?_)
    refine vl_n ?_
    refine H_of_R (R_load1 T1_9 H fun _ t25 _ _ H => ?_)
    refine vl_n ?_
    refine H_of_R (R_fld TF_26_1 H fun t26 H => ?_)
    refine vl_n ?_
    refine H_of_R (R_load1 T1_3 H fun _ t27 _ _ H => ?_)
    refine vl_n ?_
    refine H_call HB_73 H fun t28 h H => ?_
    refine vl_n ?_
    refine H_of_R (R_move (v := t28) rfl ?_)
    refine vl_n ?_
    refine H_of_R (R_ext H fun t29 H => ?_)
    refine vl_n ?_
    refine H_of_R (R_ext H fun t30 H => ?_)
    refine vl_n ?_
    refine H_of_R (R_assign (v := t29) rfl ?_)
    refine vl_n ?_
    refine H_of_R (R_assign (v := t30) rfl ?_)
    refine vl_e ?_
    refine W_region (by kernel_rfl) ?_
    refine vl_n ?_
    refine H_of_R (R_move (v := (e 8)) rfl ?_)
    refine vl_n ?_
    refine H_of_R (R_fld TF_26_0 H fun t32 H => ?_)
    refine vl_n ?_
    refine H_of_R (R_load1 T1_9 H fun _ t33 _ _ H => ?_)
    refine vl_n ?_
    refine H_of_R (R_move (v := t29) rfl ?_)
    refine vl_n ?_
    refine H_of_R (R_build TB_26 rfl (by decide) H fun t35 H => ?_)
    refine vl_n ?_
    refine H_mkSl TZ_27 (by decide) rfl H rfl fun t36 h H => ?_
    refine vl_n ?_
    refine H_app TZ_27 TU_27 H fun t37 h H => ?_
    refine vl_n ?_
    refine H_of_R (R_move (v := (e 9)) rfl ?_)
    refine vl_n ?_
    refine H_of_R (R_move (v := t30) rfl ?_)
    refine vl_n ?_
    refine H_mkSl TZ_30 (by decide) rfl H rfl fun t40 h H => ?_
    refine vl_n ?_
    refine H_app TZ_30 TU_30 H fun t41 h H => ?_
    refine vl_n ?_
    refine H_of_R (R_assign (v := t37) rfl ?_)
    refine vl_n ?_
    refine H_of_R (R_assign (v := t41) rfl ?_)
    refine vl_e ?_
    exact ⟨H, hq1⟩
  obtain ⟨b, hc, H1, H2⟩ := H
  refine WPc_cond hc (fun hh => ?_) (fun hh => ?_)
  · have H := H1 hh; clear H1 H2
    refine WPc_skip ?_
    exact ⟨H, rfl⟩
  · have H := H2 hh; clear H1 H2
    refine WPc_exit ?_
    exact H
/-! ### slices.Equal[[]bool,bool] -/
def sl_Equal_boolb.j2 (h : Heap) (Q : Value → Heap → Prop) : Prop :=
    Q (.bool true) h
def sl_Equal_boolb.j5 (s0 : Value) (s1 : Value) (s12 : Value) (s13 : Value) (h : Heap) (K1 : List Value → Heap → Prop) (Q : Value → Heap → Prop) : Prop :=
    arith (· + ·) s13 (.int .i64 1) fun t25 =>
    K1 [t25] h
def sl_Equal_boolb.j4 (s0 : Value) (s1 : Value) (s12 : Value) (s13 : Value) (h : Heap) (K1 : List Value → Heap → Prop) (Q : Value → Heap → Prop) : Prop :=
    idx 1 s0 s13 fun t18 =>
    load1 t18 h fun t19 =>
    idx 1 s1 s13 fun t22 =>
    load1 t22 h fun t23 =>
    neB t19 t23 fun t24 =>
    ifV t24
    (Q (.bool false) h)
    (sl_Equal_boolb.j5 s0 s1 s12 s13 h K1 Q)
def sl_Equal_boolb.l3.b (c0 : Value) (c1 : Value) (c12 : Value) (s13 : Value) (h : Heap) (K1 : List Value → Heap → Prop) (Q : Value → Heap → Prop) : Prop :=
    cmpI (fun a b => decide (a < b)) s13 c12 fun t14 =>
    ifV t14
    (sl_Equal_boolb.j4 c0 c1 c12 s13 h K1 Q)
    (sl_Equal_boolb.j2 h Q)
def sl_Equal_boolb.j1 (s0 : Value) (s1 : Value) (h : Heap) (Q : Value → Heap → Prop) : Prop :=
    lenV s0 fun t12 =>
    loopC (fun c s h K1 => sl_Equal_boolb.l3.b (c.getD 0 undef) (c.getD 1 undef) (c.getD 2 undef) (s.getD 0 undef) h K1 Q) [s0, s1, t12] [(.int .i64 0)] h
def sl_Equal_boolb.sh (a0 : Value) (a1 : Value) (h : Heap) (Q : Value → Heap → Prop) : Prop :=
    lenV a0 fun t7 =>
    lenV a1 fun t9 =>
    cmpI (fun a b => a != b) t7 t9 fun t10 =>
    ifV t10
    (Q (.bool false) h)
    (sl_Equal_boolb.j1 a0 a1 h Q)
theorem sl_Equal_boolb.body (a0 : Value) (a1 : Value) (h : Heap) (Q : Value → Heap → Prop) (H : sl_Equal_boolb.sh a0 a1 h Q) : sl_Equal_boolb.call #[a0, a1] h Q := by
  refine callsH_of (args := [a0, a1]) Try.func34 rfl rfl ?_
  unfold sl_Equal_boolb.sh at H
  refine WPc_seq' ?_
  refine W_region (by kernel_rfl) ?_
  refine vl_n ?_
  refine H_of_R (R_assign (v := (.bool false)) rfl ?_)
  refine vl_e ?_
  refine WPc_seq (fun e h => sl_Equal_boolb.j1 (e 0) (e 1) h Q) ?_ (fun e h H => ?_)
  rotate_left
  · unfold sl_Equal_boolb.j1 at H
    refine WPc_seq (fun e h => sl_Equal_boolb.j2 h Q) ?_ (fun e h H => ?_)
    rotate_left
    · unfold sl_Equal_boolb.j2 at H
      refine WPc_seq' ?_
      refine W_region (by kernel_rfl) ?_
      refine vl_n ?_
      refine H_of_R (R_assign (v := (.bool true)) rfl ?_)
      refine vl_e ?_
      refine WPc_ret ?_
      refine resH_of rfl ?_
      exact H
    refine WPc_seq' ?_
    refine W_region (by kernel_rfl) ?_
    refine vl_n ?_
    refine H_of_R (R_move (v := (e 0)) rfl ?_)
    refine vl_n ?_
    refine H_of_R (R_len Try.underlying30 H fun t12 H => ?_)
    refine vl_n ?_
    refine H_of_R (R_move (v := (.int .i64 0)) rfl ?_)
    refine vl_e ?_
    refine WPc_block ?_
    refine loop_at (fun e => [e 13]) (fun e => [e 0, e 1, e 12]) H rfl rfl ?_
    intro K1 e1 h H hin1
    replace H : sl_Equal_boolb.l3.b (e1 0) (e1 1) (e1 12) (e1 13) h K1 Q := H
    unfold sl_Equal_boolb.l3.b at H
    clear hin1
    refine WPc_seq' ?_
    refine W_region (by kernel_rfl) ?_
    refine vl_n ?_
    refine H_of_R (R_lss H fun t14 H => ?_)
    refine vl_e ?_
    refine WPc_seq (fun e h => sl_Equal_boolb.j4 (e 0) (e 1) (e 12) (e 13) h K1 Q ∧ [e1 0, e1 1, e1 12] = [e 0, e 1, e 12]) ?_ (fun e h ⟨H, hq1⟩ => ?_)
    rotate_left
    · unfold sl_Equal_boolb.j4 at H
      refine WPc_seq (fun e h => sl_Equal_boolb.j5 (e 0) (e 1) (e 12) (e 13) h K1 Q ∧ [e1 0, e1 1, e1 12] = [e 0, e 1, e 12]) ?_ (fun e h ⟨H, hq1⟩ => ?_)
      rotate_left
      · unfold sl_Equal_boolb.j5 at H
        refine W_region (by kernel_rfl) ?_
        refine vl_n ?_
        refine H_of_R (R_add H fun t25 H => ?_)
        refine vl_n ?_
        refine H_of_R (R_move (v := t25) rfl ?_)
        refine vl_e ?_
        exact ⟨H, hq1⟩
      refine WPc_block ?_
      refine WPc_seq' ?_
      refine W_region (by kernel_rfl) ?_
      refine vl_n ?_
      refine H_of_R (R_move (v := (e 13)) rfl ?_)
      refine vl_n ?_
      refine H_of_R (R_assign (v := (e 13)) rfl ?_)
      refine vl_e ?_
      refine WPc_seq' ?_
      refine W_drawn [0, 0, 3, 7, 0, 0, 48, 112, 255] (.take 0 (.take 1 (.take 2 (.take 3 (.take 4 (.take 5 (.take 6 (.take 7 (.take 8 .done))))))))) mixed (by kernel_rfl) ?_
      refine tkP rfl ?_
      refine R_move (v := (e 0)) rfl ⟨fun _ => trivial, ?_⟩
      refine tkP rfl ?_
      refine R_move (v := (e 13)) rfl ⟨fun _ => trivial, ?_⟩
      refine tkP rfl ?_
      refine R_idx TE_30 H fun t18 H => ⟨fun _ => trivial, ?_⟩
      refine tkL rfl ?_
      refine R_load1 T1_4 H fun at19 t19 hat19 _ H => ?_
      refine tkP rfl ?_
      refine R_move (v := (e 1)) rfl ⟨fun _ => trivial, ?_⟩
      refine tkP rfl ?_
      refine R_move (v := (e 13)) rfl ⟨fun _ => trivial, ?_⟩
      refine tkP rfl ?_
      refine R_idx TE_30 H fun t22 H => ⟨fun _ => trivial, ?_⟩
      refine tkL rfl ?_
      refine R_load1 T1_4 H fun at23 t23 hat23 _ H => ?_
      refine tkP rfl ?_
      refine R_neB Try.underlying4 H fun t24 H => ⟨fun _ => trivial, ?_⟩
      refine vp_done ?_
      obtain ⟨b, hc, H1, H2⟩ := H
      refine WPc_cond hc (fun hh => ?_) (fun hh => ?_)
      · have H := H1 hh; clear H1 H2
        refine WPc_seq' ?_
        refine W_region (by kernel_rfl) ?_
        refine vl_n ?_
        refine H_of_R (R_assign (v := (.bool false)) rfl ?_)
        refine vl_e ?_
        refine WPc_ret ?_
        refine resH_of rfl ?_
        exact H
      · have H := H2 hh; clear H1 H2
        refine WPc_skip ?_
        exact ⟨H, hq1⟩
    obtain ⟨b, hc, H1, H2⟩ := H
    refine WPc_cond hc (fun hh => ?_) (fun hh => ?_)
    · have H := H1 hh; clear H1 H2
      refine WPc_skip ?_
      exact ⟨H, rfl⟩
    · have H := H2 hh; clear H1 H2
      refine WPc_exit ?_
      exact H
  refine WPc_seq' ?_
  refine W_region (by kernel_rfl) ?_
  refine vl_n ?_
  refine H_of_R (R_move (v := a0) rfl ?_)
  refine vl_n ?_
  refine H_of_R (R_len Try.underlying30 H fun t7 H => ?_)
  refine vl_n ?_
  refine H_of_R (R_move (v := a1) rfl ?_)
  refine vl_n ?_
  refine H_of_R (R_len Try.underlying30 H fun t9 H => ?_)
  refine vl_n ?_
  refine H_of_R (R_neI H fun t10 H => ?_)
  refine vl_e ?_
  obtain ⟨b, hc, H1, H2⟩ := H
  refine WPc_cond hc (fun hh => ?_) (fun hh => ?_)
  · have H := H1 hh; clear H1 H2
    refine WPc_seq' ?_
    refine W_region (by kernel_rfl) ?_
    refine vl_n ?_
    refine H_of_R (R_assign (v := (.bool false)) rfl ?_)
    refine vl_e ?_
    refine WPc_ret ?_
    refine resH_of rfl ?_
    exact H
  · have H := H2 hh; clear H1 H2
    refine WPc_skip ?_
    exact H
/-! ### laws.FnExactWLoad -/
def l_FnExactWLoad.j2 (s0 : Value) (s1 : Value) (h : Heap) (Q : Value → Heap → Prop) : Prop :=
    i_WLoad.call #[s0, s1] h fun t27 h =>
    extr 0 t27 fun t28 =>
    extr 1 t27 fun t29 =>
    extr 2 t27 fun t30 =>
    s_WSet.call #[s1] h fun t33 h =>
    extr 0 t33 fun t34 =>
    extr 1 t33 fun t35 =>
    extr 2 t33 fun t36 =>
    sl_Equal_implWordimplWord.call #[t28, t34] h fun t39 h =>
    br t39 true (sl_Equal_boolb.call #[t29, t35] h fun t43 h =>
    br t43 true (sl_Equal_implWordimplWord.call #[t30, t36] h fun t48 h =>
    br t48 true (l_aliveW.call #[] h fun t51 h =>
    Q t51 h) (Q (.bool false) h)) (Q (.bool false) h)) (Q (.bool false) h)
def l_FnExactWLoad.j1 (s0 : Value) (s1 : Value) (h : Heap) (Q : Value → Heap → Prop) : Prop :=
    l_fit.call #[s0] h fun t15 h =>
    notV t15 fun t16 =>
    br t16 false (l_keysIn.call #[s1] h fun t19 h =>
    l_rises.call #[t19] h fun t20 h =>
    notV t20 fun t21 =>
    ifV t21
    (l_aliveW.call #[] h fun t23 h =>
    Q t23 h)
    (l_FnExactWLoad.j2 s0 s1 h Q)) (l_aliveW.call #[] h fun t23_2 h =>
    Q t23_2 h)
def l_FnExactWLoad.sh (a0 : Value) (a1 : Value) (h : Heap) (Q : Value → Heap → Prop) : Prop :=
    l_zzFits8.call #[a1] h fun t12 h =>
    notV t12 fun t13 =>
    ifV t13
    (Q (.bool true) h)
    (l_FnExactWLoad.j1 a0 a1 h Q)
theorem l_FnExactWLoad.body (a0 : Value) (a1 : Value) (h : Heap) (Q : Value → Heap → Prop) (H : l_FnExactWLoad.sh a0 a1 h Q) : l_FnExactWLoad.call #[a0, a1] h Q := by
  refine callsH_of (args := [a0, a1]) Try.func9 rfl rfl ?_
  unfold l_FnExactWLoad.sh at H
  refine WPc_seq' ?_
  refine W_region (by kernel_rfl) ?_
  refine vl_n ?_
  refine H_of_R (R_assign (v := (.bool false)) rfl ?_)
  refine vl_e ?_
  refine WPc_seq (fun e h => l_FnExactWLoad.j1 (e 0) (e 1) h Q) ?_ (fun e h H => ?_)
  rotate_left
  · unfold l_FnExactWLoad.j1 at H
    refine WPc_seq (fun e h => l_FnExactWLoad.j2 (e 0) (e 1) h Q) ?_ (fun e h H => ?_)
    rotate_left
    · unfold l_FnExactWLoad.j2 at H
      refine WPc_seq' ?_
      refine W_region (by kernel_rfl) ?_
      refine vl_n ?_
      refine H_of_R (R_move (v := (e 0)) rfl ?_)
      refine vl_n ?_
      refine H_of_R (R_move (v := (e 1)) rfl ?_)
      refine vl_n ?_
      refine H_call HB_32 H fun t27 h H => ?_
      refine vl_n ?_
      refine H_of_R (R_move (v := t27) rfl ?_)
      refine vl_n ?_
      refine H_of_R (R_ext H fun t28 H => ?_)
      refine vl_n ?_
      refine H_of_R (R_ext H fun t29 H => ?_)
      refine vl_n ?_
      refine H_of_R (R_ext H fun t30 H => ?_)
      refine vl_n ?_
      refine H_of_R (R_assign (v := t28) rfl ?_)
      refine vl_n ?_
      refine H_of_R (R_assign (v := t29) rfl ?_)
      refine vl_n ?_
      refine H_of_R (R_assign (v := t30) rfl ?_)
      refine vl_e ?_
      refine WPc_seq' ?_
      refine W_region (by kernel_rfl) ?_
      refine vl_n ?_
      refine H_of_R (R_move (v := (e 1)) rfl ?_)
      refine vl_n ?_
      refine H_call HB_33 H fun t33 h H => ?_
      refine vl_n ?_
      refine H_of_R (R_move (v := t33) rfl ?_)
      refine vl_n ?_
      refine H_of_R (R_ext H fun t34 H => ?_)
      refine vl_n ?_
      refine H_of_R (R_ext H fun t35 H => ?_)
      refine vl_n ?_
      refine H_of_R (R_ext H fun t36 H => ?_)
      refine vl_n ?_
      refine H_of_R (R_assign (v := t34) rfl ?_)
      refine vl_n ?_
      refine H_of_R (R_assign (v := t35) rfl ?_)
      refine vl_n ?_
      refine H_of_R (R_assign (v := t36) rfl ?_)
      refine vl_e ?_
      refine WPc_seq' ?_
      refine W_region (by kernel_rfl) ?_
      refine vl_n ?_
      refine H_of_R (R_move (v := t28) rfl ?_)
      refine vl_n ?_
      refine H_of_R (R_move (v := t34) rfl ?_)
      refine vl_n ?_
      refine H_call HB_20 H fun t39 h H => ?_
      refine vl_n ?_
      refine H_of_R (R_move (v := t39) rfl ?_)
      obtain ⟨b, hb, H1, H2⟩ := H
      cases b
      · have H := H2 rfl; clear H1 H2
        refine vl_s rfl (nbT hb) ?_
        refine vl_s rfl (nbT hb) ?_
        refine vl_s rfl (nbT hb) ?_
        refine vl_n ?_
        refine H_of_R (R_pickC (v := (.bool false)) false hb rfl ?_)
        refine vl_n ?_
        refine H_of_R (R_move (v := (.bool false)) rfl ?_)
        refine vl_s rfl (nbT rfl) ?_
        refine vl_s rfl (nbT rfl) ?_
        refine vl_s rfl (nbT rfl) ?_
        refine vl_n ?_
        refine H_of_R (R_pickC (v := (.bool false)) false rfl rfl ?_)
        refine vl_n ?_
        refine H_of_R (R_move (v := (.bool false)) rfl ?_)
        refine vl_s rfl (nbT rfl) ?_
        refine vl_n ?_
        refine H_of_R (R_pickC (v := (.bool false)) false rfl rfl ?_)
        refine vl_n ?_
        refine H_of_R (R_assign (v := (.bool false)) rfl ?_)
        refine vl_e ?_
        refine WPc_ret ?_
        refine resH_of rfl ?_
        exact H
      · have H := H1 rfl; clear H1 H2
        refine vl_y rfl hb ?_
        refine H_of_R (R_move (v := t29) rfl ?_)
        refine vl_y rfl hb ?_
        refine H_of_R (R_move (v := t35) rfl ?_)
        refine vl_y rfl hb ?_
        refine H_call HB_34 H fun t43 h H => ?_
        refine vl_n ?_
        refine H_of_R (R_pickC (v := t43) true hb rfl ?_)
        refine vl_n ?_
        refine H_of_R (R_move (v := t43) rfl ?_)
        obtain ⟨b_2, hb_2, H1, H2⟩ := H
        cases b_2
        · have H := H2 rfl; clear H1 H2
          refine vl_s rfl (nbT hb_2) ?_
          refine vl_s rfl (nbT hb_2) ?_
          refine vl_s rfl (nbT hb_2) ?_
          refine vl_n ?_
          refine H_of_R (R_pickC (v := (.bool false)) false hb_2 rfl ?_)
          refine vl_n ?_
          refine H_of_R (R_move (v := (.bool false)) rfl ?_)
          refine vl_s rfl (nbT rfl) ?_
          refine vl_n ?_
          refine H_of_R (R_pickC (v := (.bool false)) false rfl rfl ?_)
          refine vl_n ?_
          refine H_of_R (R_assign (v := (.bool false)) rfl ?_)
          refine vl_e ?_
          refine WPc_ret ?_
          refine resH_of rfl ?_
          exact H
        · have H := H1 rfl; clear H1 H2
          refine vl_y rfl hb_2 ?_
          refine H_of_R (R_move (v := t30) rfl ?_)
          refine vl_y rfl hb_2 ?_
          refine H_of_R (R_move (v := t36) rfl ?_)
          refine vl_y rfl hb_2 ?_
          refine H_call HB_20 H fun t48 h H => ?_
          refine vl_n ?_
          refine H_of_R (R_pickC (v := t48) true hb_2 rfl ?_)
          refine vl_n ?_
          refine H_of_R (R_move (v := t48) rfl ?_)
          obtain ⟨b_3, hb_3, H1, H2⟩ := H
          cases b_3
          · have H := H2 rfl; clear H1 H2
            refine vl_s rfl (nbT hb_3) ?_
            refine vl_n ?_
            refine H_of_R (R_pickC (v := (.bool false)) false hb_3 rfl ?_)
            refine vl_n ?_
            refine H_of_R (R_assign (v := (.bool false)) rfl ?_)
            refine vl_e ?_
            refine WPc_ret ?_
            refine resH_of rfl ?_
            exact H
          · have H := H1 rfl; clear H1 H2
            refine vl_y rfl hb_3 ?_
            refine H_call HB_15 H fun t51 h H => ?_
            refine vl_n ?_
            refine H_of_R (R_pickC (v := t51) true hb_3 rfl ?_)
            refine vl_n ?_
            refine H_of_R (R_assign (v := t51) rfl ?_)
            refine vl_e ?_
            refine WPc_ret ?_
            refine resH_of rfl ?_
            exact H
    refine WPc_seq' ?_
    refine W_region (by kernel_rfl) ?_
    refine vl_n ?_
    refine H_of_R (R_move (v := (e 0)) rfl ?_)
    refine vl_n ?_
    refine H_call HB_14 H fun t15 h H => ?_
    refine vl_n ?_
    refine H_of_R (R_not H fun t16 H => ?_)
    refine vl_n ?_
    refine H_of_R (R_move (v := t16) rfl ?_)
    obtain ⟨b, hb, H1, H2⟩ := H
    cases b
    · have H := H1 rfl; clear H1 H2
      refine vl_y rfl hb ?_
      refine H_of_R (R_move (v := (e 1)) rfl ?_)
      refine vl_y rfl hb ?_
      refine H_call HB_29 H fun t19 h H => ?_
      refine vl_y rfl hb ?_
      refine H_call HB_23 H fun t20 h H => ?_
      refine vl_y rfl hb ?_
      refine H_of_R (R_not H fun t21 H => ?_)
      refine vl_n ?_
      refine H_of_R (R_pickC (v := t21) false hb rfl ?_)
      refine vl_e ?_
      obtain ⟨b_2, hc, H1, H2⟩ := H
      refine WPc_cond hc (fun hh => ?_) (fun hh => ?_)
      · have H := H1 hh; clear H1 H2
        refine WPc_seq' ?_
        refine W_region (by kernel_rfl) ?_
        refine vl_n ?_
        refine H_call HB_15 H fun t23 h H => ?_
        refine vl_n ?_
        refine H_of_R (R_assign (v := t23) rfl ?_)
        refine vl_e ?_
        refine WPc_ret ?_
        refine resH_of rfl ?_
        exact H
      · have H := H2 hh; clear H1 H2
        refine WPc_skip ?_
        exact H
    · have H := H2 rfl; clear H1 H2
      refine vl_s rfl (nbF hb) ?_
      refine vl_s rfl (nbF hb) ?_
      refine vl_s rfl (nbF hb) ?_
      refine vl_s rfl (nbF hb) ?_
      refine vl_n ?_
      refine H_of_R (R_pickC (v := (.bool true)) true hb rfl ?_)
      refine vl_e ?_
      refine WPc_cond (t := true) rfl (fun _ => ?_) (fun hh => by cases hh)
      refine WPc_seq' ?_
      refine W_region (by kernel_rfl) ?_
      refine vl_n ?_
      refine H_call HB_15 H fun t23_2 h H => ?_
      refine vl_n ?_
      refine H_of_R (R_assign (v := t23_2) rfl ?_)
      refine vl_e ?_
      refine WPc_ret ?_
      refine resH_of rfl ?_
      exact H
  refine WPc_seq' ?_
  refine W_region (by kernel_rfl) ?_
  refine vl_n ?_
  refine H_of_R (R_move (v := a1) rfl ?_)
  refine vl_n ?_
  refine H_call HB_18 H fun t12 h H => ?_
  refine vl_n ?_
  refine H_of_R (R_not H fun t13 H => ?_)
  refine vl_e ?_
  obtain ⟨b, hc, H1, H2⟩ := H
  refine WPc_cond hc (fun hh => ?_) (fun hh => ?_)
  · have H := H1 hh; clear H1 H2
    refine WPc_seq' ?_
    refine W_region (by kernel_rfl) ?_
    refine vl_n ?_
    refine H_of_R (R_assign (v := (.bool true)) rfl ?_)
    refine vl_e ?_
    refine WPc_ret ?_
    refine resH_of rfl ?_
    exact H
  · have H := H2 hh; clear H1 H2
    refine WPc_skip ?_
    exact H
/-! ### slices.Clone[[]string,string] -/
def sl_Clone_ss.j1 (s0 : Value) (h : Heap) (Q : Value → Heap → Prop) : Prop :=
    mkSl (if 0 * 1 = 0 then [] else zeros [(.string ⟨#[]⟩)] 0) 0 [] 9 h fun t5 h =>
    app 9 1 16 [(.string ⟨#[]⟩)] t5 s0 h fun t7 h =>
    Q t7 h
def sl_Clone_ss.sh (a0 : Value) (h : Heap) (Q : Value → Heap → Prop) : Prop :=
    eqNilS a0 fun t4 =>
    ifV t4
    (Q (.slice none 0 0) h)
    (sl_Clone_ss.j1 a0 h Q)
theorem sl_Clone_ss.body (a0 : Value) (h : Heap) (Q : Value → Heap → Prop) (H : sl_Clone_ss.sh a0 h Q) : sl_Clone_ss.call #[a0] h Q := by
  refine callsH_of (args := [a0]) Try.func75 rfl rfl ?_
  unfold sl_Clone_ss.sh at H
  refine WPc_seq' ?_
  refine W_region (by kernel_rfl) ?_
  refine vl_n ?_
  refine H_of_R (R_assign (v := (.slice none 0 0)) rfl ?_)
  refine vl_e ?_
  refine WPc_seq (fun e h => sl_Clone_ss.j1 (e 0) h Q) ?_ (fun e h H => ?_)
  rotate_left
  · unfold sl_Clone_ss.j1 at H
    refine WPc_seq' ?_
    refine W_region (by kernel_rfl) ?_
    refine vl_n ?_
    refine H_mkSl TZ_28 (by decide) rfl H rfl fun t5 h H => ?_
    refine vl_n ?_
    refine H_of_R (R_move (v := (e 0)) rfl ?_)
    refine vl_n ?_
    refine H_app TZ_28 TU_28 H fun t7 h H => ?_
    refine vl_n ?_
    refine H_of_R (R_assign (v := t7) rfl ?_)
    refine vl_e ?_
    refine WPc_ret ?_
    refine resH_of rfl ?_
    exact H
  refine WPc_seq' ?_
  refine W_region (by kernel_rfl) ?_
  refine vl_n ?_
  refine H_of_R (R_move (v := a0) rfl ?_)
  refine vl_n ?_
  refine H_of_R (R_eqNilS Try.underlying28 rfl H fun t4 H => ?_)
  refine vl_e ?_
  obtain ⟨b, hc, H1, H2⟩ := H
  refine WPc_cond hc (fun hh => ?_) (fun hh => ?_)
  · have H := H1 hh; clear H1 H2
    refine WPc_seq' ?_
    refine W_region (by kernel_rfl) ?_
    refine vl_n ?_
    refine H_of_R (R_assign (v := (.slice none 0 0)) rfl ?_)
    refine vl_e ?_
    refine WPc_ret ?_
    refine resH_of rfl ?_
    exact H
  · have H := H2 hh; clear H1 H2
    refine WPc_skip ?_
    exact H

end Go.Proofs.Ytoinihchhngcpaa
