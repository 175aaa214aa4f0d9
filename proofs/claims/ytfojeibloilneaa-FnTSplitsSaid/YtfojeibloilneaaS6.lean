/-
  Shallow forms of the walked functions, and that each call comes to its form. Written by a program of this repo (gen.py). Conditions: none.
-/
import Derived.Test.YtfojeibloilneaaST
namespace Go.Proofs.Ytfojeibloilneaa
open Go.Hp
set_option maxRecDepth 100000
set_option maxHeartbeats 8000000
set_option linter.unusedVariables false
set_option linter.unusedSimpArgs false

/-! ### slices.Concat[[]string,string] -/
def sl_Concat_ss.j2 (s6 : Value) (h : Heap) (Q : Value → Heap → Prop) : Prop :=
    Q s6 h
def sl_Concat_ss.j5 (s6 : Value) (s25 : Value) (s26 : Value) (s27 : Value) (h : Heap) (K1 : List Value → Heap → Prop) (Q : Value → Heap → Prop) : Prop :=
    arith (· + ·) s27 (.int .i64 1) fun t34 =>
    K1 [s6, t34] h
def sl_Concat_ss.j4 (s6 : Value) (s25 : Value) (s26 : Value) (s27 : Value) (h : Heap) (K1 : List Value → Heap → Prop) (Q : Value → Heap → Prop) : Prop :=
    idx 1 s25 s27 fun t29 =>
    load1 t29 h fun t30 =>
    app 9 1 16 [(.string ⟨#[]⟩)] s6 t30 h fun t33 h =>
    sl_Concat_ss.j5 t33 s25 s26 s27 h K1 Q
def sl_Concat_ss.l3.b (c25 : Value) (c26 : Value) (s6 : Value) (s27 : Value) (h : Heap) (K1 : List Value → Heap → Prop) (Q : Value → Heap → Prop) : Prop :=
    cmpI (fun a b => decide (a < b)) s27 c26 fun t28 =>
    ifV t28
    (sl_Concat_ss.j4 s6 c25 c26 s27 h K1 Q)
    (sl_Concat_ss.j2 s6 h Q)
def sl_Concat_ss.j1 (s0 : Value) (s3 : Value) (h : Heap) (Q : Value → Heap → Prop) : Prop :=
    sl_Grow_ss.call #[(.slice none 0 0), s3] h fun t24 h =>
    lenV s0 fun t26 =>
    loopC (fun c s h K1 => sl_Concat_ss.l3.b (c.getD 0 undef) (c.getD 1 undef) (s.getD 0 undef) (s.getD 1 undef) h K1 Q) [s0, t26] [t24, (.int .i64 0)] h
def sl_Concat_ss.j8 (s0 : Value) (s3 : Value) (s9 : Value) (s10 : Value) (s11 : Value) (h : Heap) (K1 : List Value → Heap → Prop) (Q : Value → Heap → Prop) : Prop :=
    arith (· + ·) s11 (.int .i64 1) fun t22 =>
    K1 [s3, t22] h
def sl_Concat_ss.j7 (s0 : Value) (s3 : Value) (s9 : Value) (s10 : Value) (s11 : Value) (h : Heap) (K1 : List Value → Heap → Prop) (Q : Value → Heap → Prop) : Prop :=
    idx 1 s9 s11 fun t13 =>
    load1 t13 h fun t14 =>
    lenV t14 fun t17 =>
    arith (· + ·) s3 t17 fun t18 =>
    cmpI (fun a b => decide (a < b)) t18 (.int .i64 0) fun t20 =>
    ifV t20
    (False)
    (sl_Concat_ss.j8 s0 t18 s9 s10 s11 h K1 Q)
def sl_Concat_ss.l6.b (c0 : Value) (c9 : Value) (c10 : Value) (s3 : Value) (s11 : Value) (h : Heap) (K1 : List Value → Heap → Prop) (Q : Value → Heap → Prop) : Prop :=
    cmpI (fun a b => decide (a < b)) s11 c10 fun t12 =>
    ifV t12
    (sl_Concat_ss.j7 c0 s3 c9 c10 s11 h K1 Q)
    (sl_Concat_ss.j1 c0 s3 h Q)
def sl_Concat_ss.sh (a0 : Value) (h : Heap) (Q : Value → Heap → Prop) : Prop :=
    lenV a0 fun t10 =>
    loopC (fun c s h K1 => sl_Concat_ss.l6.b (c.getD 0 undef) (c.getD 1 undef) (c.getD 2 undef) (s.getD 0 undef) (s.getD 1 undef) h K1 Q) [a0, a0, t10] [(.int .i64 0), (.int .i64 0)] h
theorem sl_Concat_ss.body (a0 : Value) (h : Heap) (Q : Value → Heap → Prop) (H : sl_Concat_ss.sh a0 h Q) : sl_Concat_ss.call #[a0] h Q := by
  refine callsH_of (args := [a0]) Try.func15 rfl rfl ?_
  unfold sl_Concat_ss.sh at H
  refine WPc_seq' ?_
  refine W_region (by kernel_rfl) ?_
  refine vl_n ?_
  refine H_of_R (R_assign (v := (.slice none 0 0)) rfl ?_)
  refine vl_e ?_
  refine WPc_seq' ?_
  refine W_region (by kernel_rfl) ?_
  refine vl_n ?_
  refine H_of_R (R_assign (v := (.int .i64 0)) rfl ?_)
  refine vl_e ?_
  refine WPc_seq (fun e h => sl_Concat_ss.j1 (e 0) (e 3) h Q) ?_ (fun e h H => ?_)
  rotate_left
  · unfold sl_Concat_ss.j1 at H
    refine WPc_seq' ?_
    refine W_region (by kernel_rfl) ?_
    refine vl_n ?_
    refine H_of_R (R_move (v := (e 3)) rfl ?_)
    refine vl_n ?_
    refine H_call HB_30 H fun t24 h H => ?_
    refine vl_n ?_
    refine H_of_R (R_assign (v := t24) rfl ?_)
    refine vl_e ?_
    refine WPc_seq (fun e h => sl_Concat_ss.j2 (e 6) h Q) ?_ (fun e h H => ?_)
    rotate_left
    · unfold sl_Concat_ss.j2 at H
      refine WPc_seq' ?_
      refine W_region (by kernel_rfl) ?_
      refine vl_n ?_
      refine H_of_R (R_move (v := (e 6)) rfl ?_)
      refine vl_n ?_
      refine H_of_R (R_assign (v := (e 6)) rfl ?_)
      refine vl_e ?_
      refine WPc_ret ?_
      refine resH_of rfl ?_
      exact H
    refine WPc_seq' ?_
    refine W_region (by kernel_rfl) ?_
    refine vl_n ?_
    refine H_of_R (R_move (v := (e 0)) rfl ?_)
    refine vl_n ?_
    refine H_of_R (R_len Try.underlying43 H fun t26 H => ?_)
    refine vl_n ?_
    refine H_of_R (R_move (v := (.int .i64 0)) rfl ?_)
    refine vl_e ?_
    refine WPc_block ?_
    refine loop_at (fun e => [e 6, e 27]) (fun e => [e 25, e 26]) H rfl rfl ?_
    intro K1 e1 h H hin1
    replace H : sl_Concat_ss.l3.b (e1 25) (e1 26) (e1 6) (e1 27) h K1 Q := H
    unfold sl_Concat_ss.l3.b at H
    clear hin1
    refine WPc_seq' ?_
    refine W_region (by kernel_rfl) ?_
    refine vl_n ?_
    refine H_of_R (R_lss H fun t28 H => ?_)
    refine vl_e ?_
    refine WPc_seq (fun e h => sl_Concat_ss.j4 (e 6) (e 25) (e 26) (e 27) h K1 Q ∧ [e1 25, e1 26] = [e 25, e 26]) ?_ (fun e h ⟨H, hq1⟩ => ?_)
    rotate_left
    · unfold sl_Concat_ss.j4 at H
      refine WPc_seq (fun e h => sl_Concat_ss.j5 (e 6) (e 25) (e 26) (e 27) h K1 Q ∧ [e1 25, e1 26] = [e 25, e 26]) ?_ (fun e h ⟨H, hq1⟩ => ?_)
      rotate_left
      · unfold sl_Concat_ss.j5 at H
        refine W_region (by kernel_rfl) ?_
        refine vl_n ?_
        refine H_of_R (R_add H fun t34 H => ?_)
        refine vl_n ?_
        refine H_of_R (R_move (v := t34) rfl ?_)
        refine vl_e ?_
        exact ⟨H, hq1⟩
      refine WPc_block ?_
      refine WPc_seq' ?_
      refine W_region (by kernel_rfl) ?_
      refine vl_n ?_
      refine H_of_R (R_idx TE_43 H fun t29 H => ?_)
      refine vl_n ?_
      refine H_of_R (R_load1 T1_22 H fun _ t30 _ _ H => ?_)
      refine vl_n ?_
      refine H_of_R (R_assign (v := t30) rfl ?_)
      refine vl_e ?_
      refine W_region (by kernel_rfl) ?_
      refine vl_n ?_
      refine H_of_R (R_move (v := (e 6)) rfl ?_)
      refine vl_n ?_
      refine H_of_R (R_move (v := t30) rfl ?_)
      refine vl_n ?_
      refine H_app TZ_22 TU_22 H fun t33 h H => ?_
      refine vl_n ?_
      refine H_of_R (R_assign (v := t33) rfl ?_)
      refine vl_e ?_
      exact ⟨H, hq1⟩
    obtain ⟨b, hc, H1, H2⟩ := H
    refine WPc_cond hc (fun hh => ?_) (fun hh => ?_)
    · have H := H1 hh; clear H1 H2
      refine WPc_skip ?_
      exact ⟨H, rfl⟩
    · have H := H2 hh; clear H1 H2
      refine WPc_exit ?_
      exact H
  refine WPc_seq' ?_
  refine W_region (by kernel_rfl) ?_
  refine vl_n ?_
  refine H_of_R (R_move (v := a0) rfl ?_)
  refine vl_n ?_
  refine H_of_R (R_len Try.underlying43 H fun t10 H => ?_)
  refine vl_n ?_
  refine H_of_R (R_move (v := (.int .i64 0)) rfl ?_)
  refine vl_e ?_
  refine WPc_block ?_
  refine loop_at (fun e => [e 3, e 11]) (fun e => [e 0, e 9, e 10]) H rfl rfl ?_
  intro K1 e1 h H hin1
  replace H : sl_Concat_ss.l6.b (e1 0) (e1 9) (e1 10) (e1 3) (e1 11) h K1 Q := H
  unfold sl_Concat_ss.l6.b at H
  clear hin1
  refine WPc_seq' ?_
  refine W_region (by kernel_rfl) ?_
  refine vl_n ?_
  refine H_of_R (R_lss H fun t12 H => ?_)
  refine vl_e ?_
  refine WPc_seq (fun e h => sl_Concat_ss.j7 (e 0) (e 3) (e 9) (e 10) (e 11) h K1 Q ∧ [e1 0, e1 9, e1 10] = [e 0, e 9, e 10]) ?_ (fun e h ⟨H, hq1⟩ => ?_)
  rotate_left
  · unfold sl_Concat_ss.j7 at H
    refine WPc_seq (fun e h => sl_Concat_ss.j8 (e 0) (e 3) (e 9) (e 10) (e 11) h K1 Q ∧ [e1 0, e1 9, e1 10] = [e 0, e 9, e 10]) ?_ (fun e h ⟨H, hq1⟩ => ?_)
    rotate_left
    · unfold sl_Concat_ss.j8 at H
      refine W_region (by kernel_rfl) ?_
      refine vl_n ?_
      refine H_of_R (R_add H fun t22 H => ?_)
      refine vl_n ?_
      refine H_of_R (R_move (v := t22) rfl ?_)
      refine vl_e ?_
      exact ⟨H, hq1⟩
    refine WPc_block ?_
    refine WPc_seq' ?_
    refine W_region (by kernel_rfl) ?_
    refine vl_n ?_
    refine H_of_R (R_idx TE_43 H fun t13 H => ?_)
    refine vl_n ?_
    refine H_of_R (R_load1 T1_22 H fun _ t14 _ _ H => ?_)
    refine vl_n ?_
    refine H_of_R (R_assign (v := t14) rfl ?_)
    refine vl_e ?_
    refine WPc_seq' ?_
    refine W_region (by kernel_rfl) ?_
    refine vl_n ?_
    refine H_of_R (R_move (v := (e 3)) rfl ?_)
    refine vl_n ?_
    refine H_of_R (R_move (v := t14) rfl ?_)
    refine vl_n ?_
    refine H_of_R (R_len Try.underlying22 H fun t17 H => ?_)
    refine vl_n ?_
    refine H_of_R (R_add H fun t18 H => ?_)
    refine vl_n ?_
    refine H_of_R (R_assign (v := t18) rfl ?_)
    refine vl_e ?_
    refine WPc_seq' ?_
    refine W_region (by kernel_rfl) ?_
    refine vl_n ?_
    refine H_of_R (R_move (v := t18) rfl ?_)
    refine vl_n ?_
    refine H_of_R (R_lss H fun t20 H => ?_)
    refine vl_e ?_
    obtain ⟨b, hc, H1, H2⟩ := H
    refine WPc_cond hc (fun hh => ?_) (fun hh => ?_)
    · have H := H1 hh; clear H1 H2
      refine W_region (by kernel_rfl) ?_
      refine vl_n ?_
      refine H_of_R (R_mkI Try.underlying9 (by intro k hk; cases hk) ?_)
      refine vl_n ?_
      exact H.elim
    · have H := H2 hh; clear H1 H2
      refine WPc_skip ?_
      exact ⟨H, hq1⟩
  obtain ⟨b, hc, H1, H2⟩ := H
  refine WPc_cond hc (fun hh => ?_) (fun hh => ?_)
  · have H := H1 hh; clear H1 H2
    refine WPc_skip ?_
    exact ⟨H, rfl⟩
  · have H := H2 hh; clear H1 H2
    refine WPc_exit ?_
    exact H
/-! ### (*pub/tidwallbtree.Map[string, struct{}]).nodeScan -/
def Map_su_nodeScan.j2 (s0 : Value) (s2 : Value) (s3 : Value) (s9 : Value) (h : Heap) (Q : Value → Heap → Prop) : Prop :=
    nilck s9 fun t89 =>
    fld 3 t89 fun t90 =>
    load1 t90 h fun t91 =>
    nilck t91 fun t92 =>
    load1 t92 h fun t93 =>
    nilck s9 fun t95 =>
    fld 3 t95 fun t96 =>
    load1 t96 h fun t97 =>
    nilck t97 fun t98 =>
    load1 t98 h fun t99 =>
    lenV t99 fun t100 =>
    arith (· - ·) t100 (.int .i64 1) fun t101 =>
    idx 1 t93 t101 fun t102 =>
    Map_su_nodeScan.call #[s0, t102, s2, s3] h fun t105 h =>
    Q t105 h
def Map_su_nodeScan.j5 (s0 : Value) (s2 : Value) (s3 : Value) (s9 : Value) (s11 : Value) (h : Heap) (K1 : List Value → Heap → Prop) (Q : Value → Heap → Prop) : Prop :=
    arith (· + ·) s11 (.int .i64 1) fun t54 =>
    K1 [t54] h
def Map_su_nodeScan.j6 (s0 : Value) (s2 : Value) (s3 : Value) (s9 : Value) (s11 : Value) (h : Heap) (K1 : List Value → Heap → Prop) (Q : Value → Heap → Prop) : Prop :=
    nilck s9 fun t70 =>
    fld 2 t70 fun t71 =>
    load1 t71 h fun t72 =>
    idx 1 t72 s11 fun t74 =>
    fld 0 t74 fun t75 =>
    load1 t75 h fun t76 =>
    nilck s9 fun t78 =>
    fld 2 t78 fun t79 =>
    load1 t79 h fun t80 =>
    idx 1 t80 s11 fun t82 =>
    fldZ Try.prog 0 t82 h fun t83 =>
    loadN 0 t83 h fun t84 =>
    callV Try.prog s2 #[t76, t84] h fun t85 h =>
    notV t85 fun t86 =>
    ifV t86
    (Q (.bool false) h)
    (Map_su_nodeScan.j5 s0 s2 s3 s9 s11 h K1 Q)
def Map_su_nodeScan.j4 (s0 : Value) (s2 : Value) (s3 : Value) (s9 : Value) (s11 : Value) (h : Heap) (K1 : List Value → Heap → Prop) (Q : Value → Heap → Prop) : Prop :=
    nilck s9 fun t57 =>
    fld 3 t57 fun t58 =>
    load1 t58 h fun t59 =>
    nilck t59 fun t60 =>
    load1 t60 h fun t61 =>
    idx 1 t61 s11 fun t63 =>
    Map_su_nodeScan.call #[s0, t63, s2, s3] h fun t66 h =>
    notV t66 fun t67 =>
    ifV t67
    (Q (.bool false) h)
    (Map_su_nodeScan.j6 s0 s2 s3 s9 s11 h K1 Q)
def Map_su_nodeScan.l3.b (c0 : Value) (c2 : Value) (c3 : Value) (c9 : Value) (s11 : Value) (h : Heap) (K1 : List Value → Heap → Prop) (Q : Value → Heap → Prop) : Prop :=
    nilck c9 fun t48 =>
    fld 2 t48 fun t49 =>
    load1 t49 h fun t50 =>
    lenV t50 fun t51 =>
    cmpI (fun a b => decide (a < b)) s11 t51 fun t52 =>
    ifV t52
    (Map_su_nodeScan.j4 c0 c2 c3 c9 s11 h K1 Q)
    (Map_su_nodeScan.j2 c0 c2 c3 c9 h Q)
def Map_su_nodeScan.j1 (s0 : Value) (s2 : Value) (s3 : Value) (s9 : Value) (h : Heap) (Q : Value → Heap → Prop) : Prop :=
    loopC (fun c s h K1 => Map_su_nodeScan.l3.b (c.getD 0 undef) (c.getD 1 undef) (c.getD 2 undef) (c.getD 3 undef) (s.getD 0 undef) h K1 Q) [s0, s2, s3, s9] [(.int .i64 0)] h
def Map_su_nodeScan.j7 (h : Heap) (Q : Value → Heap → Prop) : Prop :=
    Q (.bool true) h
def Map_su_nodeScan.j10 (s2 : Value) (s9 : Value) (s10 : Value) (h : Heap) (K1 : List Value → Heap → Prop) (Q : Value → Heap → Prop) : Prop :=
    arith (· + ·) s10 (.int .i64 1) fun t26 =>
    K1 [t26] h
def Map_su_nodeScan.j9 (s2 : Value) (s9 : Value) (s10 : Value) (h : Heap) (K1 : List Value → Heap → Prop) (Q : Value → Heap → Prop) : Prop :=
    nilck s9 fun t29 =>
    fld 2 t29 fun t30 =>
    load1 t30 h fun t31 =>
    idx 1 t31 s10 fun t33 =>
    fld 0 t33 fun t34 =>
    load1 t34 h fun t35 =>
    nilck s9 fun t37 =>
    fld 2 t37 fun t38 =>
    load1 t38 h fun t39 =>
    idx 1 t39 s10 fun t41 =>
    fldZ Try.prog 0 t41 h fun t42 =>
    loadN 0 t42 h fun t43 =>
    callV Try.prog s2 #[t35, t43] h fun t44 h =>
    notV t44 fun t45 =>
    ifV t45
    (Q (.bool false) h)
    (Map_su_nodeScan.j10 s2 s9 s10 h K1 Q)
def Map_su_nodeScan.l8.b (c2 : Value) (c9 : Value) (s10 : Value) (h : Heap) (K1 : List Value → Heap → Prop) (Q : Value → Heap → Prop) : Prop :=
    nilck c9 fun t20 =>
    fld 2 t20 fun t21 =>
    load1 t21 h fun t22 =>
    lenV t22 fun t23 =>
    cmpI (fun a b => decide (a < b)) s10 t23 fun t24 =>
    ifV t24
    (Map_su_nodeScan.j9 c2 c9 s10 h K1 Q)
    (Map_su_nodeScan.j7 h Q)
def Map_su_nodeScan.sh (a0 : Value) (a1 : Value) (a2 : Value) (a3 : Value) (h : Heap) (Q : Value → Heap → Prop) : Prop :=
    Map_su_isoLoad.call #[a0, a1, a3] h fun t15 h =>
    mapNode_su_leaf.call #[t15] h fun t17 h =>
    ifV t17
    (loopC (fun c s h K1 => Map_su_nodeScan.l8.b (c.getD 0 undef) (c.getD 1 undef) (s.getD 0 undef) h K1 Q) [a2, t15] [(.int .i64 0)] h)
    (Map_su_nodeScan.j1 a0 a2 a3 t15 h Q)
theorem Map_su_nodeScan.body (a0 : Value) (a1 : Value) (a2 : Value) (a3 : Value) (h : Heap) (Q : Value → Heap → Prop) (H : Map_su_nodeScan.sh a0 a1 a2 a3 h Q) : Map_su_nodeScan.call #[a0, a1, a2, a3] h Q := by
  refine callsH_of (args := [a0, a1, a2, a3]) Try.func71 rfl rfl ?_
  unfold Map_su_nodeScan.sh at H
  refine WPc_seq' ?_
  refine W_region (by kernel_rfl) ?_
  refine vl_n ?_
  refine H_of_R (R_assign (v := (.bool false)) rfl ?_)
  refine vl_e ?_
  refine WPc_seq' ?_
  refine W_region (by kernel_rfl) ?_
  refine vl_n ?_
  refine H_of_R (R_move (v := a0) rfl ?_)
  refine vl_n ?_
  refine H_of_R (R_move (v := a1) rfl ?_)
  refine vl_n ?_
  refine H_of_R (R_move (v := a3) rfl ?_)
  refine vl_n ?_
  refine H_call HB_62 H fun t15 h H => ?_
  refine vl_n ?_
  refine H_of_R (R_assign (v := t15) rfl ?_)
  refine vl_e ?_
  refine WPc_seq (fun e h => Map_su_nodeScan.j1 (e 0) (e 2) (e 3) (e 9) h Q) ?_ (fun e h H => ?_)
  rotate_left
  · unfold Map_su_nodeScan.j1 at H
    refine WPc_seq (fun e h => Map_su_nodeScan.j2 (e 0) (e 2) (e 3) (e 9) h Q) ?_ (fun e h H => ?_)
    rotate_left
    · unfold Map_su_nodeScan.j2 at H
      refine WPc_seq' ?_
      refine W_drawn [0, 0, 2, 6, 14, 30, 62, 0, 128, 384, 896, 1920, 3968, 8064, 16256, 32766, 0, 0, 262143, 524287] (.take 0 (.take 1 (.take 2 (.take 3 (.take 4 (.take 5 (.take 6 (.take 7 (.take 8 (.take 9 (.take 10 (.take 11 (.take 12 (.take 13 (.take 14 (.take 15 (.take 16 (.take 17 (.alt 18 (.take 19 .done) .none))))))))))))))))))) mixed (by kernel_rfl) ?_
      refine tkP rfl ?_
      refine R_move (v := (e 0)) rfl ⟨fun _ => trivial, ?_⟩
      refine tkP rfl ?_
      refine R_move (v := (e 9)) rfl ⟨fun _ => trivial, ?_⟩
      refine tkP rfl ?_
      refine R_nil H fun t89 H => ⟨fun _ => trivial, ?_⟩
      refine tkP rfl ?_
      refine R_fld TF_82_3 H fun t90 H => ⟨fun _ => trivial, ?_⟩
      refine tkL rfl ?_
      refine R_load1 T1_80 H fun at91 t91 hat91 _ H => ?_
      refine tkP rfl ?_
      refine R_nil H fun t92 H => ⟨fun _ => trivial, ?_⟩
      refine tkL rfl ?_
      refine R_load1 T1_88 H fun at93 t93 hat93 _ H => ?_
      refine tkP rfl ?_
      refine R_move (v := (e 9)) rfl ⟨fun _ => trivial, ?_⟩
      refine tkP rfl ?_
      refine R_nil H fun t95 H => ⟨fun _ => trivial, ?_⟩
      refine tkP rfl ?_
      refine R_fld TF_82_3 H fun t96 H => ⟨fun _ => trivial, ?_⟩
      refine tkL rfl ?_
      refine R_load1 T1_80 H fun at97 t97 hat97 _ H => ?_
      refine tkP rfl ?_
      refine R_nil H fun t98 H => ⟨fun _ => trivial, ?_⟩
      refine tkL rfl ?_
      refine R_load1 T1_88 H fun at99 t99 hat99 _ H => ?_
      refine tkP rfl ?_
      refine R_len Try.underlying88 H fun t100 H => ⟨fun _ => trivial, ?_⟩
      refine tkP rfl ?_
      refine R_sub H fun t101 H => ⟨fun _ => trivial, ?_⟩
      refine tkP rfl ?_
      refine R_idx TE_88 H fun t102 H => ⟨fun _ => trivial, ?_⟩
      refine tkP rfl ?_
      refine R_move (v := (e 2)) rfl ⟨fun _ => trivial, ?_⟩
      refine tkP rfl ?_
      refine R_move (v := (e 3)) rfl ⟨fun _ => trivial, ?_⟩
      refine alt_n rfl ?_ vp_none
      refine H_call HB_71 H fun t105 h H => ⟨(hskip rfl (hskip rfl (hskip rfl (hskip rfl hnil)))), ?_⟩
      refine tkP rfl ?_
      refine R_assign (v := t105) rfl ⟨fun _ => trivial, ?_⟩
      refine vp_done ?_
      refine WPc_ret ?_
      refine resH_of rfl ?_
      exact H
    refine WPc_seq' ?_
    refine W_region (by kernel_rfl) ?_
    refine vl_n ?_
    refine H_of_R (R_assign (v := (.int .i64 0)) rfl ?_)
    refine vl_e ?_
    refine WPc_block ?_
    refine loop_at (fun e => [e 11]) (fun e => [e 0, e 2, e 3, e 9]) H rfl rfl ?_
    intro K1 e1 h H hin1
    replace H : Map_su_nodeScan.l3.b (e1 0) (e1 2) (e1 3) (e1 9) (e1 11) h K1 Q := H
    unfold Map_su_nodeScan.l3.b at H
    clear hin1
    refine WPc_seq (fun e h => Map_su_nodeScan.j4 (e 0) (e 2) (e 3) (e 9) (e 11) h K1 Q ∧ [e1 0, e1 2, e1 3, e1 9] = [e 0, e 2, e 3, e 9]) ?_ (fun e h ⟨H, hq1⟩ => ?_)
    rotate_left
    · unfold Map_su_nodeScan.j4 at H
      refine WPc_seq (fun e h => Map_su_nodeScan.j5 (e 0) (e 2) (e 3) (e 9) (e 11) h K1 Q ∧ [e1 0, e1 2, e1 3, e1 9] = [e 0, e 2, e 3, e 9]) ?_ (fun e h ⟨H, hq1⟩ => ?_)
      rotate_left
      · unfold Map_su_nodeScan.j5 at H
        refine W_region (by kernel_rfl) ?_
        refine vl_n ?_
        refine H_of_R (R_move (v := (e 11)) rfl ?_)
        refine vl_n ?_
        refine H_of_R (R_add H fun t54 H => ?_)
        refine vl_n ?_
        refine H_of_R (R_assign (v := t54) rfl ?_)
        refine vl_e ?_
        exact ⟨H, hq1⟩
      refine WPc_block ?_
      refine WPc_seq (fun e h => Map_su_nodeScan.j6 (e 0) (e 2) (e 3) (e 9) (e 11) h K1 Q ∧ [e1 0, e1 2, e1 3, e1 9] = [e 0, e 2, e 3, e 9]) ?_ (fun e h ⟨H, hq1⟩ => ?_)
      rotate_left
      · unfold Map_su_nodeScan.j6 at H
        refine WPc_seq' ?_
        refine W_drawn [0, 0, 2, 6, 14, 0, 62, 126, 254, 0, 512, 1536, 3584, 0, 15872, 32256, 65024, 131071, 262143] (.take 0 (.take 1 (.take 2 (.take 3 (.take 4 (.take 5 (.take 6 (.take 7 (.take 8 (.take 9 (.take 10 (.take 11 (.take 12 (.take 13 (.take 14 (.take 15 (.take 16 (.alt 17 (.take 18 .done) .none)))))))))))))))))) mixed (by kernel_rfl) ?_
        refine tkP rfl ?_
        refine R_move (v := (e 2)) rfl ⟨fun _ => trivial, ?_⟩
        refine tkP rfl ?_
        refine R_move (v := (e 9)) rfl ⟨fun _ => trivial, ?_⟩
        refine tkP rfl ?_
        refine R_nil H fun t70 H => ⟨fun _ => trivial, ?_⟩
        refine tkP rfl ?_
        refine R_fld TF_82_2 H fun t71 H => ⟨fun _ => trivial, ?_⟩
        refine tkL rfl ?_
        refine R_load1 T1_79 H fun at72 t72 hat72 _ H => ?_
        refine tkP rfl ?_
        refine R_move (v := (e 11)) rfl ⟨fun _ => trivial, ?_⟩
        refine tkP rfl ?_
        refine R_idx TE_79 H fun t74 H => ⟨fun _ => trivial, ?_⟩
        refine tkP rfl ?_
        refine R_fld TF_61_1 H fun t75 H => ⟨fun _ => trivial, ?_⟩
        refine tkL rfl ?_
        refine R_load1 T1_9 H fun at76 t76 hat76 _ H => ?_
        refine tkP rfl ?_
        refine R_move (v := (e 9)) rfl ⟨fun _ => trivial, ?_⟩
        refine tkP rfl ?_
        refine R_nil H fun t78 H => ⟨fun _ => trivial, ?_⟩
        refine tkP rfl ?_
        refine R_fld TF_82_2 H fun t79 H => ⟨fun _ => trivial, ?_⟩
        refine tkL rfl ?_
        refine R_load1 T1_79 H fun at80 t80 hat80 _ H => ?_
        refine tkP rfl ?_
        refine R_move (v := (e 11)) rfl ⟨fun _ => trivial, ?_⟩
        refine tkP rfl ?_
        refine R_idx TE_79 H fun t82 H => ⟨fun _ => trivial, ?_⟩
        refine tkL rfl ?_
        refine R_fldZ TFZ_61_0 H fun t83 H _ => ?_
        refine tkL rfl ?_
        refine R_loadN TN_59 H fun at84 xt84 hat84 _ H St84 hSt84 => ?_
        refine alt_n rfl ?_ vp_none
        refine H_callV H fun t85 h H => ⟨(hskip rfl (hskip rfl (hskip rfl (hskip rfl (hskip rfl hnil))))), ?_⟩
        refine tkP rfl ?_
        refine R_not H fun t86 H => ⟨fun _ => trivial, ?_⟩
        refine vp_done ?_
        obtain ⟨b, hc, H1, H2⟩ := H
        refine WPc_cond hc (fun hh => ?_) (fun hh => ?_)
        · have H := H1 hh; clear H1 H2
          refine WPc_seq' ?_
          refine W_region (by kernel_rfl) ?_
          refine vl_n ?_
          refine H_of_R (R_assign (v := (.bool false)) rfl ?_)
          refine vl_e ?_
          refine WPc_ret ?_
          refine resH_of rfl ?_
          exact H
        · have H := H2 hh; clear H1 H2
          refine WPc_skip ?_
          exact ⟨H, hq1⟩
      refine WPc_seq' ?_
      refine W_region (by kernel_rfl) ?_
      refine vl_n ?_
      refine H_of_R (R_move (v := (e 0)) rfl ?_)
      refine vl_n ?_
      refine H_of_R (R_move (v := (e 9)) rfl ?_)
      refine vl_n ?_
      refine H_of_R (R_nil H fun t57 H => ?_)
      refine vl_n ?_
      refine H_of_R (R_fld TF_82_3 H fun t58 H => ?_)
      refine vl_n ?_
      refine H_of_R (R_load1 T1_80 H fun _ t59 _ _ H => ?_)
      refine vl_n ?_
      refine H_of_R (R_nil H fun t60 H => ?_)
      refine vl_n ?_
      refine H_of_R (R_load1 T1_88 H fun _ t61 _ _ H => ?_)
      refine vl_n ?_
      refine H_of_R (R_move (v := (e 11)) rfl ?_)
      refine vl_n ?_
      refine H_of_R (R_idx TE_88 H fun t63 H => ?_)
      refine vl_n ?_
      refine H_of_R (R_move (v := (e 2)) rfl ?_)
      refine vl_n ?_
      refine H_of_R (R_move (v := (e 3)) rfl ?_)
      refine vl_n ?_
      refine H_call HB_71 H fun t66 h H => ?_
      refine vl_n ?_
      refine H_of_R (R_not H fun t67 H => ?_)
      refine vl_e ?_
      obtain ⟨b, hc, H1, H2⟩ := H
      refine WPc_cond hc (fun hh => ?_) (fun hh => ?_)
      · have H := H1 hh; clear H1 H2
        refine WPc_seq' ?_
        refine W_region (by kernel_rfl) ?_
        refine vl_n ?_
        refine H_of_R (R_assign (v := (.bool false)) rfl ?_)
        refine vl_e ?_
        refine WPc_ret ?_
        refine resH_of rfl ?_
        exact H
      · have H := H2 hh; clear H1 H2
        refine WPc_skip ?_
        exact ⟨H, hq1⟩
    refine WPc_seq' ?_
    refine W_region (by kernel_rfl) ?_
    refine vl_n ?_
    refine H_of_R (R_move (v := (e1 11)) rfl ?_)
    refine vl_n ?_
    refine H_of_R (R_move (v := (e1 9)) rfl ?_)
    refine vl_n ?_
    refine H_of_R (R_nil H fun t48 H => ?_)
    refine vl_n ?_
    refine H_of_R (R_fld TF_82_2 H fun t49 H => ?_)
    refine vl_n ?_
    refine H_of_R (R_load1 T1_79 H fun _ t50 _ _ H => ?_)
    refine vl_n ?_
    refine H_of_R (R_len Try.underlying79 H fun t51 H => ?_)
    refine vl_n ?_
    refine H_of_R (R_lss H fun t52 H => ?_)
    refine vl_e ?_
    obtain ⟨b, hc, H1, H2⟩ := H
    refine WPc_cond hc (fun hh => ?_) (fun hh => ?_)
    · have H := H1 hh; clear H1 H2
      refine WPc_skip ?_
      exact ⟨H, rfl⟩
    · have H := H2 hh; clear H1 H2
      refine WPc_exit ?_
      exact H
  refine WPc_seq' ?_
  refine W_region (by kernel_rfl) ?_
  refine vl_n ?_
  refine H_of_R (R_move (v := t15) rfl ?_)
  refine vl_n ?_
  refine H_call HB_63 H fun t17 h H => ?_
  refine vl_e ?_
  obtain ⟨b, hc, H1, H2⟩ := H
  refine WPc_cond hc (fun hh => ?_) (fun hh => ?_)
  · have H := H1 hh; clear H1 H2
    refine WPc_seq (fun e h => Map_su_nodeScan.j7 h Q) ?_ (fun e h H => ?_)
    rotate_left
    · unfold Map_su_nodeScan.j7 at H
      refine WPc_seq' ?_
      refine W_region (by kernel_rfl) ?_
      refine vl_n ?_
      refine H_of_R (R_assign (v := (.bool true)) rfl ?_)
      refine vl_e ?_
      refine WPc_ret ?_
      refine resH_of rfl ?_
      exact H
    refine WPc_seq' ?_
    refine W_region (by kernel_rfl) ?_
    refine vl_n ?_
    refine H_of_R (R_assign (v := (.int .i64 0)) rfl ?_)
    refine vl_e ?_
    refine WPc_block ?_
    refine loop_at (fun e => [e 10]) (fun e => [e 2, e 9]) H rfl rfl ?_
    intro K1 e1 h H hin1
    replace H : Map_su_nodeScan.l8.b (e1 2) (e1 9) (e1 10) h K1 Q := H
    unfold Map_su_nodeScan.l8.b at H
    clear hin1
    refine WPc_seq (fun e h => Map_su_nodeScan.j9 (e 2) (e 9) (e 10) h K1 Q ∧ [e1 2, e1 9] = [e 2, e 9]) ?_ (fun e h ⟨H, hq1⟩ => ?_)
    rotate_left
    · unfold Map_su_nodeScan.j9 at H
      refine WPc_seq (fun e h => Map_su_nodeScan.j10 (e 2) (e 9) (e 10) h K1 Q ∧ [e1 2, e1 9] = [e 2, e 9]) ?_ (fun e h ⟨H, hq1⟩ => ?_)
      rotate_left
      · unfold Map_su_nodeScan.j10 at H
        refine W_region (by kernel_rfl) ?_
        refine vl_n ?_
        refine H_of_R (R_move (v := (e 10)) rfl ?_)
        refine vl_n ?_
        refine H_of_R (R_add H fun t26 H => ?_)
        refine vl_n ?_
        refine H_of_R (R_assign (v := t26) rfl ?_)
        refine vl_e ?_
        exact ⟨H, hq1⟩
      refine WPc_block ?_
      refine WPc_seq' ?_
      refine W_drawn [0, 0, 2, 6, 14, 0, 62, 126, 254, 0, 512, 1536, 3584, 0, 15872, 32256, 65024, 131071, 262143] (.take 0 (.take 1 (.take 2 (.take 3 (.take 4 (.take 5 (.take 6 (.take 7 (.take 8 (.take 9 (.take 10 (.take 11 (.take 12 (.take 13 (.take 14 (.take 15 (.take 16 (.alt 17 (.take 18 .done) .none)))))))))))))))))) mixed (by kernel_rfl) ?_
      refine tkP rfl ?_
      refine R_move (v := (e 2)) rfl ⟨fun _ => trivial, ?_⟩
      refine tkP rfl ?_
      refine R_move (v := (e 9)) rfl ⟨fun _ => trivial, ?_⟩
      refine tkP rfl ?_
      refine R_nil H fun t29 H => ⟨fun _ => trivial, ?_⟩
      refine tkP rfl ?_
      refine R_fld TF_82_2 H fun t30 H => ⟨fun _ => trivial, ?_⟩
      refine tkL rfl ?_
      refine R_load1 T1_79 H fun at31 t31 hat31 _ H => ?_
      refine tkP rfl ?_
      refine R_move (v := (e 10)) rfl ⟨fun _ => trivial, ?_⟩
      refine tkP rfl ?_
      refine R_idx TE_79 H fun t33 H => ⟨fun _ => trivial, ?_⟩
      refine tkP rfl ?_
      refine R_fld TF_61_1 H fun t34 H => ⟨fun _ => trivial, ?_⟩
      refine tkL rfl ?_
      refine R_load1 T1_9 H fun at35 t35 hat35 _ H => ?_
      refine tkP rfl ?_
      refine R_move (v := (e 9)) rfl ⟨fun _ => trivial, ?_⟩
      refine tkP rfl ?_
      refine R_nil H fun t37 H => ⟨fun _ => trivial, ?_⟩
      refine tkP rfl ?_
      refine R_fld TF_82_2 H fun t38 H => ⟨fun _ => trivial, ?_⟩
      refine tkL rfl ?_
      refine R_load1 T1_79 H fun at39 t39 hat39 _ H => ?_
      refine tkP rfl ?_
      refine R_move (v := (e 10)) rfl ⟨fun _ => trivial, ?_⟩
      refine tkP rfl ?_
      refine R_idx TE_79 H fun t41 H => ⟨fun _ => trivial, ?_⟩
      refine tkL rfl ?_
      refine R_fldZ TFZ_61_0 H fun t42 H _ => ?_
      refine tkL rfl ?_
      refine R_loadN TN_59 H fun at43 xt43 hat43 _ H St43 hSt43 => ?_
      refine alt_n rfl ?_ vp_none
      refine H_callV H fun t44 h H => ⟨(hskip rfl (hskip rfl (hskip rfl (hskip rfl (hskip rfl hnil))))), ?_⟩
      refine tkP rfl ?_
      refine R_not H fun t45 H => ⟨fun _ => trivial, ?_⟩
      refine vp_done ?_
      obtain ⟨b, hc, H1, H2⟩ := H
      refine WPc_cond hc (fun hh => ?_) (fun hh => ?_)
      · have H := H1 hh; clear H1 H2
        refine WPc_seq' ?_
        refine W_region (by kernel_rfl) ?_
        refine vl_n ?_
        refine H_of_R (R_assign (v := (.bool false)) rfl ?_)
        refine vl_e ?_
        refine WPc_ret ?_
        refine resH_of rfl ?_
        exact H
      · have H := H2 hh; clear H1 H2
        refine WPc_skip ?_
        exact ⟨H, hq1⟩
    refine WPc_seq' ?_
    refine W_region (by kernel_rfl) ?_
    refine vl_n ?_
    refine H_of_R (R_move (v := (e1 10)) rfl ?_)
    refine vl_n ?_
    refine H_of_R (R_move (v := (e1 9)) rfl ?_)
    refine vl_n ?_
    refine H_of_R (R_nil H fun t20 H => ?_)
    refine vl_n ?_
    refine H_of_R (R_fld TF_82_2 H fun t21 H => ?_)
    refine vl_n ?_
    refine H_of_R (R_load1 T1_79 H fun _ t22 _ _ H => ?_)
    refine vl_n ?_
    refine H_of_R (R_len Try.underlying79 H fun t23 H => ?_)
    refine vl_n ?_
    refine H_of_R (R_lss H fun t24 H => ?_)
    refine vl_e ?_
    obtain ⟨b, hc, H1, H2⟩ := H
    refine WPc_cond hc (fun hh => ?_) (fun hh => ?_)
    · have H := H1 hh; clear H1 H2
      refine WPc_skip ?_
      exact ⟨H, rfl⟩
    · have H := H2 hh; clear H1 H2
      refine WPc_exit ?_
      exact H
  · have H := H2 hh; clear H1 H2
    refine WPc_skip ?_
    exact H

end Go.Proofs.Ytfojeibloilneaa
