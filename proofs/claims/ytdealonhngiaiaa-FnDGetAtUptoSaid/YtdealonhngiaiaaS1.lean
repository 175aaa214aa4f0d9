/-
  Shallow forms of the walked functions, and that each call comes to its form. Written by a program of this repo (gen.py). Conditions: none.
-/
import Derived.Test.YtdealonhngiaiaaST
namespace Go.Proofs.Ytdealonhngiaiaa
open Go.Hp
set_option maxRecDepth 100000
set_option maxHeartbeats 8000000
set_option linter.unusedVariables false
set_option linter.unusedSimpArgs false

/-! ### (*pub/tidwallbtree.Map[int, int]).nodeKeyValues -/
def Map_ii_nodeKeyValues.j2 (s0 : Value) (s2 : Value) (s3 : Value) (s4 : Value) (s12 : Value) (h : Heap) (Q : Value → Heap → Prop) : Prop :=
    nilck s12 fun t103 =>
    fld 3 t103 fun t104 =>
    load1 t104 h fun t105 =>
    nilck t105 fun t106 =>
    load1 t106 h fun t107 =>
    nilck s12 fun t109 =>
    fld 3 t109 fun t110 =>
    load1 t110 h fun t111 =>
    nilck t111 fun t112 =>
    load1 t112 h fun t113 =>
    lenV t113 fun t114 =>
    arith (· - ·) t114 (.int .i64 1) fun t115 =>
    idx 1 t107 t115 fun t116 =>
    Map_ii_nodeKeyValues.call #[s0, t116, s2, s3, s4] h fun t120 h =>
    extr 0 t120 fun t121 =>
    extr 1 t120 fun t122 =>
    Q (.tuple #[t121, t122]) h
def Map_ii_nodeKeyValues.j5 (s0 : Value) (s2 : Value) (s3 : Value) (s4 : Value) (s12 : Value) (s14 : Value) (h : Heap) (K1 : List Value → Heap → Prop) (Q : Value → Heap → Prop) : Prop :=
    arith (· + ·) s14 (.int .i64 1) fun t62 =>
    K1 [s2, s3, t62] h
def Map_ii_nodeKeyValues.j4 (s0 : Value) (s2 : Value) (s3 : Value) (s4 : Value) (s12 : Value) (s14 : Value) (h : Heap) (K1 : List Value → Heap → Prop) (Q : Value → Heap → Prop) : Prop :=
    nilck s12 fun t66 =>
    fld 3 t66 fun t67 =>
    load1 t67 h fun t68 =>
    nilck t68 fun t69 =>
    load1 t69 h fun t70 =>
    idx 1 t70 s14 fun t72 =>
    Map_ii_nodeKeyValues.call #[s0, t72, s2, s3, s4] h fun t76 h =>
    extr 0 t76 fun t77 =>
    extr 1 t76 fun t78 =>
    nilck s12 fun t81 =>
    fld 2 t81 fun t82 =>
    load1 t82 h fun t83 =>
    idx 2 t83 s14 fun t85 =>
    fld 1 t85 fun t86 =>
    load1 t86 h fun t87 =>
    mkSl (if 1 * 1 = 0 then [] else zeros [(.int .i64 0)] 1) 1 [(0 * 1, 1, t87)] 3 h fun t88 h =>
    app 3 1 8 [(.int .i64 0)] t77 t88 h fun t89 h =>
    nilck s12 fun t92 =>
    fld 2 t92 fun t93 =>
    load1 t93 h fun t94 =>
    idx 2 t94 s14 fun t96 =>
    fld 0 t96 fun t97 =>
    load1 t97 h fun t98 =>
    mkSl (if 1 * 1 = 0 then [] else zeros [(.int .i64 0)] 1) 1 [(0 * 1, 1, t98)] 3 h fun t99 h =>
    app 3 1 8 [(.int .i64 0)] t78 t99 h fun t100 h =>
    Map_ii_nodeKeyValues.j5 s0 t89 t100 s4 s12 s14 h K1 Q
def Map_ii_nodeKeyValues.l3.b (c0 : Value) (c4 : Value) (c12 : Value) (s2 : Value) (s3 : Value) (s14 : Value) (h : Heap) (K1 : List Value → Heap → Prop) (Q : Value → Heap → Prop) : Prop :=
    nilck c12 fun t56 =>
    fld 2 t56 fun t57 =>
    load1 t57 h fun t58 =>
    lenV t58 fun t59 =>
    cmpI (fun a b => decide (a < b)) s14 t59 fun t60 =>
    ifV t60
    (Map_ii_nodeKeyValues.j4 c0 s2 s3 c4 c12 s14 h K1 Q)
    (Map_ii_nodeKeyValues.j2 c0 s2 s3 c4 c12 h Q)
def Map_ii_nodeKeyValues.j1 (s0 : Value) (s2 : Value) (s3 : Value) (s4 : Value) (s12 : Value) (h : Heap) (Q : Value → Heap → Prop) : Prop :=
    loopC (fun c s h K1 => Map_ii_nodeKeyValues.l3.b (c.getD 0 undef) (c.getD 1 undef) (c.getD 2 undef) (s.getD 0 undef) (s.getD 1 undef) (s.getD 2 undef) h K1 Q) [s0, s4, s12] [s2, s3, (.int .i64 0)] h
def Map_ii_nodeKeyValues.j6 (s2 : Value) (s3 : Value) (h : Heap) (Q : Value → Heap → Prop) : Prop :=
    Q (.tuple #[s2, s3]) h
def Map_ii_nodeKeyValues.j9 (s2 : Value) (s3 : Value) (s12 : Value) (s13 : Value) (h : Heap) (K1 : List Value → Heap → Prop) (Q : Value → Heap → Prop) : Prop :=
    arith (· + ·) s13 (.int .i64 1) fun t29 =>
    K1 [s2, s3, t29] h
def Map_ii_nodeKeyValues.j8 (s2 : Value) (s3 : Value) (s12 : Value) (s13 : Value) (h : Heap) (K1 : List Value → Heap → Prop) (Q : Value → Heap → Prop) : Prop :=
    nilck s12 fun t32 =>
    fld 2 t32 fun t33 =>
    load1 t33 h fun t34 =>
    idx 2 t34 s13 fun t36 =>
    fld 1 t36 fun t37 =>
    load1 t37 h fun t38 =>
    mkSl (if 1 * 1 = 0 then [] else zeros [(.int .i64 0)] 1) 1 [(0 * 1, 1, t38)] 3 h fun t39 h =>
    app 3 1 8 [(.int .i64 0)] s2 t39 h fun t40 h =>
    nilck s12 fun t43 =>
    fld 2 t43 fun t44 =>
    load1 t44 h fun t45 =>
    idx 2 t45 s13 fun t47 =>
    fld 0 t47 fun t48 =>
    load1 t48 h fun t49 =>
    mkSl (if 1 * 1 = 0 then [] else zeros [(.int .i64 0)] 1) 1 [(0 * 1, 1, t49)] 3 h fun t50 h =>
    app 3 1 8 [(.int .i64 0)] s3 t50 h fun t51 h =>
    Map_ii_nodeKeyValues.j9 t40 t51 s12 s13 h K1 Q
def Map_ii_nodeKeyValues.l7.b (c12 : Value) (s2 : Value) (s3 : Value) (s13 : Value) (h : Heap) (K1 : List Value → Heap → Prop) (Q : Value → Heap → Prop) : Prop :=
    nilck c12 fun t23 =>
    fld 2 t23 fun t24 =>
    load1 t24 h fun t25 =>
    lenV t25 fun t26 =>
    cmpI (fun a b => decide (a < b)) s13 t26 fun t27 =>
    ifV t27
    (Map_ii_nodeKeyValues.j8 s2 s3 c12 s13 h K1 Q)
    (Map_ii_nodeKeyValues.j6 s2 s3 h Q)
def Map_ii_nodeKeyValues.sh (a0 : Value) (a1 : Value) (a2 : Value) (a3 : Value) (a4 : Value) (h : Heap) (Q : Value → Heap → Prop) : Prop :=
    Map_ii_isoLoad.call #[a0, a1, a4] h fun t18 h =>
    mapNode_ii_leaf.call #[t18] h fun t20 h =>
    ifV t20
    (loopC (fun c s h K1 => Map_ii_nodeKeyValues.l7.b (c.getD 0 undef) (s.getD 0 undef) (s.getD 1 undef) (s.getD 2 undef) h K1 Q) [t18] [a2, a3, (.int .i64 0)] h)
    (Map_ii_nodeKeyValues.j1 a0 a2 a3 a4 t18 h Q)
theorem Map_ii_nodeKeyValues.body (a0 : Value) (a1 : Value) (a2 : Value) (a3 : Value) (a4 : Value) (h : Heap) (Q : Value → Heap → Prop) (H : Map_ii_nodeKeyValues.sh a0 a1 a2 a3 a4 h Q) : Map_ii_nodeKeyValues.call #[a0, a1, a2, a3, a4] h Q := by
  refine callsH_of (args := [a0, a1, a2, a3, a4]) Try.func92 rfl rfl ?_
  unfold Map_ii_nodeKeyValues.sh at H
  refine WPc_seq' ?_
  refine W_region (by kernel_rfl) ?_
  refine vl_n ?_
  refine H_of_R (R_assign (v := (.slice none 0 0)) rfl ?_)
  refine vl_n ?_
  refine H_of_R (R_assign (v := (.slice none 0 0)) rfl ?_)
  refine vl_e ?_
  refine WPc_seq' ?_
  refine W_region (by kernel_rfl) ?_
  refine vl_n ?_
  refine H_of_R (R_move (v := a0) rfl ?_)
  refine vl_n ?_
  refine H_of_R (R_move (v := a1) rfl ?_)
  refine vl_n ?_
  refine H_of_R (R_move (v := a4) rfl ?_)
  refine vl_n ?_
  refine H_call HB_77 H fun t18 h H => ?_
  refine vl_n ?_
  refine H_of_R (R_assign (v := t18) rfl ?_)
  refine vl_e ?_
  refine WPc_seq (fun e h => Map_ii_nodeKeyValues.j1 (e 0) (e 2) (e 3) (e 4) (e 12) h Q) ?_ (fun e h H => ?_)
  rotate_left
  · unfold Map_ii_nodeKeyValues.j1 at H
    refine WPc_seq (fun e h => Map_ii_nodeKeyValues.j2 (e 0) (e 2) (e 3) (e 4) (e 12) h Q) ?_ (fun e h H => ?_)
    rotate_left
    · unfold Map_ii_nodeKeyValues.j2 at H
      refine WPc_seq' ?_
      refine W_drawn [0, 0, 2, 6, 14, 30, 62, 0, 128, 384, 896, 1920, 3968, 8064, 16256, 32766, 0, 0, 0, 524287, 1048575, 1048575, 4194303, 8388607] (.take 0 (.take 1 (.take 2 (.take 3 (.take 4 (.take 5 (.take 6 (.take 7 (.take 8 (.take 9 (.take 10 (.take 11 (.take 12 (.take 13 (.take 14 (.take 15 (.take 16 (.take 17 (.take 18 (.alt 19 (.take 20 (.take 21 (.take 22 (.take 23 .done)))) .none)))))))))))))))))))) mixed (by kernel_rfl) ?_
      refine tkP rfl ?_
      refine R_move (v := (e 0)) rfl ⟨fun _ => trivial, ?_⟩
      refine tkP rfl ?_
      refine R_move (v := (e 12)) rfl ⟨fun _ => trivial, ?_⟩
      refine tkP rfl ?_
      refine R_nil H fun t103 H => ⟨fun _ => trivial, ?_⟩
      refine tkP rfl ?_
      refine R_fld TF_105_3 H fun t104 H => ⟨fun _ => trivial, ?_⟩
      refine tkL rfl ?_
      refine R_load1 T1_103 H fun at105 t105 hat105 _ H => ?_
      refine tkP rfl ?_
      refine R_nil H fun t106 H => ⟨fun _ => trivial, ?_⟩
      refine tkL rfl ?_
      refine R_load1 T1_111 H fun at107 t107 hat107 _ H => ?_
      refine tkP rfl ?_
      refine R_move (v := (e 12)) rfl ⟨fun _ => trivial, ?_⟩
      refine tkP rfl ?_
      refine R_nil H fun t109 H => ⟨fun _ => trivial, ?_⟩
      refine tkP rfl ?_
      refine R_fld TF_105_3 H fun t110 H => ⟨fun _ => trivial, ?_⟩
      refine tkL rfl ?_
      refine R_load1 T1_103 H fun at111 t111 hat111 _ H => ?_
      refine tkP rfl ?_
      refine R_nil H fun t112 H => ⟨fun _ => trivial, ?_⟩
      refine tkL rfl ?_
      refine R_load1 T1_111 H fun at113 t113 hat113 _ H => ?_
      refine tkP rfl ?_
      refine R_len Try.underlying111 H fun t114 H => ⟨fun _ => trivial, ?_⟩
      refine tkP rfl ?_
      refine R_sub H fun t115 H => ⟨fun _ => trivial, ?_⟩
      refine tkP rfl ?_
      refine R_idx TE_111 H fun t116 H => ⟨fun _ => trivial, ?_⟩
      refine tkP rfl ?_
      refine R_move (v := (e 2)) rfl ⟨fun _ => trivial, ?_⟩
      refine tkP rfl ?_
      refine R_move (v := (e 3)) rfl ⟨fun _ => trivial, ?_⟩
      refine tkP rfl ?_
      refine R_move (v := (e 4)) rfl ⟨fun _ => trivial, ?_⟩
      refine alt_n rfl ?_ vp_none
      refine H_call HB_92 H fun t120 h H => ⟨(hskip rfl (hskip rfl (hskip rfl (hskip rfl hnil)))), ?_⟩
      refine tkP rfl ?_
      refine R_ext H fun t121 H => ⟨fun _ => trivial, ?_⟩
      refine tkP rfl ?_
      refine R_ext H fun t122 H => ⟨fun _ => trivial, ?_⟩
      refine tkP rfl ?_
      refine R_assign (v := t121) rfl ⟨fun _ => trivial, ?_⟩
      refine tkP rfl ?_
      refine R_assign (v := t122) rfl ⟨fun _ => trivial, ?_⟩
      refine vp_done ?_
      refine WPc_ret ?_
      refine resH_of rfl ?_
      exact H
    refine WPc_seq' ?_
    refine W_region (by kernel_rfl) ?_
    refine vl_n ?_
    refine H_of_R (R_assign (v := (.int .i64 0)) rfl ?_)
    refine vl_e ?_
    refine WPc_block ?_
    refine loop_at (fun e => [e 2, e 3, e 14]) (fun e => [e 0, e 4, e 12]) H rfl rfl ?_
    intro K1 e1 h H hin1
    replace H : Map_ii_nodeKeyValues.l3.b (e1 0) (e1 4) (e1 12) (e1 2) (e1 3) (e1 14) h K1 Q := H
    unfold Map_ii_nodeKeyValues.l3.b at H
    clear hin1
    refine WPc_seq (fun e h => Map_ii_nodeKeyValues.j4 (e 0) (e 2) (e 3) (e 4) (e 12) (e 14) h K1 Q ∧ [e1 0, e1 4, e1 12] = [e 0, e 4, e 12]) ?_ (fun e h ⟨H, hq1⟩ => ?_)
    rotate_left
    · unfold Map_ii_nodeKeyValues.j4 at H
      refine WPc_seq (fun e h => Map_ii_nodeKeyValues.j5 (e 0) (e 2) (e 3) (e 4) (e 12) (e 14) h K1 Q ∧ [e1 0, e1 4, e1 12] = [e 0, e 4, e 12]) ?_ (fun e h ⟨H, hq1⟩ => ?_)
      rotate_left
      · unfold Map_ii_nodeKeyValues.j5 at H
        refine W_region (by kernel_rfl) ?_
        refine vl_n ?_
        refine H_of_R (R_move (v := (e 14)) rfl ?_)
        refine vl_n ?_
        refine H_of_R (R_add H fun t62 H => ?_)
        refine vl_n ?_
        refine H_of_R (R_assign (v := t62) rfl ?_)
        refine vl_e ?_
        exact ⟨H, hq1⟩
      refine WPc_block ?_
      refine WPc_seq' ?_
      refine W_region (by kernel_rfl) ?_
      refine vl_n ?_
      refine H_of_R (R_move (v := (e 0)) rfl ?_)
      refine vl_n ?_
      refine H_of_R (R_move (v := (e 12)) rfl ?_)
      refine vl_n ?_
      refine H_of_R (R_nil H fun t66 H => ?_)
      refine vl_n ?_
      refine H_of_R (R_fld TF_105_3 H fun t67 H => ?_)
      refine vl_n ?_
      refine H_of_R (R_load1 T1_103 H fun _ t68 _ _ H => ?_)
      refine vl_n ?_
      refine H_of_R (R_nil H fun t69 H => ?_)
      refine vl_n ?_
      refine H_of_R (R_load1 T1_111 H fun _ t70 _ _ H => ?_)
      refine vl_n ?_
      refine H_of_R (R_move (v := (e 14)) rfl ?_)
      refine vl_n ?_
      refine H_of_R (R_idx TE_111 H fun t72 H => ?_)
      refine vl_n ?_
      refine H_of_R (R_move (v := (e 2)) rfl ?_)
      refine vl_n ?_
      refine H_of_R (R_move (v := (e 3)) rfl ?_)
      refine vl_n ?_
      refine H_of_R (R_move (v := (e 4)) rfl ?_)
      refine vl_n ?_
      refine H_call HB_92 H fun t76 h H => ?_
      refine vl_n ?_
      refine H_of_R (R_move (v := t76) rfl ?_)
      refine vl_n ?_
      refine H_of_R (R_ext H fun t77 H => ?_)
      refine vl_n ?_
      refine H_of_R (R_ext H fun t78 H => ?_)
      refine vl_n ?_
      refine H_of_R (R_assign (v := t77) rfl ?_)
      refine vl_n ?_
      refine H_of_R (R_assign (v := t78) rfl ?_)
      refine vl_e ?_
      refine WPc_seq' ?_
      refine W_region (by kernel_rfl) ?_
      refine vl_n ?_
      refine H_of_R (R_move (v := t77) rfl ?_)
      refine vl_n ?_
      refine H_of_R (R_move (v := (e 12)) rfl ?_)
      refine vl_n ?_
      refine H_of_R (R_nil H fun t81 H => ?_)
      refine vl_n ?_
      refine H_of_R (R_fld TF_105_2 H fun t82 H => ?_)
      refine vl_n ?_
      refine H_of_R (R_load1 T1_102 H fun _ t83 _ _ H => ?_)
      refine vl_n ?_
      refine H_of_R (R_move (v := (e 14)) rfl ?_)
      refine vl_n ?_
      refine H_of_R (R_idx TE_102 H fun t85 H => ?_)
      refine vl_n ?_
      refine H_of_R (R_fld TF_90_1 H fun t86 H => ?_)
      refine vl_n ?_
      refine H_of_R (R_load1 T1_3 H fun _ t87 _ _ H => ?_)
      refine vl_n ?_
      refine H_mkSl TZ_47 (by decide) rfl H rfl fun t88 h H => ?_
      refine vl_n ?_
      refine H_app TZ_47 TU_47 H fun t89 h H => ?_
      refine vl_n ?_
      refine H_of_R (R_assign (v := t89) rfl ?_)
      refine vl_e ?_
      refine W_region (by kernel_rfl) ?_
      refine vl_n ?_
      refine H_of_R (R_move (v := t78) rfl ?_)
      refine vl_n ?_
      refine H_of_R (R_move (v := (e 12)) rfl ?_)
      refine vl_n ?_
      refine H_of_R (R_nil H fun t92 H => ?_)
      refine vl_n ?_
      refine H_of_R (R_fld TF_105_2 H fun t93 H => ?_)
      refine vl_n ?_
      refine H_of_R (R_load1 T1_102 H fun _ t94 _ _ H => ?_)
      refine vl_n ?_
      refine H_of_R (R_move (v := (e 14)) rfl ?_)
      refine vl_n ?_
      refine H_of_R (R_idx TE_102 H fun t96 H => ?_)
      refine vl_n ?_
      refine H_of_R (R_fld TF_90_0 H fun t97 H => ?_)
      refine vl_n ?_
      refine H_of_R (R_load1 T1_3 H fun _ t98 _ _ H => ?_)
      refine vl_n ?_
      refine H_mkSl TZ_47 (by decide) rfl H rfl fun t99 h H => ?_
      refine vl_n ?_
      refine H_app TZ_47 TU_47 H fun t100 h H => ?_
      refine vl_n ?_
      refine H_of_R (R_assign (v := t100) rfl ?_)
      refine vl_e ?_
      exact ⟨H, hq1⟩
    refine WPc_seq' ?_
    refine W_region (by kernel_rfl) ?_
    refine vl_n ?_
    refine H_of_R (R_move (v := (e1 14)) rfl ?_)
    refine vl_n ?_
    refine H_of_R (R_move (v := (e1 12)) rfl ?_)
    refine vl_n ?_
    refine H_of_R (R_nil H fun t56 H => ?_)
    refine vl_n ?_
    refine H_of_R (R_fld TF_105_2 H fun t57 H => ?_)
    refine vl_n ?_
    refine H_of_R (R_load1 T1_102 H fun _ t58 _ _ H => ?_)
    refine vl_n ?_
    refine H_of_R (R_len Try.underlying102 H fun t59 H => ?_)
    refine vl_n ?_
    refine H_of_R (R_lss H fun t60 H => ?_)
    refine vl_e ?_
    obtain ⟨b, hc, H1, H2⟩ := H
    refine WPc_cond hc (fun hh => ?_) (fun hh => ?_)
    · have H := H1 hh; clear H1 H2
      refine WPc_skip ?_
      exact ⟨H, rfl⟩
    · have H := H2 hh; clear H1 H2
      refine WPc_exit ?_
      exact H
  refine WPc_seq' ?_
  refine W_region (by kernel_rfl) ?_
  refine vl_n ?_
  refine H_of_R (R_move (v := t18) rfl ?_)
  refine vl_n ?_
  refine H_call HB_78 H fun t20 h H => ?_
  refine vl_e ?_
  obtain ⟨b, hc, H1, H2⟩ := H
  refine WPc_cond hc (fun hh => ?_) (fun hh => ?_)
  · have H := H1 hh; clear H1 H2
    refine WPc_seq (fun e h => Map_ii_nodeKeyValues.j6 (e 2) (e 3) h Q) ?_ (fun e h H => ?_)
    rotate_left
    · unfold Map_ii_nodeKeyValues.j6 at H
      refine WPc_seq' ?_
      refine W_region (by kernel_rfl) ?_
      refine vl_n ?_
      refine H_of_R (R_move (v := (e 2)) rfl ?_)
      refine vl_n ?_
      refine H_of_R (R_move (v := (e 3)) rfl ?_)
      refine vl_n ?_
      refine H_of_R (R_assign (v := (e 2)) rfl ?_)
      refine vl_n ?_
      refine H_of_R (R_assign (v := (e 3)) rfl ?_)
      refine vl_e ?_
      refine WPc_ret ?_
      refine resH_of rfl ?_
      exact H
    refine WPc_seq' ?_
    refine W_region (by kernel_rfl) ?_
    refine vl_n ?_
    refine H_of_R (R_assign (v := (.int .i64 0)) rfl ?_)
    refine vl_e ?_
    refine WPc_block ?_
    refine loop_at (fun e => [e 2, e 3, e 13]) (fun e => [e 12]) H rfl rfl ?_
    intro K1 e1 h H hin1
    replace H : Map_ii_nodeKeyValues.l7.b (e1 12) (e1 2) (e1 3) (e1 13) h K1 Q := H
    unfold Map_ii_nodeKeyValues.l7.b at H
    clear hin1
    refine WPc_seq (fun e h => Map_ii_nodeKeyValues.j8 (e 2) (e 3) (e 12) (e 13) h K1 Q ∧ [e1 12] = [e 12]) ?_ (fun e h ⟨H, hq1⟩ => ?_)
    rotate_left
    · unfold Map_ii_nodeKeyValues.j8 at H
      refine WPc_seq (fun e h => Map_ii_nodeKeyValues.j9 (e 2) (e 3) (e 12) (e 13) h K1 Q ∧ [e1 12] = [e 12]) ?_ (fun e h ⟨H, hq1⟩ => ?_)
      rotate_left
      · unfold Map_ii_nodeKeyValues.j9 at H
        refine W_region (by kernel_rfl) ?_
        refine vl_n ?_
        refine H_of_R (R_move (v := (e 13)) rfl ?_)
        refine vl_n ?_
        refine H_of_R (R_add H fun t29 H => ?_)
        refine vl_n ?_
        refine H_of_R (R_assign (v := t29) rfl ?_)
        refine vl_e ?_
        exact ⟨H, hq1⟩
      refine WPc_block ?_
      refine WPc_seq' ?_
      refine W_region (by kernel_rfl) ?_
      refine vl_n ?_
      refine H_of_R (R_move (v := (e 2)) rfl ?_)
      refine vl_n ?_
      refine H_of_R (R_move (v := (e 12)) rfl ?_)
      refine vl_n ?_
      refine H_of_R (R_nil H fun t32 H => ?_)
      refine vl_n ?_
      refine H_of_R (R_fld TF_105_2 H fun t33 H => ?_)
      refine vl_n ?_
      refine H_of_R (R_load1 T1_102 H fun _ t34 _ _ H => ?_)
      refine vl_n ?_
      refine H_of_R (R_move (v := (e 13)) rfl ?_)
      refine vl_n ?_
      refine H_of_R (R_idx TE_102 H fun t36 H => ?_)
      refine vl_n ?_
      refine H_of_R (R_fld TF_90_1 H fun t37 H => ?_)
      refine vl_n ?_
      refine H_of_R (R_load1 T1_3 H fun _ t38 _ _ H => ?_)
      refine vl_n ?_
      refine H_mkSl TZ_47 (by decide) rfl H rfl fun t39 h H => ?_
      refine vl_n ?_
      refine H_app TZ_47 TU_47 H fun t40 h H => ?_
      refine vl_n ?_
      refine H_of_R (R_assign (v := t40) rfl ?_)
      refine vl_e ?_
      refine W_region (by kernel_rfl) ?_
      refine vl_n ?_
      refine H_of_R (R_move (v := (e 3)) rfl ?_)
      refine vl_n ?_
      refine H_of_R (R_move (v := (e 12)) rfl ?_)
      refine vl_n ?_
      refine H_of_R (R_nil H fun t43 H => ?_)
      refine vl_n ?_
      refine H_of_R (R_fld TF_105_2 H fun t44 H => ?_)
      refine vl_n ?_
      refine H_of_R (R_load1 T1_102 H fun _ t45 _ _ H => ?_)
      refine vl_n ?_
      refine H_of_R (R_move (v := (e 13)) rfl ?_)
      refine vl_n ?_
      refine H_of_R (R_idx TE_102 H fun t47 H => ?_)
      refine vl_n ?_
      refine H_of_R (R_fld TF_90_0 H fun t48 H => ?_)
      refine vl_n ?_
      refine H_of_R (R_load1 T1_3 H fun _ t49 _ _ H => ?_)
      refine vl_n ?_
      refine H_mkSl TZ_47 (by decide) rfl H rfl fun t50 h H => ?_
      refine vl_n ?_
      refine H_app TZ_47 TU_47 H fun t51 h H => ?_
      refine vl_n ?_
      refine H_of_R (R_assign (v := t51) rfl ?_)
      refine vl_e ?_
      exact ⟨H, hq1⟩
    refine WPc_seq' ?_
    refine W_region (by kernel_rfl) ?_
    refine vl_n ?_
    refine H_of_R (R_move (v := (e1 13)) rfl ?_)
    refine vl_n ?_
    refine H_of_R (R_move (v := (e1 12)) rfl ?_)
    refine vl_n ?_
    refine H_of_R (R_nil H fun t23 H => ?_)
    refine vl_n ?_
    refine H_of_R (R_fld TF_105_2 H fun t24 H => ?_)
    refine vl_n ?_
    refine H_of_R (R_load1 T1_102 H fun _ t25 _ _ H => ?_)
    refine vl_n ?_
    refine H_of_R (R_len Try.underlying102 H fun t26 H => ?_)
    refine vl_n ?_
    refine H_of_R (R_lss H fun t27 H => ?_)
    refine vl_e ?_
    obtain ⟨b, hc, H1, H2⟩ := H
    refine WPc_cond hc (fun hh => ?_) (fun hh => ?_)
    · have H := H1 hh; clear H1 H2
      refine WPc_skip ?_
      exact ⟨H, rfl⟩
    · have H := H2 hh; clear H1 H2
      refine WPc_exit ?_
      exact H
  · have H := H2 hh; clear H1 H2
    refine WPc_skip ?_
    exact H
/-! ### (*pub/tidwallbtree.Map[int, int]).keyValues -/
def Map_ii_keyValues.j1 (s6 : Value) (s7 : Value) (h : Heap) (Q : Value → Heap → Prop) : Prop :=
    Q (.tuple #[s6, s7]) h
def Map_ii_keyValues.sh (a0 : Value) (a1 : Value) (h : Heap) (Q : Value → Heap → Prop) : Prop :=
    Map_ii_Len.call #[a0] h fun t9 h =>
    mks 3 1 8 [(.int .i64 0)] (.int .i64 0) t9 h fun t10 h =>
    Map_ii_Len.call #[a0] h fun t12 h =>
    mks 3 1 8 [(.int .i64 0)] (.int .i64 0) t12 h fun t13 h =>
    nilck a0 fun t15 =>
    fld 2 t15 fun t16 =>
    load1 t16 h fun t17 =>
    neNilP t17 fun t18 =>
    ifV t18
    (nilck a0 fun t22 =>
    fld 2 t22 fun t23 =>
    Map_ii_nodeKeyValues.call #[a0, t23, t10, t13, a1] h fun t27 h =>
    extr 0 t27 fun t28 =>
    extr 1 t27 fun t29 =>
    Map_ii_keyValues.j1 t28 t29 h Q)
    (Map_ii_keyValues.j1 t10 t13 h Q)
theorem Map_ii_keyValues.body (a0 : Value) (a1 : Value) (h : Heap) (Q : Value → Heap → Prop) (H : Map_ii_keyValues.sh a0 a1 h Q) : Map_ii_keyValues.call #[a0, a1] h Q := by
  refine callsH_of (args := [a0, a1]) Try.func80 rfl rfl ?_
  unfold Map_ii_keyValues.sh at H
  refine WPc_seq' ?_
  refine W_region (by kernel_rfl) ?_
  refine vl_n ?_
  refine H_of_R (R_assign (v := (.slice none 0 0)) rfl ?_)
  refine vl_n ?_
  refine H_of_R (R_assign (v := (.slice none 0 0)) rfl ?_)
  refine vl_e ?_
  refine WPc_seq' ?_
  refine W_region (by kernel_rfl) ?_
  refine vl_n ?_
  refine H_of_R (R_move (v := a0) rfl ?_)
  refine vl_n ?_
  refine H_call HB_53 H fun t9 h H => ?_
  refine vl_n ?_
  refine H_mks TZ_47 rfl H fun t10 h H => ?_
  refine vl_n ?_
  refine H_of_R (R_assign (v := t10) rfl ?_)
  refine vl_e ?_
  refine WPc_seq' ?_
  refine W_region (by kernel_rfl) ?_
  refine vl_n ?_
  refine H_of_R (R_move (v := a0) rfl ?_)
  refine vl_n ?_
  refine H_call HB_53 H fun t12 h H => ?_
  refine vl_n ?_
  refine H_mks TZ_47 rfl H fun t13 h H => ?_
  refine vl_n ?_
  refine H_of_R (R_assign (v := t13) rfl ?_)
  refine vl_e ?_
  refine WPc_seq (fun e h => Map_ii_keyValues.j1 (e 6) (e 7) h Q) ?_ (fun e h H => ?_)
  rotate_left
  · unfold Map_ii_keyValues.j1 at H
    refine WPc_seq' ?_
    refine W_region (by kernel_rfl) ?_
    refine vl_n ?_
    refine H_of_R (R_move (v := (e 6)) rfl ?_)
    refine vl_n ?_
    refine H_of_R (R_move (v := (e 7)) rfl ?_)
    refine vl_n ?_
    refine H_of_R (R_assign (v := (e 6)) rfl ?_)
    refine vl_n ?_
    refine H_of_R (R_assign (v := (e 7)) rfl ?_)
    refine vl_e ?_
    refine WPc_ret ?_
    refine resH_of rfl ?_
    exact H
  refine WPc_seq' ?_
  refine W_region (by kernel_rfl) ?_
  refine vl_n ?_
  refine H_of_R (R_move (v := a0) rfl ?_)
  refine vl_n ?_
  refine H_of_R (R_nil H fun t15 H => ?_)
  refine vl_n ?_
  refine H_of_R (R_fld TF_92_2 H fun t16 H => ?_)
  refine vl_n ?_
  refine H_of_R (R_load1 T1_63 H fun _ t17 _ _ H => ?_)
  refine vl_n ?_
  refine H_of_R (R_neNilP Try.underlying63 rfl H fun t18 H => ?_)
  refine vl_e ?_
  obtain ⟨b, hc, H1, H2⟩ := H
  refine WPc_cond hc (fun hh => ?_) (fun hh => ?_)
  · have H := H1 hh; clear H1 H2
    refine W_region (by kernel_rfl) ?_
    refine vl_n ?_
    refine H_of_R (R_move (v := a0) rfl ?_)
    refine vl_n ?_
    refine H_of_R (R_move (v := a0) rfl ?_)
    refine vl_n ?_
    refine H_of_R (R_nil H fun t22 H => ?_)
    refine vl_n ?_
    refine H_of_R (R_fld TF_92_2 H fun t23 H => ?_)
    refine vl_n ?_
    refine H_of_R (R_move (v := t10) rfl ?_)
    refine vl_n ?_
    refine H_of_R (R_move (v := t13) rfl ?_)
    refine vl_n ?_
    refine H_of_R (R_move (v := a1) rfl ?_)
    refine vl_n ?_
    refine H_call HB_92 H fun t27 h H => ?_
    refine vl_n ?_
    refine H_of_R (R_move (v := t27) rfl ?_)
    refine vl_n ?_
    refine H_of_R (R_ext H fun t28 H => ?_)
    refine vl_n ?_
    refine H_of_R (R_ext H fun t29 H => ?_)
    refine vl_n ?_
    refine H_of_R (R_assign (v := t28) rfl ?_)
    refine vl_n ?_
    refine H_of_R (R_assign (v := t29) rfl ?_)
    refine vl_e ?_
    exact H
  · have H := H2 hh; clear H1 H2
    refine WPc_skip ?_
    exact H
/-! ### (*pub/tidwallbtree.Map[int, int]).KeyValues -/
def Map_ii_KeyValues.sh (a0 : Value) (h : Heap) (Q : Value → Heap → Prop) : Prop :=
    Map_ii_keyValues.call #[a0, (.bool false)] h fun t5 h =>
    extr 0 t5 fun t6 =>
    extr 1 t5 fun t7 =>
    Q (.tuple #[t6, t7]) h
theorem Map_ii_KeyValues.body (a0 : Value) (h : Heap) (Q : Value → Heap → Prop) (H : Map_ii_KeyValues.sh a0 h Q) : Map_ii_KeyValues.call #[a0] h Q := by
  refine callsH_of (args := [a0]) Try.func52 rfl rfl ?_
  unfold Map_ii_KeyValues.sh at H
  refine WPc_seq' ?_
  refine W_region (by kernel_rfl) ?_
  refine vl_n ?_
  refine H_of_R (R_assign (v := (.slice none 0 0)) rfl ?_)
  refine vl_n ?_
  refine H_of_R (R_assign (v := (.slice none 0 0)) rfl ?_)
  refine vl_e ?_
  refine WPc_seq' ?_
  refine W_region (by kernel_rfl) ?_
  refine vl_n ?_
  refine H_of_R (R_move (v := a0) rfl ?_)
  refine vl_n ?_
  refine H_call HB_80 H fun t5 h H => ?_
  refine vl_n ?_
  refine H_of_R (R_ext H fun t6 H => ?_)
  refine vl_n ?_
  refine H_of_R (R_ext H fun t7 H => ?_)
  refine vl_n ?_
  refine H_of_R (R_assign (v := t6) rfl ?_)
  refine vl_n ?_
  refine H_of_R (R_assign (v := t7) rfl ?_)
  refine vl_e ?_
  refine WPc_ret ?_
  refine resH_of rfl ?_
  exact H
/-! ### (*pub/tidwallbtree.Map[int, int]).Height -/
def Map_ii_Height.j1 (s3 : Value) (h : Heap) (Q : Value → Heap → Prop) : Prop :=
    Q s3 h
def Map_ii_Height.j3 (s3 : Value) (s4 : Value) (h : Heap) (K1 : List Value → Heap → Prop) (Q : Value → Heap → Prop) : Prop :=
    nilck s4 fun t19 =>
    fld 3 t19 fun t20 =>
    load1 t20 h fun t21 =>
    nilck t21 fun t22 =>
    load1 t22 h fun t23 =>
    idx 1 t23 (.int .i64 0) fun t24 =>
    load1 t24 h fun t25 =>
    K1 [s3, t25] h
def Map_ii_Height.l2.b (s3 : Value) (s4 : Value) (h : Heap) (K1 : List Value → Heap → Prop) (Q : Value → Heap → Prop) : Prop :=
    arith (· + ·) s3 (.int .i64 1) fun t15 =>
    mapNode_ii_leaf.call #[s4] h fun t17 h =>
    ifV t17
    (Map_ii_Height.j1 t15 h Q)
    (Map_ii_Height.j3 t15 s4 h K1 Q)
def Map_ii_Height.sh (a0 : Value) (h : Heap) (Q : Value → Heap → Prop) : Prop :=
    nilck a0 fun t6 =>
    fld 2 t6 fun t7 =>
    load1 t7 h fun t8 =>
    neNilP t8 fun t9 =>
    ifV t9
    (nilck a0 fun t11 =>
    fld 2 t11 fun t12 =>
    load1 t12 h fun t13 =>
    loopC (fun c s h K1 => Map_ii_Height.l2.b (s.getD 0 undef) (s.getD 1 undef) h K1 Q) [] [(.int .i64 0), t13] h)
    (Map_ii_Height.j1 (.int .i64 0) h Q)
theorem Map_ii_Height.body (a0 : Value) (h : Heap) (Q : Value → Heap → Prop) (H : Map_ii_Height.sh a0 h Q) : Map_ii_Height.call #[a0] h Q := by
  refine callsH_of (args := [a0]) Try.func54 rfl rfl ?_
  unfold Map_ii_Height.sh at H
  refine WPc_seq' ?_
  refine W_region (by kernel_rfl) ?_
  refine vl_n ?_
  refine H_of_R (R_assign (v := (.int .i64 0)) rfl ?_)
  refine vl_e ?_
  refine WPc_seq' ?_
  refine W_region (by kernel_rfl) ?_
  refine vl_n ?_
  refine H_of_R (R_assign (v := (.int .i64 0)) rfl ?_)
  refine vl_e ?_
  refine WPc_seq (fun e h => Map_ii_Height.j1 (e 3) h Q) ?_ (fun e h H => ?_)
  rotate_left
  · unfold Map_ii_Height.j1 at H
    refine WPc_seq' ?_
    refine W_region (by kernel_rfl) ?_
    refine vl_n ?_
    refine H_of_R (R_move (v := (e 3)) rfl ?_)
    refine vl_n ?_
    refine H_of_R (R_assign (v := (e 3)) rfl ?_)
    refine vl_e ?_
    refine WPc_ret ?_
    refine resH_of rfl ?_
    exact H
  refine WPc_seq' ?_
  refine W_region (by kernel_rfl) ?_
  refine vl_n ?_
  refine H_of_R (R_move (v := a0) rfl ?_)
  refine vl_n ?_
  refine H_of_R (R_nil H fun t6 H => ?_)
  refine vl_n ?_
  refine H_of_R (R_fld TF_92_2 H fun t7 H => ?_)
  refine vl_n ?_
  refine H_of_R (R_load1 T1_63 H fun _ t8 _ _ H => ?_)
  refine vl_n ?_
  refine H_of_R (R_neNilP Try.underlying63 rfl H fun t9 H => ?_)
  refine vl_e ?_
  obtain ⟨b, hc, H1, H2⟩ := H
  refine WPc_cond hc (fun hh => ?_) (fun hh => ?_)
  · have H := H1 hh; clear H1 H2
    refine WPc_seq' ?_
    refine W_region (by kernel_rfl) ?_
    refine vl_n ?_
    refine H_of_R (R_move (v := a0) rfl ?_)
    refine vl_n ?_
    refine H_of_R (R_nil H fun t11 H => ?_)
    refine vl_n ?_
    refine H_of_R (R_fld TF_92_2 H fun t12 H => ?_)
    refine vl_n ?_
    refine H_of_R (R_load1 T1_63 H fun _ t13 _ _ H => ?_)
    refine vl_n ?_
    refine H_of_R (R_assign (v := t13) rfl ?_)
    refine vl_e ?_
    refine WPc_block ?_
    refine loop_at (fun e => [e 3, e 4]) (fun e => []) H rfl rfl ?_
    intro K1 e1 h H hin1
    replace H : Map_ii_Height.l2.b (e1 3) (e1 4) h K1 Q := H
    unfold Map_ii_Height.l2.b at H
    clear hin1
    refine WPc_block ?_
    refine WPc_seq' ?_
    refine W_region (by kernel_rfl) ?_
    refine vl_n ?_
    refine H_of_R (R_move (v := (e1 3)) rfl ?_)
    refine vl_n ?_
    refine H_of_R (R_add H fun t15 H => ?_)
    refine vl_n ?_
    refine H_of_R (R_assign (v := t15) rfl ?_)
    refine vl_e ?_
    refine WPc_seq (fun e h => Map_ii_Height.j3 (e 3) (e 4) h K1 Q) ?_ (fun e h H => ?_)
    rotate_left
    · unfold Map_ii_Height.j3 at H
      refine W_region (by kernel_rfl) ?_
      refine vl_n ?_
      refine H_of_R (R_move (v := (e 4)) rfl ?_)
      refine vl_n ?_
      refine H_of_R (R_nil H fun t19 H => ?_)
      refine vl_n ?_
      refine H_of_R (R_fld TF_105_3 H fun t20 H => ?_)
      refine vl_n ?_
      refine H_of_R (R_load1 T1_103 H fun _ t21 _ _ H => ?_)
      refine vl_n ?_
      refine H_of_R (R_nil H fun t22 H => ?_)
      refine vl_n ?_
      refine H_of_R (R_load1 T1_111 H fun _ t23 _ _ H => ?_)
      refine vl_n ?_
      refine H_of_R (R_idx TE_111 H fun t24 H => ?_)
      refine vl_n ?_
      refine H_of_R (R_load1 T1_63 H fun _ t25 _ _ H => ?_)
      refine vl_n ?_
      refine H_of_R (R_assign (v := t25) rfl ?_)
      refine vl_e ?_
      exact ⟨H, rfl⟩
    refine WPc_seq' ?_
    refine W_region (by kernel_rfl) ?_
    refine vl_n ?_
    refine H_of_R (R_move (v := (e1 4)) rfl ?_)
    refine vl_n ?_
    refine H_call HB_78 H fun t17 h H => ?_
    refine vl_e ?_
    obtain ⟨b, hc, H1, H2⟩ := H
    refine WPc_cond hc (fun hh => ?_) (fun hh => ?_)
    · have H := H1 hh; clear H1 H2
      refine WPc_exit ?_
      exact H
    · have H := H2 hh; clear H1 H2
      refine WPc_skip ?_
      exact H
  · have H := H2 hh; clear H1 H2
    refine WPc_skip ?_
    exact H
/-! ### impl.DKeyValues -/
def i_DKeyValues.sh (a0 : Value) (a1 : Value) (h : Heap) (Q : Value → Heap → Prop) : Prop :=
    box 34 a1 h fun t3 h =>
    loadN 3 t3 h fun t12 =>
    i_standMap.call #[a0, t12] h fun t13 h =>
    Map_ii_KeyValues.call #[t13] h fun t16 h =>
    extr 0 t16 fun t17 =>
    extr 1 t16 fun t18 =>
    Map_ii_Len.call #[t13] h fun t22 h =>
    Map_ii_Height.call #[t13] h fun t24 h =>
    Q (.tuple #[t17, t18, t22, t24]) h
theorem i_DKeyValues.body (a0 : Value) (a1 : Value) (h : Heap) (Q : Value → Heap → Prop) (H : i_DKeyValues.sh a0 a1 h Q) : i_DKeyValues.call #[a0, a1] h Q := by
  refine callsH_of (args := [a0, a1]) Try.func29 rfl rfl ?_
  unfold i_DKeyValues.sh at H
  refine WPc_seq' ?_
  refine W_region (by kernel_rfl) ?_
  refine vl_n ?_
  refine H_box H fun t3 h H => ?_
  refine vl_n ?_
  refine H_of_R (R_assign (v := (.slice none 0 0)) rfl ?_)
  refine vl_n ?_
  refine H_of_R (R_assign (v := (.slice none 0 0)) rfl ?_)
  refine vl_n ?_
  refine H_of_R (R_assign (v := (.int .i64 0)) rfl ?_)
  refine vl_n ?_
  refine H_of_R (R_assign (v := (.int .i64 0)) rfl ?_)
  refine vl_e ?_
  refine WPc_seq' ?_
  refine W_region (by kernel_rfl) ?_
  refine vl_n ?_
  refine H_of_R (R_move (v := a0) rfl ?_)
  refine vl_n ?_
  refine H_of_R (R_loadN TN_34 H fun _ t12 _ _ H _ _ => ?_)
  refine vl_n ?_
  refine H_call HB_36 H fun t13 h H => ?_
  refine vl_n ?_
  refine H_of_R (R_assign (v := t13) rfl ?_)
  refine vl_e ?_
  refine WPc_seq' ?_
  refine W_region (by kernel_rfl) ?_
  refine vl_n ?_
  refine H_of_R (R_move (v := t13) rfl ?_)
  refine vl_n ?_
  refine H_call HB_52 H fun t16 h H => ?_
  refine vl_n ?_
  refine H_of_R (R_move (v := t16) rfl ?_)
  refine vl_n ?_
  refine H_of_R (R_ext H fun t17 H => ?_)
  refine vl_n ?_
  refine H_of_R (R_ext H fun t18 H => ?_)
  refine vl_n ?_
  refine H_of_R (R_assign (v := t17) rfl ?_)
  refine vl_n ?_
  refine H_of_R (R_assign (v := t18) rfl ?_)
  refine vl_e ?_
  refine WPc_seq' ?_
  refine W_region (by kernel_rfl) ?_
  refine vl_n ?_
  refine H_of_R (R_move (v := t17) rfl ?_)
  refine vl_n ?_
  refine H_of_R (R_move (v := t18) rfl ?_)
  refine vl_n ?_
  refine H_of_R (R_move (v := t13) rfl ?_)
  refine vl_n ?_
  refine H_call HB_53 H fun t22 h H => ?_
  refine vl_n ?_
  refine H_of_R (R_move (v := t13) rfl ?_)
  refine vl_n ?_
  refine H_call HB_54 H fun t24 h H => ?_
  refine vl_n ?_
  refine H_of_R (R_assign (v := t17) rfl ?_)
  refine vl_n ?_
  refine H_of_R (R_assign (v := t18) rfl ?_)
  refine vl_n ?_
  refine H_of_R (R_assign (v := t22) rfl ?_)
  refine vl_n ?_
  refine H_of_R (R_assign (v := t24) rfl ?_)
  refine vl_e ?_
  refine WPc_ret ?_
  refine resH_of rfl ?_
  exact H
/-! ### laws.exNode -/
def l_exNode.sh (h : Heap) (Q : Value → Heap → Prop) : Prop :=
    alloc [(.slice none 0 0), (.slice none 0 0), (.int .i64 0)] 34 h fun t0 h =>
    buildV [(.int .i64 0), (.int .i64 0)] [(0, 1, (.int .i64 4)), (1, 1, (.int .i64 1))] fun t1 =>
    mkSl (if 1 * 2 = 0 then [] else zeros [(.int .i64 0), (.int .i64 0)] 1) 1 [(0 * 2, 2, t1)] 30 h fun t2 h =>
    buildV [(.int .i64 0), (.int .i64 0)] [(0, 1, (.int .i64 2)), (1, 1, (.int .i64 2))] fun t3 =>
    mkSl (if 1 * 2 = 0 then [] else zeros [(.int .i64 0), (.int .i64 0)] 1) 1 [(0 * 2, 2, t3)] 30 h fun t4 h =>
    buildV [(.slice none 0 0), (.slice none 0 0), (.int .i64 0)] [(0, 1, t4)] fun t5 =>
    buildV [(.int .i64 0), (.int .i64 0)] [(0, 1, (.int .i64 6)), (1, 1, (.int .i64 3))] fun t6 =>
    mkSl (if 1 * 2 = 0 then [] else zeros [(.int .i64 0), (.int .i64 0)] 1) 1 [(0 * 2, 2, t6)] 30 h fun t7 h =>
    buildV [(.slice none 0 0), (.slice none 0 0), (.int .i64 0)] [(0, 1, t7)] fun t8 =>
    mkSl (if 2 * 3 = 0 then [] else zeros [(.slice none 0 0), (.slice none 0 0), (.int .i64 0)] 2) 2 [(0 * 3, 3, t5), (1 * 3, 3, t8)] 34 h fun t9 h =>
    buildV [(.slice none 0 0), (.slice none 0 0), (.int .i64 0)] [(0, 1, t2), (1, 1, t9)] fun t10 =>
    storeN 3 t0 t10 h fun h =>
    loadN 3 t0 h fun r0 =>
    Q r0 h
theorem l_exNode.body (h : Heap) (Q : Value → Heap → Prop) (H : l_exNode.sh h Q) : l_exNode.call #[] h Q := by
  refine callsH_of (args := []) Try.func30 rfl rfl ?_
  unfold l_exNode.sh at H
  refine WPc_seq' ?_
  refine W_region (by kernel_rfl) ?_
  refine vl_n ?_
  refine H_alloc TV_34 H fun t0 h H => ?_
  refine vl_e ?_
  refine WPc_seq' ?_
  refine W_region (by kernel_rfl) ?_
  refine vl_n ?_
  refine H_of_R (R_build TB_30 rfl (by decide) H fun t1 H => ?_)
  refine vl_n ?_
  refine H_mkSl TZ_22 (by decide) rfl H rfl fun t2 h H => ?_
  refine vl_n ?_
  refine H_of_R (R_build TB_30 rfl (by decide) H fun t3 H => ?_)
  refine vl_n ?_
  refine H_mkSl TZ_22 (by decide) rfl H rfl fun t4 h H => ?_
  refine vl_n ?_
  refine H_of_R (R_build TB_34 rfl (by decide) H fun t5 H => ?_)
  refine vl_n ?_
  refine H_of_R (R_build TB_30 rfl (by decide) H fun t6 H => ?_)
  refine vl_n ?_
  refine H_mkSl TZ_22 (by decide) rfl H rfl fun t7 h H => ?_
  refine vl_n ?_
  refine H_of_R (R_build TB_34 rfl (by decide) H fun t8 H => ?_)
  refine vl_n ?_
  refine H_mkSl TZ_32 (by decide) rfl H rfl fun t9 h H => ?_
  refine vl_n ?_
  refine H_of_R (R_build TB_34 rfl (by decide) H fun t10 H => ?_)
  refine vl_n ?_
  refine H_storeN TS_34 H fun h H => ?_
  refine vl_e ?_
  refine WPc_ret ?_
  refine resH_of rfl ?_
  refine resL_N TN_34 ?_
  refine loadN_imp H fun r0 H => ?_
  exact H
/-! ### laws.aliveD -/
def l_aliveD.sh (h : Heap) (Q : Value → Heap → Prop) : Prop :=
    l_exNode.call #[] h fun t6 h =>
    i_DKeyValues.call #[(.int .i64 2), t6] h fun t7 h =>
    extr 0 t7 fun t8 =>
    extr 1 t7 fun t9 =>
    extr 2 t7 fun t10 =>
    extr 3 t7 fun t11 =>
    lenV t8 fun t13 =>
    cmpI (fun a b => a == b) t13 (.int .i64 3) fun t14 =>
    br t14 true (lenV t9 fun t17 =>
    cmpI (fun a b => a == b) t17 (.int .i64 3) fun t18 =>
    br t18 true (cmpI (fun a b => a == b) t10 (.int .i64 3) fun t22 =>
    br t22 true (cmpI (fun a b => a == b) t11 (.int .i64 2) fun t26 =>
    Q t26 h) (Q (.bool false) h)) (Q (.bool false) h)) (Q (.bool false) h)
theorem l_aliveD.body (h : Heap) (Q : Value → Heap → Prop) (H : l_aliveD.sh h Q) : l_aliveD.call #[] h Q := by
  refine callsH_of (args := []) Try.func10 rfl rfl ?_
  unfold l_aliveD.sh at H
  refine WPc_seq' ?_
  refine W_region (by kernel_rfl) ?_
  refine vl_n ?_
  refine H_of_R (R_assign (v := (.bool false)) rfl ?_)
  refine vl_e ?_
  refine WPc_seq' ?_
  refine W_region (by kernel_rfl) ?_
  refine vl_n ?_
  refine H_call HB_30 H fun t6 h H => ?_
  refine vl_n ?_
  refine H_call HB_29 H fun t7 h H => ?_
  refine vl_n ?_
  refine H_of_R (R_move (v := t7) rfl ?_)
  refine vl_n ?_
  refine H_of_R (R_ext H fun t8 H => ?_)
  refine vl_n ?_
  refine H_of_R (R_ext H fun t9 H => ?_)
  refine vl_n ?_
  refine H_of_R (R_ext H fun t10 H => ?_)
  refine vl_n ?_
  refine H_of_R (R_ext H fun t11 H => ?_)
  refine vl_n ?_
  refine H_of_R (R_assign (v := t8) rfl ?_)
  refine vl_n ?_
  refine H_of_R (R_assign (v := t9) rfl ?_)
  refine vl_n ?_
  refine H_of_R (R_assign (v := t10) rfl ?_)
  refine vl_n ?_
  refine H_of_R (R_assign (v := t11) rfl ?_)
  refine vl_e ?_
  refine WPc_seq' ?_
  refine W_region (by kernel_rfl) ?_
  refine vl_n ?_
  refine H_of_R (R_move (v := t8) rfl ?_)
  refine vl_n ?_
  refine H_of_R (R_len Try.underlying47 H fun t13 H => ?_)
  refine vl_n ?_
  refine H_of_R (R_eqI H fun t14 H => ?_)
  refine vl_n ?_
  refine H_of_R (R_move (v := t14) rfl ?_)
  obtain ⟨b, hb, H1, H2⟩ := H
  cases b
  · have H := H2 rfl; clear H1 H2
    refine vl_s rfl (nbT hb) ?_
    refine vl_s rfl (nbT hb) ?_
    refine vl_s rfl (nbT hb) ?_
    refine vl_n ?_
    refine H_of_R (R_pickC (v := (.bool false)) false hb rfl ?_)
    refine vl_n ?_
    refine H_of_R (R_move (v := (.bool false)) rfl ?_)
    refine vl_s rfl (nbT rfl) ?_
    refine vl_s rfl (nbT rfl) ?_
    refine vl_n ?_
    refine H_of_R (R_pickC (v := (.bool false)) false rfl rfl ?_)
    refine vl_n ?_
    refine H_of_R (R_move (v := (.bool false)) rfl ?_)
    refine vl_s rfl (nbT rfl) ?_
    refine vl_s rfl (nbT rfl) ?_
    refine vl_n ?_
    refine H_of_R (R_pickC (v := (.bool false)) false rfl rfl ?_)
    refine vl_n ?_
    refine H_of_R (R_assign (v := (.bool false)) rfl ?_)
    refine vl_e ?_
    refine WPc_ret ?_
    refine resH_of rfl ?_
    exact H
  · have H := H1 rfl; clear H1 H2
    refine vl_y rfl hb ?_
    refine H_of_R (R_move (v := t9) rfl ?_)
    refine vl_y rfl hb ?_
    refine H_of_R (R_len Try.underlying47 H fun t17 H => ?_)
    refine vl_y rfl hb ?_
    refine H_of_R (R_eqI H fun t18 H => ?_)
    refine vl_n ?_
    refine H_of_R (R_pickC (v := t18) true hb rfl ?_)
    refine vl_n ?_
    refine H_of_R (R_move (v := t18) rfl ?_)
    obtain ⟨b_2, hb_2, H1, H2⟩ := H
    cases b_2
    · have H := H2 rfl; clear H1 H2
      refine vl_s rfl (nbT hb_2) ?_
      refine vl_s rfl (nbT hb_2) ?_
      refine vl_n ?_
      refine H_of_R (R_pickC (v := (.bool false)) false hb_2 rfl ?_)
      refine vl_n ?_
      refine H_of_R (R_move (v := (.bool false)) rfl ?_)
      refine vl_s rfl (nbT rfl) ?_
      refine vl_s rfl (nbT rfl) ?_
      refine vl_n ?_
      refine H_of_R (R_pickC (v := (.bool false)) false rfl rfl ?_)
      refine vl_n ?_
      refine H_of_R (R_assign (v := (.bool false)) rfl ?_)
      refine vl_e ?_
      refine WPc_ret ?_
      refine resH_of rfl ?_
      exact H
    · have H := H1 rfl; clear H1 H2
      refine vl_y rfl hb_2 ?_
      refine H_of_R (R_move (v := t10) rfl ?_)
      refine vl_y rfl hb_2 ?_
      refine H_of_R (R_eqI H fun t22 H => ?_)
      refine vl_n ?_
      refine H_of_R (R_pickC (v := t22) true hb_2 rfl ?_)
      refine vl_n ?_
      refine H_of_R (R_move (v := t22) rfl ?_)
      obtain ⟨b_3, hb_3, H1, H2⟩ := H
      cases b_3
      · have H := H2 rfl; clear H1 H2
        refine vl_s rfl (nbT hb_3) ?_
        refine vl_s rfl (nbT hb_3) ?_
        refine vl_n ?_
        refine H_of_R (R_pickC (v := (.bool false)) false hb_3 rfl ?_)
        refine vl_n ?_
        refine H_of_R (R_assign (v := (.bool false)) rfl ?_)
        refine vl_e ?_
        refine WPc_ret ?_
        refine resH_of rfl ?_
        exact H
      · have H := H1 rfl; clear H1 H2
        refine vl_y rfl hb_3 ?_
        refine H_of_R (R_move (v := t11) rfl ?_)
        refine vl_y rfl hb_3 ?_
        refine H_of_R (R_eqI H fun t26 H => ?_)
        refine vl_n ?_
        refine H_of_R (R_pickC (v := t26) true hb_3 rfl ?_)
        refine vl_n ?_
        refine H_of_R (R_assign (v := t26) rfl ?_)
        refine vl_e ?_
        refine WPc_ret ?_
        refine resH_of rfl ?_
        exact H
/-! ### (*pub/tidwallbtree.Map[int, int]).search -/
def Map_ii_search.j2 (s8 : Value) (h : Heap) (Q : Value → Heap → Prop) : Prop :=
    Q (.tuple #[s8, (.bool false)]) h
def Map_ii_search.j1 (s1 : Value) (s2 : Value) (s8 : Value) (h : Heap) (Q : Value → Heap → Prop) : Prop :=
    cmpI (fun a b => decide (a > b)) s8 (.int .i64 0) fun t38 =>
    br t38 true (nilck s1 fun t41 =>
    fld 2 t41 fun t42 =>
    load1 t42 h fun t43 =>
    arith (· - ·) s8 (.int .i64 1) fun t45 =>
    idx 2 t43 t45 fun t46 =>
    fld 1 t46 fun t47 =>
    load1 t47 h fun t48 =>
    cmpI (fun a b => decide (a < b)) t48 s2 fun t50 =>
    notV t50 fun t51 =>
    ifV t51
    (arith (· - ·) s8 (.int .i64 1) fun t54 =>
    Q (.tuple #[t54, (.bool true)]) h)
    (Map_ii_search.j2 s8 h Q)) (Map_ii_search.j2 s8 h Q)
def Map_ii_search.j4 (s1 : Value) (s2 : Value) (s8 : Value) (s9 : Value) (h : Heap) (K1 : List Value → Heap → Prop) (Q : Value → Heap → Prop) : Prop :=
    arith (· + ·) s8 s9 fun t21 =>
    divi t21 (.int .i64 2) fun t22 =>
    nilck s1 fun t25 =>
    fld 2 t25 fun t26 =>
    load1 t26 h fun t27 =>
    idx 2 t27 t22 fun t29 =>
    fld 1 t29 fun t30 =>
    load1 t30 h fun t31 =>
    cmpI (fun a b => decide (a < b)) s2 t31 fun t32 =>
    notV t32 fun t33 =>
    ifV t33
    (arith (· + ·) t22 (.int .i64 1) fun t35 =>
    K1 [t35, s9] h)
    (K1 [s8, t22] h)
def Map_ii_search.l3.b (c1 : Value) (c2 : Value) (s8 : Value) (s9 : Value) (h : Heap) (K1 : List Value → Heap → Prop) (Q : Value → Heap → Prop) : Prop :=
    cmpI (fun a b => decide (a < b)) s8 s9 fun t18 =>
    ifV t18
    (Map_ii_search.j4 c1 c2 s8 s9 h K1 Q)
    (Map_ii_search.j1 c1 c2 s8 h Q)
def Map_ii_search.sh (a0 : Value) (a1 : Value) (a2 : Value) (h : Heap) (Q : Value → Heap → Prop) : Prop :=
    nilck a1 fun t12 =>
    fld 2 t12 fun t13 =>
    load1 t13 h fun t14 =>
    lenV t14 fun t15 =>
    loopC (fun c s h K1 => Map_ii_search.l3.b (c.getD 0 undef) (c.getD 1 undef) (s.getD 0 undef) (s.getD 1 undef) h K1 Q) [a1, a2] [(.int .i64 0), t15] h
theorem Map_ii_search.body (a0 : Value) (a1 : Value) (a2 : Value) (h : Heap) (Q : Value → Heap → Prop) (H : Map_ii_search.sh a0 a1 a2 h Q) : Map_ii_search.call #[a0, a1, a2] h Q := by
  refine callsH_of (args := [a0, a1, a2]) Try.func56 rfl rfl ?_
  unfold Map_ii_search.sh at H
  refine WPc_seq' ?_
  refine W_region (by kernel_rfl) ?_
  refine vl_n ?_
  refine H_of_R (R_assign (v := (.int .i64 0)) rfl ?_)
  refine vl_n ?_
  refine H_of_R (R_assign (v := (.bool false)) rfl ?_)
  refine vl_e ?_
  refine WPc_seq' ?_
  refine W_drawn [0, 1, 3, 7, 15, 0, 63] (.take 0 (.take 1 (.take 2 (.take 3 (.take 4 (.take 5 (.take 6 .done))))))) mixed (by kernel_rfl) ?_
  refine tkP rfl ?_
  refine R_move (v := a1) rfl ⟨fun _ => trivial, ?_⟩
  refine tkP rfl ?_
  refine R_nil H fun t12 H => ⟨fun _ => trivial, ?_⟩
  refine tkP rfl ?_
  refine R_fld TF_105_2 H fun t13 H => ⟨fun _ => trivial, ?_⟩
  refine tkL rfl ?_
  refine R_load1 T1_102 H fun at14 t14 hat14 _ H => ?_
  refine tkP rfl ?_
  refine R_len Try.underlying102 H fun t15 H => ⟨fun _ => trivial, ?_⟩
  refine tkP rfl ?_
  refine R_assign (v := (.int .i64 0)) rfl ⟨fun _ => trivial, ?_⟩
  refine tkP rfl ?_
  refine R_assign (v := t15) rfl ⟨fun _ => trivial, ?_⟩
  refine vp_done ?_
  refine WPc_seq (fun e h => Map_ii_search.j1 (e 1) (e 2) (e 8) h Q) ?_ (fun e h H => ?_)
  rotate_left
  · unfold Map_ii_search.j1 at H
    refine WPc_seq (fun e h => Map_ii_search.j2 (e 8) h Q) ?_ (fun e h H => ?_)
    rotate_left
    · unfold Map_ii_search.j2 at H
      refine WPc_seq' ?_
      refine W_region (by kernel_rfl) ?_
      refine vl_n ?_
      refine H_of_R (R_move (v := (e 8)) rfl ?_)
      refine vl_n ?_
      refine H_of_R (R_assign (v := (e 8)) rfl ?_)
      refine vl_n ?_
      refine H_of_R (R_assign (v := (.bool false)) rfl ?_)
      refine vl_e ?_
      refine WPc_ret ?_
      refine resH_of rfl ?_
      exact H
    refine WPc_seq' ?_
    refine W_region (by kernel_rfl) ?_
    refine vl_n ?_
    refine H_of_R (R_move (v := (e 8)) rfl ?_)
    refine vl_n ?_
    refine H_of_R (R_gtr H fun t38 H => ?_)
    refine vl_n ?_
    refine H_of_R (R_move (v := t38) rfl ?_)
    obtain ⟨b, hb, H1, H2⟩ := H
    cases b
    · have H := H2 rfl; clear H1 H2
      refine vl_s rfl (nbT hb) ?_
      refine vl_s rfl (nbT hb) ?_
      refine vl_s rfl (nbT hb) ?_
      refine vl_s rfl (nbT hb) ?_
      refine vl_s rfl (nbT hb) ?_
      refine vl_s rfl (nbT hb) ?_
      refine vl_s rfl (nbT hb) ?_
      refine vl_s rfl (nbT hb) ?_
      refine vl_s rfl (nbT hb) ?_
      refine vl_s rfl (nbT hb) ?_
      refine vl_s rfl (nbT hb) ?_
      refine vl_s rfl (nbT hb) ?_
      refine vl_n ?_
      refine H_of_R (R_pickC (v := (.bool false)) false hb rfl ?_)
      refine vl_e ?_
      refine WPc_cond (t := false) rfl (fun hh => by cases hh) (fun _ => ?_)
      refine WPc_skip ?_
      exact H
    · have H := H1 rfl; clear H1 H2
      refine vl_y rfl hb ?_
      refine H_of_R (R_move (v := (e 1)) rfl ?_)
      refine vl_y rfl hb ?_
      refine H_of_R (R_nil H fun t41 H => ?_)
      refine vl_y rfl hb ?_
      refine H_of_R (R_fld TF_105_2 H fun t42 H => ?_)
      refine vl_y rfl hb ?_
      refine H_of_R (R_load1 T1_102 H fun _ t43 _ _ H => ?_)
      refine vl_y rfl hb ?_
      refine H_of_R (R_move (v := (e 8)) rfl ?_)
      refine vl_y rfl hb ?_
      refine H_of_R (R_sub H fun t45 H => ?_)
      refine vl_y rfl hb ?_
      refine H_of_R (R_idx TE_102 H fun t46 H => ?_)
      refine vl_y rfl hb ?_
      refine H_of_R (R_fld TF_90_1 H fun t47 H => ?_)
      refine vl_y rfl hb ?_
      refine H_of_R (R_load1 T1_3 H fun _ t48 _ _ H => ?_)
      refine vl_y rfl hb ?_
      refine H_of_R (R_move (v := (e 2)) rfl ?_)
      refine vl_y rfl hb ?_
      refine H_of_R (R_lss H fun t50 H => ?_)
      refine vl_y rfl hb ?_
      refine H_of_R (R_not H fun t51 H => ?_)
      refine vl_n ?_
      refine H_of_R (R_pickC (v := t51) true hb rfl ?_)
      refine vl_e ?_
      obtain ⟨b_2, hc, H1, H2⟩ := H
      refine WPc_cond hc (fun hh => ?_) (fun hh => ?_)
      · have H := H1 hh; clear H1 H2
        refine WPc_seq' ?_
        refine W_region (by kernel_rfl) ?_
        refine vl_n ?_
        refine H_of_R (R_move (v := (e 8)) rfl ?_)
        refine vl_n ?_
        refine H_of_R (R_sub H fun t54 H => ?_)
        refine vl_n ?_
        refine H_of_R (R_assign (v := t54) rfl ?_)
        refine vl_n ?_
        refine H_of_R (R_assign (v := (.bool true)) rfl ?_)
        refine vl_e ?_
        refine WPc_ret ?_
        refine resH_of rfl ?_
        exact H
      · have H := H2 hh; clear H1 H2
        refine WPc_skip ?_
        exact H
  refine WPc_block ?_
  refine loop_at (fun e => [e 8, e 9]) (fun e => [e 1, e 2]) H rfl rfl ?_
  intro K1 e1 h H hin1
  replace H : Map_ii_search.l3.b (e1 1) (e1 2) (e1 8) (e1 9) h K1 Q := H
  unfold Map_ii_search.l3.b at H
  clear hin1
  refine WPc_seq (fun e h => Map_ii_search.j4 (e 1) (e 2) (e 8) (e 9) h K1 Q ∧ [e1 1, e1 2] = [e 1, e 2]) ?_ (fun e h ⟨H, hq1⟩ => ?_)
  rotate_left
  · unfold Map_ii_search.j4 at H
    refine WPc_block ?_
    refine WPc_seq' ?_
    refine W_region (by kernel_rfl) ?_
    refine vl_n ?_
    refine H_of_R (R_move (v := (e 8)) rfl ?_)
    refine vl_n ?_
    refine H_of_R (R_move (v := (e 9)) rfl ?_)
    refine vl_n ?_
    refine H_of_R (R_add H fun t21 H => ?_)
    refine vl_n ?_
    refine H_of_R (R_quo H fun t22 H => ?_)
    refine vl_n ?_
    refine H_of_R (R_assign (v := t22) rfl ?_)
    refine vl_e ?_
    refine WPc_seq' ?_
    refine W_region (by kernel_rfl) ?_
    refine vl_n ?_
    refine H_of_R (R_move (v := (e 2)) rfl ?_)
    refine vl_n ?_
    refine H_of_R (R_move (v := (e 1)) rfl ?_)
    refine vl_n ?_
    refine H_of_R (R_nil H fun t25 H => ?_)
    refine vl_n ?_
    refine H_of_R (R_fld TF_105_2 H fun t26 H => ?_)
    refine vl_n ?_
    refine H_of_R (R_load1 T1_102 H fun _ t27 _ _ H => ?_)
    refine vl_n ?_
    refine H_of_R (R_move (v := t22) rfl ?_)
    refine vl_n ?_
    refine H_of_R (R_idx TE_102 H fun t29 H => ?_)
    refine vl_n ?_
    refine H_of_R (R_fld TF_90_1 H fun t30 H => ?_)
    refine vl_n ?_
    refine H_of_R (R_load1 T1_3 H fun _ t31 _ _ H => ?_)
    refine vl_n ?_
    refine H_of_R (R_lss H fun t32 H => ?_)
    refine vl_n ?_
    refine H_of_R (R_not H fun t33 H => ?_)
    refine vl_e ?_
    obtain ⟨b, hc, H1, H2⟩ := H
    refine WPc_cond hc (fun hh => ?_) (fun hh => ?_)
    · have H := H1 hh; clear H1 H2
      refine W_region (by kernel_rfl) ?_
      refine vl_n ?_
      refine H_of_R (R_move (v := t22) rfl ?_)
      refine vl_n ?_
      refine H_of_R (R_add H fun t35 H => ?_)
      refine vl_n ?_
      refine H_of_R (R_assign (v := t35) rfl ?_)
      refine vl_e ?_
      exact ⟨H, hq1⟩
    · have H := H2 hh; clear H1 H2
      refine W_region (by kernel_rfl) ?_
      refine vl_n ?_
      refine H_of_R (R_move (v := t22) rfl ?_)
      refine vl_n ?_
      refine H_of_R (R_assign (v := t22) rfl ?_)
      refine vl_e ?_
      exact ⟨H, hq1⟩
  refine WPc_seq' ?_
  refine W_region (by kernel_rfl) ?_
  refine vl_n ?_
  refine H_of_R (R_move (v := (e1 8)) rfl ?_)
  refine vl_n ?_
  refine H_of_R (R_move (v := (e1 9)) rfl ?_)
  refine vl_n ?_
  refine H_of_R (R_lss H fun t18 H => ?_)
  refine vl_e ?_
  obtain ⟨b, hc, H1, H2⟩ := H
  refine WPc_cond hc (fun hh => ?_) (fun hh => ?_)
  · have H := H1 hh; clear H1 H2
    refine WPc_skip ?_
    exact ⟨H, rfl⟩
  · have H := H2 hh; clear H1 H2
    refine WPc_exit ?_
    exact H
/-! ### (*pub/tidwallbtree.Map[int, int]).DoorSearch -/
def Map_ii_DoorSearch.sh (a0 : Value) (a1 : Value) (a2 : Value) (h : Heap) (Q : Value → Heap → Prop) : Prop :=
    box 65 a1 h fun t4 h =>
    fld 0 t4 fun t9 =>
    load1 t9 h fun t10 =>
    Map_ii_search.call #[a0, t10, a2] h fun t12 h =>
    extr 0 t12 fun t13 =>
    extr 1 t12 fun t14 =>
    Q (.tuple #[t13, t14]) h
theorem Map_ii_DoorSearch.body (a0 : Value) (a1 : Value) (a2 : Value) (h : Heap) (Q : Value → Heap → Prop) (H : Map_ii_DoorSearch.sh a0 a1 a2 h Q) : Map_ii_DoorSearch.call #[a0, a1, a2] h Q := by
  refine callsH_of (args := [a0, a1, a2]) Try.func32 rfl rfl ?_
  unfold Map_ii_DoorSearch.sh at H
  refine WPc_seq' ?_
  refine W_region (by kernel_rfl) ?_
  refine vl_n ?_
  refine H_box H fun t4 h H => ?_
  refine vl_n ?_
  refine H_of_R (R_assign (v := (.int .i64 0)) rfl ?_)
  refine vl_n ?_
  refine H_of_R (R_assign (v := (.bool false)) rfl ?_)
  refine vl_e ?_
  refine WPc_seq' ?_
  refine W_region (by kernel_rfl) ?_
  refine vl_n ?_
  refine H_of_R (R_move (v := a0) rfl ?_)
  refine vl_n ?_
  refine H_of_R (R_fld TF_65_0 H fun t9 H => ?_)
  refine vl_n ?_
  refine H_of_R (R_load1 T1_63 H fun _ t10 _ _ H => ?_)
  refine vl_n ?_
  refine H_of_R (R_move (v := a2) rfl ?_)
  refine vl_n ?_
  refine H_call HB_56 H fun t12 h H => ?_
  refine vl_n ?_
  refine H_of_R (R_ext H fun t13 H => ?_)
  refine vl_n ?_
  refine H_of_R (R_ext H fun t14 H => ?_)
  refine vl_n ?_
  refine H_of_R (R_assign (v := t13) rfl ?_)
  refine vl_n ?_
  refine H_of_R (R_assign (v := t14) rfl ?_)
  refine vl_e ?_
  refine WPc_ret ?_
  refine resH_of rfl ?_
  exact H
/-! ### impl.DSearch -/
def i_DSearch.sh (a0 : Value) (a1 : Value) (a2 : Value) (h : Heap) (Q : Value → Heap → Prop) : Prop :=
    NewMap_ii.call #[a0] h fun t10 h =>
    buildV [(.slice none 0 0), (.slice none 0 0), (.int .i64 0)] [(0, 1, a1)] fun t14 =>
    i_plantedMap.call #[t10, t14] h fun t15 h =>
    Map_ii_DoorSearch.call #[t10, t15, a2] h fun t17 h =>
    extr 0 t17 fun t18 =>
    extr 1 t17 fun t19 =>
    Q (.tuple #[t18, t19]) h
theorem i_DSearch.body (a0 : Value) (a1 : Value) (a2 : Value) (h : Heap) (Q : Value → Heap → Prop) (H : i_DSearch.sh a0 a1 a2 h Q) : i_DSearch.call #[a0, a1, a2] h Q := by
  refine callsH_of (args := [a0, a1, a2]) Try.func11 rfl rfl ?_
  unfold i_DSearch.sh at H
  refine WPc_seq' ?_
  refine W_region (by kernel_rfl) ?_
  refine vl_n ?_
  refine H_of_R (R_assign (v := (.int .i64 0)) rfl ?_)
  refine vl_n ?_
  refine H_of_R (R_assign (v := (.bool false)) rfl ?_)
  refine vl_e ?_
  refine WPc_seq' ?_
  refine W_region (by kernel_rfl) ?_
  refine vl_n ?_
  refine H_of_R (R_move (v := a0) rfl ?_)
  refine vl_n ?_
  refine H_call HB_31 H fun t10 h H => ?_
  refine vl_n ?_
  refine H_of_R (R_assign (v := t10) rfl ?_)
  refine vl_e ?_
  refine WPc_seq' ?_
  refine W_region (by kernel_rfl) ?_
  refine vl_n ?_
  refine H_of_R (R_move (v := t10) rfl ?_)
  refine vl_n ?_
  refine H_of_R (R_move (v := t10) rfl ?_)
  refine vl_n ?_
  refine H_of_R (R_move (v := a1) rfl ?_)
  refine vl_n ?_
  refine H_of_R (R_build TB_34 rfl (by decide) H fun t14 H => ?_)
  refine vl_n ?_
  refine H_call HB_33 H fun t15 h H => ?_
  refine vl_n ?_
  refine H_of_R (R_move (v := a2) rfl ?_)
  refine vl_n ?_
  refine H_call HB_32 H fun t17 h H => ?_
  refine vl_n ?_
  refine H_of_R (R_ext H fun t18 H => ?_)
  refine vl_n ?_
  refine H_of_R (R_ext H fun t19 H => ?_)
  refine vl_n ?_
  refine H_of_R (R_assign (v := t18) rfl ?_)
  refine vl_n ?_
  refine H_of_R (R_assign (v := t19) rfl ?_)
  refine vl_e ?_
  refine WPc_ret ?_
  refine resH_of rfl ?_
  exact H
/-! ### spec.Place -/
def s_Place.j1 (s0 : Value) (s1 : Value) (s5 : Value) (s8 : Value) (h : Heap) (Q : Value → Heap → Prop) : Prop :=
    lenV s1 fun t27 =>
    cmpI (fun a b => decide (a < b)) s8 t27 fun t28 =>
    br t28 true (loadN 2 s5 h fun t31 =>
    idx 2 s1 s8 fun t34 =>
    loadN 2 t34 h fun t35 =>
    s_Before.call #[s0, t31, t35] h fun t36 h =>
    notV t36 fun t37 =>
    Q (.tuple #[s8, t37]) h) (Q (.tuple #[s8, (.bool false)]) h)
def s_Place.j3 (s0 : Value) (s1 : Value) (s5 : Value) (s8 : Value) (h : Heap) (K1 : List Value → Heap → Prop) (Q : Value → Heap → Prop) : Prop :=
    arith (· + ·) s8 (.int .i64 1) fun t23 =>
    K1 [t23] h
def s_Place.l2.b (c0 : Value) (c1 : Value) (c5 : Value) (s8 : Value) (h : Heap) (K1 : List Value → Heap → Prop) (Q : Value → Heap → Prop) : Prop :=
    lenV c1 fun t11 =>
    cmpI (fun a b => decide (a < b)) s8 t11 fun t12 =>
    br t12 true (idx 2 c1 s8 fun t17 =>
    loadN 2 t17 h fun t18 =>
    loadN 2 c5 h fun t19 =>
    s_Before.call #[c0, t18, t19] h fun t20 h =>
    ifV t20
    (s_Place.j3 c0 c1 c5 s8 h K1 Q)
    (s_Place.j1 c0 c1 c5 s8 h Q)) (s_Place.j1 c0 c1 c5 s8 h Q)
def s_Place.sh (a0 : Value) (a1 : Value) (a2 : Value) (h : Heap) (Q : Value → Heap → Prop) : Prop :=
    box 30 a2 h fun t5 h =>
    loopC (fun c s h K1 => s_Place.l2.b (c.getD 0 undef) (c.getD 1 undef) (c.getD 2 undef) (s.getD 0 undef) h K1 Q) [a0, a1, t5] [(.int .i64 0)] h
theorem s_Place.body (a0 : Value) (a1 : Value) (a2 : Value) (h : Heap) (Q : Value → Heap → Prop) (H : s_Place.sh a0 a1 a2 h Q) : s_Place.call #[a0, a1, a2] h Q := by
  refine callsH_of (args := [a0, a1, a2]) Try.func12 rfl rfl ?_
  unfold s_Place.sh at H
  refine WPc_seq' ?_
  refine W_region (by kernel_rfl) ?_
  refine vl_n ?_
  refine H_box H fun t5 h H => ?_
  refine vl_n ?_
  refine H_of_R (R_assign (v := (.int .i64 0)) rfl ?_)
  refine vl_n ?_
  refine H_of_R (R_assign (v := (.bool false)) rfl ?_)
  refine vl_e ?_
  refine WPc_seq' ?_
  refine W_region (by kernel_rfl) ?_
  refine vl_n ?_
  refine H_of_R (R_assign (v := (.int .i64 0)) rfl ?_)
  refine vl_e ?_
  refine WPc_seq (fun e h => s_Place.j1 (e 0) (e 1) (e 5) (e 8) h Q) ?_ (fun e h H => ?_)
  rotate_left
  · unfold s_Place.j1 at H
    refine WPc_seq' ?_
    refine W_drawn [0, 0, 0, 4, 14, 30, 62, 62, 62, 62, 830, 1854, 4094, 8190, 16382, 8191, 65535] (.take 0 (.take 1 (.take 2 (.take 3 (.take 4 (.take 5 (.take 6 (.take 7 (.take 8 (.take 9 (.take 10 (.take 11 (.alt 12 (.take 13 (.take 14 (.take 15 (.take 16 .done)))) .none))))))))))))) mixed (by kernel_rfl) ?_
    refine tkP rfl ?_
    refine R_move (v := (e 8)) rfl ⟨fun _ => trivial, ?_⟩
    refine tkP rfl ?_
    refine R_move (v := (e 8)) rfl ⟨fun _ => trivial, ?_⟩
    refine tkP rfl ?_
    refine R_move (v := (e 1)) rfl ⟨fun _ => trivial, ?_⟩
    refine tkP rfl ?_
    refine R_len Try.underlying22 H fun t27 H => ⟨fun _ => trivial, ?_⟩
    refine tkP rfl ?_
    refine R_lss H fun t28 H => ⟨fun _ => trivial, ?_⟩
    refine tkP rfl ?_
    refine R_move (v := t28) rfl ⟨fun _ => trivial, ?_⟩
    obtain ⟨b, hb, H1, H2⟩ := H
    cases b
    · have H := H2 rfl; clear H1 H2
      refine tk_s rfl rfl (nbT hb) ?_
      refine tk_s rfl rfl (nbT hb) ?_
      refine tk_s rfl rfl (nbT hb) ?_
      refine tk_s rfl rfl (nbT hb) ?_
      refine tk_s rfl rfl (nbT hb) ?_
      refine tk_s rfl rfl (nbT hb) ?_
      refine alt_s rfl rfl (nbT hb) ?_ vp_none
      refine tk_s rfl rfl (nbT hb) ?_
      refine tkP rfl ?_
      refine R_pickC (v := (.bool false)) false hb rfl ⟨fun _ => trivial, ?_⟩
      refine tkP rfl ?_
      refine R_assign (v := (e 8)) rfl ⟨fun _ => trivial, ?_⟩
      refine tkP rfl ?_
      refine R_assign (v := (.bool false)) rfl ⟨fun _ => trivial, ?_⟩
      refine vp_done ?_
      refine WPc_ret ?_
      refine resH_of rfl ?_
      exact H
    · have H := H1 rfl; clear H1 H2
      refine tkPy rfl rfl hb ?_
      refine R_move (v := (e 0)) rfl ⟨fun _ => trivial, ?_⟩
      refine tkLy rfl rfl hb ?_
      refine R_loadN TN_30 H fun at31 xt31 hat31 _ H St31 hSt31 => ?_
      refine tkPy rfl rfl hb ?_
      refine R_move (v := (e 1)) rfl ⟨fun _ => trivial, ?_⟩
      refine tkPy rfl rfl hb ?_
      refine R_move (v := (e 8)) rfl ⟨fun _ => trivial, ?_⟩
      refine tkPy rfl rfl hb ?_
      refine R_idx TE_22 H fun t34 H => ⟨fun _ => trivial, ?_⟩
      refine tkLy rfl rfl hb ?_
      refine R_loadN TN_30 H fun at35 xt35 hat35 _ H St35 hSt35 => ?_
      refine alt_y rfl rfl hb ?_ vp_none
      refine H_call HB_28 H fun t36 h H => ⟨(hskip rfl (hskip rfl hnil)), ?_⟩
      refine tkPy rfl rfl hb ?_
      refine R_not H fun t37 H => ⟨fun _ => trivial, ?_⟩
      refine tkP rfl ?_
      refine R_pickC (v := t37) true hb rfl ⟨fun _ => trivial, ?_⟩
      refine tkP rfl ?_
      refine R_assign (v := (e 8)) rfl ⟨fun _ => trivial, ?_⟩
      refine tkP rfl ?_
      refine R_assign (v := t37) rfl ⟨fun _ => trivial, ?_⟩
      refine vp_done ?_
      refine WPc_ret ?_
      refine resH_of rfl ?_
      exact H
  refine WPc_block ?_
  refine loop_at (fun e => [e 8]) (fun e => [e 0, e 1, e 5]) H rfl rfl ?_
  intro K1 e1 h H hin1
  replace H : s_Place.l2.b (e1 0) (e1 1) (e1 5) (e1 8) h K1 Q := H
  unfold s_Place.l2.b at H
  clear hin1
  refine WPc_seq (fun e h => s_Place.j3 (e 0) (e 1) (e 5) (e 8) h K1 Q ∧ [e1 0, e1 1, e1 5] = [e 0, e 1, e 5]) ?_ (fun e h ⟨H, hq1⟩ => ?_)
  rotate_left
  · unfold s_Place.j3 at H
    refine WPc_block ?_
    refine W_region (by kernel_rfl) ?_
    refine vl_n ?_
    refine H_of_R (R_move (v := (e 8)) rfl ?_)
    refine vl_n ?_
    refine H_of_R (R_add H fun t23 H => ?_)
    refine vl_n ?_
    refine H_of_R (R_assign (v := t23) rfl ?_)
    refine vl_e ?_
    exact ⟨H, hq1⟩
  refine WPc_seq' ?_
  refine W_drawn [0, 0, 2, 7, 15, 31, 31, 31, 223, 479, 31, 2047, 4095] (.take 0 (.take 1 (.take 2 (.take 3 (.take 4 (.take 5 (.take 6 (.take 7 (.take 8 (.take 9 (.take 10 (.alt 11 (.take 12 .done) .none)))))))))))) mixed (by kernel_rfl) ?_
  refine tkP rfl ?_
  refine R_move (v := (e1 8)) rfl ⟨fun _ => trivial, ?_⟩
  refine tkP rfl ?_
  refine R_move (v := (e1 1)) rfl ⟨fun _ => trivial, ?_⟩
  refine tkP rfl ?_
  refine R_len Try.underlying22 H fun t11 H => ⟨fun _ => trivial, ?_⟩
  refine tkP rfl ?_
  refine R_lss H fun t12 H => ⟨fun _ => trivial, ?_⟩
  refine tkP rfl ?_
  refine R_move (v := t12) rfl ⟨fun _ => trivial, ?_⟩
  obtain ⟨b, hb, H1, H2⟩ := H
  cases b
  · have H := H2 rfl; clear H1 H2
    refine tk_s rfl rfl (nbT hb) ?_
    refine tk_s rfl rfl (nbT hb) ?_
    refine tk_s rfl rfl (nbT hb) ?_
    refine tk_s rfl rfl (nbT hb) ?_
    refine tk_s rfl rfl (nbT hb) ?_
    refine tk_s rfl rfl (nbT hb) ?_
    refine alt_s rfl rfl (nbT hb) ?_ vp_none
    refine tkP rfl ?_
    refine R_pickC (v := (.bool false)) false hb rfl ⟨fun _ => trivial, ?_⟩
    refine vp_done ?_
    refine WPc_cond (t := false) rfl (fun hh => by cases hh) (fun _ => ?_)
    refine WPc_exit ?_
    exact H
  · have H := H1 rfl; clear H1 H2
    refine tkPy rfl rfl hb ?_
    refine R_move (v := (e1 0)) rfl ⟨fun _ => trivial, ?_⟩
    refine tkPy rfl rfl hb ?_
    refine R_move (v := (e1 1)) rfl ⟨fun _ => trivial, ?_⟩
    refine tkPy rfl rfl hb ?_
    refine R_move (v := (e1 8)) rfl ⟨fun _ => trivial, ?_⟩
    refine tkPy rfl rfl hb ?_
    refine R_idx TE_22 H fun t17 H => ⟨fun _ => trivial, ?_⟩
    refine tkLy rfl rfl hb ?_
    refine R_loadN TN_30 H fun at18 xt18 hat18 _ H St18 hSt18 => ?_
    refine tkLy rfl rfl hb ?_
    refine R_loadN TN_30 H fun at19 xt19 hat19 _ H St19 hSt19 => ?_
    refine alt_y rfl rfl hb ?_ vp_none
    refine H_call HB_28 H fun t20 h H => ⟨(hskip rfl (hskip rfl hnil)), ?_⟩
    refine tkP rfl ?_
    refine R_pickC (v := t20) true hb rfl ⟨fun _ => trivial, ?_⟩
    refine vp_done ?_
    obtain ⟨b_2, hc, H1, H2⟩ := H
    refine WPc_cond hc (fun hh => ?_) (fun hh => ?_)
    · have H := H1 hh; clear H1 H2
      refine WPc_skip ?_
      exact ⟨H, rfl⟩
    · have H := H2 hh; clear H1 H2
      refine WPc_exit ?_
      exact H
/-! ### laws.FnDSearch -/
def l_FnDSearch.j2 (s0 : Value) (s1 : Value) (s2 : Value) (h : Heap) (Q : Value → Heap → Prop) : Prop :=
    i_DSearch.call #[s0, s1, s2] h fun t27 h =>
    extr 0 t27 fun t28 =>
    extr 1 t27 fun t29 =>
    buildV [(.int .i64 0), (.int .i64 0)] [(0, 1, s2)] fun t33 =>
    s_Place.call #[(.slice none 0 0), s1, t33] h fun t34 h =>
    extr 0 t34 fun t35 =>
    extr 1 t34 fun t36 =>
    cmpI (fun a b => a == b) t28 t35 fun t39 =>
    br t39 true (eqB t29 t36 fun t43 =>
    br t43 true (l_aliveD.call #[] h fun t46 h =>
    Q t46 h) (Q (.bool false) h)) (Q (.bool false) h)
def l_FnDSearch.j1 (s0 : Value) (s1 : Value) (s2 : Value) (h : Heap) (Q : Value → Heap → Prop) : Prop :=
    l_fit.call #[s0] h fun t15 h =>
    notV t15 fun t16 =>
    br t16 false (s_Rising.call #[(.slice none 0 0), s1] h fun t19 h =>
    notV t19 fun t20 =>
    ifV t20
    (l_aliveD.call #[] h fun t22 h =>
    Q t22 h)
    (l_FnDSearch.j2 s0 s1 s2 h Q)) (l_aliveD.call #[] h fun t22_2 h =>
    Q t22_2 h)
def l_FnDSearch.sh (a0 : Value) (a1 : Value) (a2 : Value) (h : Heap) (Q : Value → Heap → Prop) : Prop :=
    lenV a1 fun t12 =>
    cmpI (fun a b => decide (a > b)) t12 (.int .i64 2147483647) fun t13 =>
    ifV t13
    (Q (.bool true) h)
    (l_FnDSearch.j1 a0 a1 a2 h Q)
theorem l_FnDSearch.body (a0 : Value) (a1 : Value) (a2 : Value) (h : Heap) (Q : Value → Heap → Prop) (H : l_FnDSearch.sh a0 a1 a2 h Q) : l_FnDSearch.call #[a0, a1, a2] h Q := by
  refine callsH_of (args := [a0, a1, a2]) Try.func3 rfl rfl ?_
  unfold l_FnDSearch.sh at H
  refine WPc_seq' ?_
  refine W_region (by kernel_rfl) ?_
  refine vl_n ?_
  refine H_of_R (R_assign (v := (.bool false)) rfl ?_)
  refine vl_e ?_
  refine WPc_seq (fun e h => l_FnDSearch.j1 (e 0) (e 1) (e 2) h Q) ?_ (fun e h H => ?_)
  rotate_left
  · unfold l_FnDSearch.j1 at H
    refine WPc_seq (fun e h => l_FnDSearch.j2 (e 0) (e 1) (e 2) h Q) ?_ (fun e h H => ?_)
    rotate_left
    · unfold l_FnDSearch.j2 at H
      refine WPc_seq' ?_
      refine W_region (by kernel_rfl) ?_
      refine vl_n ?_
      refine H_of_R (R_move (v := (e 0)) rfl ?_)
      refine vl_n ?_
      refine H_of_R (R_move (v := (e 1)) rfl ?_)
      refine vl_n ?_
      refine H_of_R (R_move (v := (e 2)) rfl ?_)
      refine vl_n ?_
      refine H_call HB_11 H fun t27 h H => ?_
      refine vl_n ?_
      refine H_of_R (R_move (v := t27) rfl ?_)
      refine vl_n ?_
      refine H_of_R (R_ext H fun t28 H => ?_)
      refine vl_n ?_
      refine H_of_R (R_ext H fun t29 H => ?_)
      refine vl_n ?_
      refine H_of_R (R_assign (v := t28) rfl ?_)
      refine vl_n ?_
      refine H_of_R (R_assign (v := t29) rfl ?_)
      refine vl_e ?_
      refine WPc_seq' ?_
      refine W_region (by kernel_rfl) ?_
      refine vl_n ?_
      refine H_of_R (R_move (v := (e 1)) rfl ?_)
      refine vl_n ?_
      refine H_of_R (R_move (v := (e 2)) rfl ?_)
      refine vl_n ?_
      refine H_of_R (R_build TB_30 rfl (by decide) H fun t33 H => ?_)
      refine vl_n ?_
      refine H_call HB_12 H fun t34 h H => ?_
      refine vl_n ?_
      refine H_of_R (R_move (v := t34) rfl ?_)
      refine vl_n ?_
      refine H_of_R (R_ext H fun t35 H => ?_)
      refine vl_n ?_
      refine H_of_R (R_ext H fun t36 H => ?_)
      refine vl_n ?_
      refine H_of_R (R_assign (v := t35) rfl ?_)
      refine vl_n ?_
      refine H_of_R (R_assign (v := t36) rfl ?_)
      refine vl_e ?_
      refine WPc_seq' ?_
      refine W_region (by kernel_rfl) ?_
      refine vl_n ?_
      refine H_of_R (R_move (v := t28) rfl ?_)
      refine vl_n ?_
      refine H_of_R (R_move (v := t35) rfl ?_)
      refine vl_n ?_
      refine H_of_R (R_eqI H fun t39 H => ?_)
      refine vl_n ?_
      refine H_of_R (R_move (v := t39) rfl ?_)
      obtain ⟨b, hb, H1, H2⟩ := H
      cases b
      · have H := H2 rfl; clear H1 H2
        refine vl_s rfl (nbT hb) ?_
        refine vl_s rfl (nbT hb) ?_
        refine vl_s rfl (nbT hb) ?_
        refine vl_n ?_
        refine H_of_R (R_pickC (v := (.bool false)) false hb rfl ?_)
        refine vl_n ?_
        refine H_of_R (R_move (v := (.bool false)) rfl ?_)
        refine vl_s rfl (nbT rfl) ?_
        refine vl_n ?_
        refine H_of_R (R_pickC (v := (.bool false)) false rfl rfl ?_)
        refine vl_n ?_
        refine H_of_R (R_assign (v := (.bool false)) rfl ?_)
        refine vl_e ?_
        refine WPc_ret ?_
        refine resH_of rfl ?_
        exact H
      · have H := H1 rfl; clear H1 H2
        refine vl_y rfl hb ?_
        refine H_of_R (R_move (v := t29) rfl ?_)
        refine vl_y rfl hb ?_
        refine H_of_R (R_move (v := t36) rfl ?_)
        refine vl_y rfl hb ?_
        refine H_of_R (R_eqB Try.underlying4 H fun t43 H => ?_)
        refine vl_n ?_
        refine H_of_R (R_pickC (v := t43) true hb rfl ?_)
        refine vl_n ?_
        refine H_of_R (R_move (v := t43) rfl ?_)
        obtain ⟨b_2, hb_2, H1, H2⟩ := H
        cases b_2
        · have H := H2 rfl; clear H1 H2
          refine vl_s rfl (nbT hb_2) ?_
          refine vl_n ?_
          refine H_of_R (R_pickC (v := (.bool false)) false hb_2 rfl ?_)
          refine vl_n ?_
          refine H_of_R (R_assign (v := (.bool false)) rfl ?_)
          refine vl_e ?_
          refine WPc_ret ?_
          refine resH_of rfl ?_
          exact H
        · have H := H1 rfl; clear H1 H2
          refine vl_y rfl hb_2 ?_
          refine H_call HB_10 H fun t46 h H => ?_
          refine vl_n ?_
          refine H_of_R (R_pickC (v := t46) true hb_2 rfl ?_)
          refine vl_n ?_
          refine H_of_R (R_assign (v := t46) rfl ?_)
          refine vl_e ?_
          refine WPc_ret ?_
          refine resH_of rfl ?_
          exact H
    refine WPc_seq' ?_
    refine W_region (by kernel_rfl) ?_
    refine vl_n ?_
    refine H_of_R (R_move (v := (e 0)) rfl ?_)
    refine vl_n ?_
    refine H_call HB_8 H fun t15 h H => ?_
    refine vl_n ?_
    refine H_of_R (R_not H fun t16 H => ?_)
    refine vl_n ?_
    refine H_of_R (R_move (v := t16) rfl ?_)
    obtain ⟨b, hb, H1, H2⟩ := H
    cases b
    · have H := H1 rfl; clear H1 H2
      refine vl_y rfl hb ?_
      refine H_of_R (R_move (v := (e 1)) rfl ?_)
      refine vl_y rfl hb ?_
      refine H_call HB_9 H fun t19 h H => ?_
      refine vl_y rfl hb ?_
      refine H_of_R (R_not H fun t20 H => ?_)
      refine vl_n ?_
      refine H_of_R (R_pickC (v := t20) false hb rfl ?_)
      refine vl_e ?_
      obtain ⟨b_2, hc, H1, H2⟩ := H
      refine WPc_cond hc (fun hh => ?_) (fun hh => ?_)
      · have H := H1 hh; clear H1 H2
        refine WPc_seq' ?_
        refine W_region (by kernel_rfl) ?_
        refine vl_n ?_
        refine H_call HB_10 H fun t22 h H => ?_
        refine vl_n ?_
        refine H_of_R (R_assign (v := t22) rfl ?_)
        refine vl_e ?_
        refine WPc_ret ?_
        refine resH_of rfl ?_
        exact H
      · have H := H2 hh; clear H1 H2
        refine WPc_skip ?_
        exact H
    · have H := H2 rfl; clear H1 H2
      refine vl_s rfl (nbF hb) ?_
      refine vl_s rfl (nbF hb) ?_
      refine vl_s rfl (nbF hb) ?_
      refine vl_n ?_
      refine H_of_R (R_pickC (v := (.bool true)) true hb rfl ?_)
      refine vl_e ?_
      refine WPc_cond (t := true) rfl (fun _ => ?_) (fun hh => by cases hh)
      refine WPc_seq' ?_
      refine W_region (by kernel_rfl) ?_
      refine vl_n ?_
      refine H_call HB_10 H fun t22_2 h H => ?_
      refine vl_n ?_
      refine H_of_R (R_assign (v := t22_2) rfl ?_)
      refine vl_e ?_
      refine WPc_ret ?_
      refine resH_of rfl ?_
      exact H
  refine WPc_seq' ?_
  refine W_region (by kernel_rfl) ?_
  refine vl_n ?_
  refine H_of_R (R_move (v := a1) rfl ?_)
  refine vl_n ?_
  refine H_of_R (R_len Try.underlying22 H fun t12 H => ?_)
  refine vl_n ?_
  refine H_of_R (R_gtr H fun t13 H => ?_)
  refine vl_e ?_
  obtain ⟨b, hc, H1, H2⟩ := H
  refine WPc_cond hc (fun hh => ?_) (fun hh => ?_)
  · have H := H1 hh; clear H1 H2
    refine WPc_seq' ?_
    refine W_region (by kernel_rfl) ?_
    refine vl_n ?_
    refine H_of_R (R_assign (v := (.bool true)) rfl ?_)
    refine vl_e ?_
    refine WPc_ret ?_
    refine resH_of rfl ?_
    exact H
  · have H := H2 hh; clear H1 H2
    refine WPc_skip ?_
    exact H
/-! ### laws.zzFits3 -/
def l_zzFits3.j2 (h : Heap) (Q : Value → Heap → Prop) : Prop :=
    Q (.bool true) h
def l_zzFits3.j1 (s1 : Value) (h : Heap) (Q : Value → Heap → Prop) : Prop :=
    fld 1 s1 fun t7 =>
    load1 t7 h fun t8 =>
    lenV t8 fun t9 =>
    cmpI (fun a b => decide (a > b)) t9 (.int .i64 2147483647) fun t10 =>
    ifV t10
    (Q (.bool false) h)
    (l_zzFits3.j2 h Q)
def l_zzFits3.sh (a0 : Value) (h : Heap) (Q : Value → Heap → Prop) : Prop :=
    box 34 a0 h fun t1 h =>
    fld 0 t1 fun t3 =>
    load1 t3 h fun t4 =>
    lenV t4 fun t5 =>
    cmpI (fun a b => decide (a > b)) t5 (.int .i64 2147483647) fun t6 =>
    ifV t6
    (Q (.bool false) h)
    (l_zzFits3.j1 t1 h Q)
theorem l_zzFits3.body (a0 : Value) (h : Heap) (Q : Value → Heap → Prop) (H : l_zzFits3.sh a0 h Q) : l_zzFits3.call #[a0] h Q := by
  refine callsH_of (args := [a0]) Try.func13 rfl rfl ?_
  unfold l_zzFits3.sh at H
  refine WPc_seq' ?_
  refine W_region (by kernel_rfl) ?_
  refine vl_n ?_
  refine H_box H fun t1 h H => ?_
  refine vl_n ?_
  refine H_of_R (R_assign (v := (.bool false)) rfl ?_)
  refine vl_e ?_
  refine WPc_seq (fun e h => l_zzFits3.j1 (e 1) h Q) ?_ (fun e h H => ?_)
  rotate_left
  · unfold l_zzFits3.j1 at H
    refine WPc_seq (fun e h => l_zzFits3.j2 h Q) ?_ (fun e h H => ?_)
    rotate_left
    · unfold l_zzFits3.j2 at H
      refine WPc_seq' ?_
      refine W_region (by kernel_rfl) ?_
      refine vl_n ?_
      refine H_of_R (R_assign (v := (.bool true)) rfl ?_)
      refine vl_e ?_
      refine WPc_ret ?_
      refine resH_of rfl ?_
      exact H
    refine WPc_seq' ?_
    refine W_region (by kernel_rfl) ?_
    refine vl_n ?_
    refine H_of_R (R_fld TF_34_1 H fun t7 H => ?_)
    refine vl_n ?_
    refine H_of_R (R_load1 T1_32 H fun _ t8 _ _ H => ?_)
    refine vl_n ?_
    refine H_of_R (R_len Try.underlying32 H fun t9 H => ?_)
    refine vl_n ?_
    refine H_of_R (R_gtr H fun t10 H => ?_)
    refine vl_e ?_
    obtain ⟨b, hc, H1, H2⟩ := H
    refine WPc_cond hc (fun hh => ?_) (fun hh => ?_)
    · have H := H1 hh; clear H1 H2
      refine WPc_seq' ?_
      refine W_region (by kernel_rfl) ?_
      refine vl_n ?_
      refine H_of_R (R_assign (v := (.bool false)) rfl ?_)
      refine vl_e ?_
      refine WPc_ret ?_
      refine resH_of rfl ?_
      exact H
    · have H := H2 hh; clear H1 H2
      refine WPc_skip ?_
      exact H
  refine WPc_seq' ?_
  refine W_region (by kernel_rfl) ?_
  refine vl_n ?_
  refine H_of_R (R_fld TF_34_0 H fun t3 H => ?_)
  refine vl_n ?_
  refine H_of_R (R_load1 T1_22 H fun _ t4 _ _ H => ?_)
  refine vl_n ?_
  refine H_of_R (R_len Try.underlying22 H fun t5 H => ?_)
  refine vl_n ?_
  refine H_of_R (R_gtr H fun t6 H => ?_)
  refine vl_e ?_
  obtain ⟨b, hc, H1, H2⟩ := H
  refine WPc_cond hc (fun hh => ?_) (fun hh => ?_)
  · have H := H1 hh; clear H1 H2
    refine WPc_seq' ?_
    refine W_region (by kernel_rfl) ?_
    refine vl_n ?_
    refine H_of_R (R_assign (v := (.bool false)) rfl ?_)
    refine vl_e ?_
    refine WPc_ret ?_
    refine resH_of rfl ?_
    exact H
  · have H := H2 hh; clear H1 H2
    refine WPc_skip ?_
    exact H
/-! ### spec.NodeItems -/
def s_NodeItems.j1 (s3 : Value) (h : Heap) (Q : Value → Heap → Prop) : Prop :=
    Q s3 h
def s_NodeItems.j4 (s1 : Value) (s3 : Value) (s11 : Value) (s12 : Value) (h : Heap) (K1 : List Value → Heap → Prop) (Q : Value → Heap → Prop) : Prop :=
    arith (· + ·) s12 (.int .i64 1) fun t41 =>
    K1 [s3, t41] h
def s_NodeItems.j5 (s1 : Value) (s3 : Value) (s4 : Value) (s11 : Value) (s12 : Value) (h : Heap) (K1 : List Value → Heap → Prop) (Q : Value → Heap → Prop) : Prop :=
    fld 0 s1 fun t29 =>
    load1 t29 h fun t30 =>
    lenV t30 fun t31 =>
    cmpI (fun a b => decide (a < b)) s4 t31 fun t32 =>
    ifV t32
    (fld 0 s1 fun t34 =>
    load1 t34 h fun t35 =>
    idx 2 t35 s4 fun t37 =>
    loadN 2 t37 h fun t38 =>
    mkSl (if 1 * 2 = 0 then [] else zeros [(.int .i64 0), (.int .i64 0)] 1) 1 [(0 * 2, 2, t38)] 30 h fun t39 h =>
    app 30 2 16 [(.int .i64 0), (.int .i64 0)] s3 t39 h fun t40 h =>
    s_NodeItems.j4 s1 t40 s11 s12 h K1 Q)
    (s_NodeItems.j4 s1 s3 s11 s12 h K1 Q)
def s_NodeItems.j3 (s1 : Value) (s3 : Value) (s11 : Value) (s12 : Value) (h : Heap) (K1 : List Value → Heap → Prop) (Q : Value → Heap → Prop) : Prop :=
    fld 1 s1 fun t16 =>
    load1 t16 h fun t17 =>
    lenV t17 fun t18 =>
    cmpI (fun a b => decide (a < b)) s12 t18 fun t19 =>
    ifV t19
    (fld 1 s1 fun t21 =>
    load1 t21 h fun t22 =>
    idx 3 t22 s12 fun t24 =>
    loadN 3 t24 h fun t25 =>
    s_NodeItems.call #[t25] h fun t26 h =>
    app 30 2 16 [(.int .i64 0), (.int .i64 0)] s3 t26 h fun t27 h =>
    s_NodeItems.j5 s1 t27 s12 s11 s12 h K1 Q)
    (s_NodeItems.j5 s1 s3 s12 s11 s12 h K1 Q)
def s_NodeItems.l2.b (c1 : Value) (c11 : Value) (s3 : Value) (s12 : Value) (h : Heap) (K1 : List Value → Heap → Prop) (Q : Value → Heap → Prop) : Prop :=
    cmpI (fun a b => decide (a < b)) s12 c11 fun t13 =>
    ifV t13
    (s_NodeItems.j3 c1 s3 c11 s12 h K1 Q)
    (s_NodeItems.j1 s3 h Q)
def s_NodeItems.sh (a0 : Value) (h : Heap) (Q : Value → Heap → Prop) : Prop :=
    box 34 a0 h fun t1 h =>
    fld 1 t1 fun t5 =>
    load1 t5 h fun t6 =>
    lenV t6 fun t7 =>
    fld 0 t1 fun t8 =>
    load1 t8 h fun t9 =>
    lenV t9 fun t10 =>
    max2V t7 t10 fun t11 =>
    loopC (fun c s h K1 => s_NodeItems.l2.b (c.getD 0 undef) (c.getD 1 undef) (s.getD 0 undef) (s.getD 1 undef) h K1 Q) [t1, t11] [(.slice none 0 0), (.int .i64 0)] h
theorem s_NodeItems.body (a0 : Value) (h : Heap) (Q : Value → Heap → Prop) (H : s_NodeItems.sh a0 h Q) : s_NodeItems.call #[a0] h Q := by
  refine callsH_of (args := [a0]) Try.func17 rfl rfl ?_
  unfold s_NodeItems.sh at H
  refine WPc_seq' ?_
  refine W_region (by kernel_rfl) ?_
  refine vl_n ?_
  refine H_box H fun t1 h H => ?_
  refine vl_n ?_
  refine H_of_R (R_assign (v := (.slice none 0 0)) rfl ?_)
  refine vl_e ?_
  refine WPc_seq' ?_
  refine W_region (by kernel_rfl) ?_
  refine vl_n ?_
  refine H_of_R (R_assign (v := (.slice none 0 0)) rfl ?_)
  refine vl_e ?_
  refine WPc_seq (fun e h => s_NodeItems.j1 (e 3) h Q) ?_ (fun e h H => ?_)
  rotate_left
  · unfold s_NodeItems.j1 at H
    refine WPc_seq' ?_
    refine W_region (by kernel_rfl) ?_
    refine vl_n ?_
    refine H_of_R (R_move (v := (e 3)) rfl ?_)
    refine vl_n ?_
    refine H_of_R (R_assign (v := (e 3)) rfl ?_)
    refine vl_e ?_
    refine WPc_ret ?_
    refine resH_of rfl ?_
    exact H
  refine WPc_seq' ?_
  refine W_region (by kernel_rfl) ?_
  refine vl_n ?_
  refine H_of_R (R_fld TF_34_1 H fun t5 H => ?_)
  refine vl_n ?_
  refine H_of_R (R_load1 T1_32 H fun _ t6 _ _ H => ?_)
  refine vl_n ?_
  refine H_of_R (R_len Try.underlying32 H fun t7 H => ?_)
  refine vl_n ?_
  refine H_of_R (R_fld TF_34_0 H fun t8 H => ?_)
  refine vl_n ?_
  refine H_of_R (R_load1 T1_22 H fun _ t9 _ _ H => ?_)
  refine vl_n ?_
  refine H_of_R (R_len Try.underlying22 H fun t10 H => ?_)
  refine vl_n ?_
  refine H_of_R (R_max H fun t11 H => ?_)
  refine vl_n ?_
  refine H_of_R (R_move (v := (.int .i64 0)) rfl ?_)
  refine vl_e ?_
  refine WPc_block ?_
  refine loop_at (fun e => [e 3, e 12]) (fun e => [e 1, e 11]) H rfl rfl ?_
  intro K1 e1 h H hin1
  replace H : s_NodeItems.l2.b (e1 1) (e1 11) (e1 3) (e1 12) h K1 Q := H
  unfold s_NodeItems.l2.b at H
  clear hin1
  refine WPc_seq' ?_
  refine W_region (by kernel_rfl) ?_
  refine vl_n ?_
  refine H_of_R (R_lss H fun t13 H => ?_)
  refine vl_e ?_
  refine WPc_seq (fun e h => s_NodeItems.j3 (e 1) (e 3) (e 11) (e 12) h K1 Q ∧ [e1 1, e1 11] = [e 1, e 11]) ?_ (fun e h ⟨H, hq1⟩ => ?_)
  rotate_left
  · unfold s_NodeItems.j3 at H
    refine WPc_seq (fun e h => s_NodeItems.j4 (e 1) (e 3) (e 11) (e 12) h K1 Q ∧ [e1 1, e1 11] = [e 1, e 11]) ?_ (fun e h ⟨H, hq1⟩ => ?_)
    rotate_left
    · unfold s_NodeItems.j4 at H
      refine W_region (by kernel_rfl) ?_
      refine vl_n ?_
      refine H_of_R (R_add H fun t41 H => ?_)
      refine vl_n ?_
      refine H_of_R (R_move (v := t41) rfl ?_)
      refine vl_e ?_
      exact ⟨H, hq1⟩
    refine WPc_block ?_
    refine WPc_seq' ?_
    refine W_region (by kernel_rfl) ?_
    refine vl_n ?_
    refine H_of_R (R_move (v := (e 12)) rfl ?_)
    refine vl_n ?_
    refine H_of_R (R_assign (v := (e 12)) rfl ?_)
    refine vl_e ?_
    refine WPc_seq (fun e h => s_NodeItems.j5 (e 1) (e 3) (e 4) (e 11) (e 12) h K1 Q ∧ [e1 1, e1 11] = [e 1, e 11]) ?_ (fun e h ⟨H, hq1⟩ => ?_)
    rotate_left
    · unfold s_NodeItems.j5 at H
      refine WPc_seq' ?_
      refine W_region (by kernel_rfl) ?_
      refine vl_n ?_
      refine H_of_R (R_move (v := (e 4)) rfl ?_)
      refine vl_n ?_
      refine H_of_R (R_fld TF_34_0 H fun t29 H => ?_)
      refine vl_n ?_
      refine H_of_R (R_load1 T1_22 H fun _ t30 _ _ H => ?_)
      refine vl_n ?_
      refine H_of_R (R_len Try.underlying22 H fun t31 H => ?_)
      refine vl_n ?_
      refine H_of_R (R_lss H fun t32 H => ?_)
      refine vl_e ?_
      obtain ⟨b, hc, H1, H2⟩ := H
      refine WPc_cond hc (fun hh => ?_) (fun hh => ?_)
      · have H := H1 hh; clear H1 H2
        refine W_region (by kernel_rfl) ?_
        refine vl_n ?_
        refine H_of_R (R_move (v := (e 3)) rfl ?_)
        refine vl_n ?_
        refine H_of_R (R_fld TF_34_0 H fun t34 H => ?_)
        refine vl_n ?_
        refine H_of_R (R_load1 T1_22 H fun _ t35 _ _ H => ?_)
        refine vl_n ?_
        refine H_of_R (R_move (v := (e 4)) rfl ?_)
        refine vl_n ?_
        refine H_of_R (R_idx TE_22 H fun t37 H => ?_)
        refine vl_n ?_
        refine H_of_R (R_loadN TN_30 H fun _ t38 _ _ H _ _ => ?_)
        refine vl_n ?_
        refine H_mkSl TZ_22 (by decide) rfl H rfl fun t39 h H => ?_
        refine vl_n ?_
        refine H_app TZ_22 TU_22 H fun t40 h H => ?_
        refine vl_n ?_
        refine H_of_R (R_assign (v := t40) rfl ?_)
        refine vl_e ?_
        exact ⟨H, hq1⟩
      · have H := H2 hh; clear H1 H2
        refine WPc_skip ?_
        exact ⟨H, hq1⟩
    refine WPc_seq' ?_
    refine W_region (by kernel_rfl) ?_
    refine vl_n ?_
    refine H_of_R (R_move (v := (e 12)) rfl ?_)
    refine vl_n ?_
    refine H_of_R (R_fld TF_34_1 H fun t16 H => ?_)
    refine vl_n ?_
    refine H_of_R (R_load1 T1_32 H fun _ t17 _ _ H => ?_)
    refine vl_n ?_
    refine H_of_R (R_len Try.underlying32 H fun t18 H => ?_)
    refine vl_n ?_
    refine H_of_R (R_lss H fun t19 H => ?_)
    refine vl_e ?_
    obtain ⟨b, hc, H1, H2⟩ := H
    refine WPc_cond hc (fun hh => ?_) (fun hh => ?_)
    · have H := H1 hh; clear H1 H2
      refine W_region (by kernel_rfl) ?_
      refine vl_n ?_
      refine H_of_R (R_move (v := (e 3)) rfl ?_)
      refine vl_n ?_
      refine H_of_R (R_fld TF_34_1 H fun t21 H => ?_)
      refine vl_n ?_
      refine H_of_R (R_load1 T1_32 H fun _ t22 _ _ H => ?_)
      refine vl_n ?_
      refine H_of_R (R_move (v := (e 12)) rfl ?_)
      refine vl_n ?_
      refine H_of_R (R_idx TE_32 H fun t24 H => ?_)
      refine vl_n ?_
      refine H_of_R (R_loadN TN_34 H fun _ t25 _ _ H _ _ => ?_)
      refine vl_n ?_
      refine H_call HB_17 H fun t26 h H => ?_
      refine vl_n ?_
      refine H_app TZ_22 TU_22 H fun t27 h H => ?_
      refine vl_n ?_
      refine H_of_R (R_assign (v := t27) rfl ?_)
      refine vl_e ?_
      exact ⟨H, hq1⟩
    · have H := H2 hh; clear H1 H2
      refine WPc_skip ?_
      exact ⟨H, hq1⟩
  obtain ⟨b, hc, H1, H2⟩ := H
  refine WPc_cond hc (fun hh => ?_) (fun hh => ?_)
  · have H := H1 hh; clear H1 H2
    refine WPc_skip ?_
    exact ⟨H, rfl⟩
  · have H := H2 hh; clear H1 H2
    refine WPc_exit ?_
    exact H
/-! ### spec.Width -/
def s_Width.j1 (s0 : Value) (h : Heap) (Q : Value → Heap → Prop) : Prop :=
    Q s0 h
def s_Width.sh (a0 : Value) (h : Heap) (Q : Value → Heap → Prop) : Prop :=
    cmpI (fun a b => a == b) a0 (.int .i64 0) fun t4 =>
    ifV t4
    (Q (.int .i64 32) h)
    (s_Width.j1 a0 h Q)
theorem s_Width.body (a0 : Value) (h : Heap) (Q : Value → Heap → Prop) (H : s_Width.sh a0 h Q) : s_Width.call #[a0] h Q := by
  refine callsH_of (args := [a0]) Try.func43 rfl rfl ?_
  unfold s_Width.sh at H
  refine WPc_seq' ?_
  refine W_region (by kernel_rfl) ?_
  refine vl_n ?_
  refine H_of_R (R_assign (v := (.int .i64 0)) rfl ?_)
  refine vl_e ?_
  refine WPc_seq (fun e h => s_Width.j1 (e 0) h Q) ?_ (fun e h H => ?_)
  rotate_left
  · unfold s_Width.j1 at H
    refine WPc_seq' ?_
    refine W_region (by kernel_rfl) ?_
    refine vl_n ?_
    refine H_of_R (R_move (v := (e 0)) rfl ?_)
    refine vl_n ?_
    refine H_of_R (R_assign (v := (e 0)) rfl ?_)
    refine vl_e ?_
    refine WPc_ret ?_
    refine resH_of rfl ?_
    exact H
  refine WPc_seq' ?_
  refine W_region (by kernel_rfl) ?_
  refine vl_n ?_
  refine H_of_R (R_move (v := a0) rfl ?_)
  refine vl_n ?_
  refine H_of_R (R_eqI H fun t4 H => ?_)
  refine vl_e ?_
  obtain ⟨b, hc, H1, H2⟩ := H
  refine WPc_cond hc (fun hh => ?_) (fun hh => ?_)
  · have H := H1 hh; clear H1 H2
    refine WPc_seq' ?_
    refine W_region (by kernel_rfl) ?_
    refine vl_n ?_
    refine H_of_R (R_assign (v := (.int .i64 32)) rfl ?_)
    refine vl_e ?_
    refine WPc_ret ?_
    refine resH_of rfl ?_
    exact H
  · have H := H2 hh; clear H1 H2
    refine WPc_skip ?_
    exact H
/-! ### spec.Levels -/
def s_Levels.j3 (s4 : Value) (s5 : Value) (h : Heap) (Q : Value → Heap → Prop) : Prop :=
    arith (· + ·) s4 (.int .i64 1) fun t54 =>
    Q (.tuple #[t54, s5]) h
def s_Levels.j6 (s4 : Value) (s5 : Value) (s32 : Value) (s33 : Value) (s34 : Value) (h : Heap) (K1 : List Value → Heap → Prop) (Q : Value → Heap → Prop) : Prop :=
    arith (· + ·) s34 (.int .i64 1) fun t52 =>
    K1 [s5, t52] h
def s_Levels.j5 (s4 : Value) (s5 : Value) (s32 : Value) (s33 : Value) (s34 : Value) (h : Heap) (K1 : List Value → Heap → Prop) (Q : Value → Heap → Prop) : Prop :=
    idx 3 s32 s34 fun t36 =>
    loadN 3 t36 h fun t37 =>
    alloc [(.slice none 0 0), (.slice none 0 0), (.int .i64 0)] 34 h fun t7 h =>
    storeN 3 t7 t37 h fun h =>
    loadN 3 t7 h fun t39 =>
    s_Levels.call #[t39] h fun t40 h =>
    extr 0 t40 fun t41 =>
    extr 1 t40 fun t42 =>
    br s5 true (br t42 true (cmpI (fun a b => a == b) t41 s4 fun t50 =>
    s_Levels.j6 s4 t50 s32 s33 s34 h K1 Q) (s_Levels.j6 s4 (.bool false) s32 s33 s34 h K1 Q)) (s_Levels.j6 s4 (.bool false) s32 s33 s34 h K1 Q)
def s_Levels.l4.b (c4 : Value) (c32 : Value) (c33 : Value) (s5 : Value) (s34 : Value) (h : Heap) (K1 : List Value → Heap → Prop) (Q : Value → Heap → Prop) : Prop :=
    cmpI (fun a b => decide (a < b)) s34 c33 fun t35 =>
    ifV t35
    (s_Levels.j5 c4 s5 c32 c33 s34 h K1 Q)
    (s_Levels.j3 c4 s5 h Q)
def s_Levels.j2 (s1 : Value) (h : Heap) (Q : Value → Heap → Prop) : Prop :=
    fld 1 s1 fun t23 =>
    load1 t23 h fun t24 =>
    idx 3 t24 (.int .i64 0) fun t25 =>
    loadN 3 t25 h fun t26 =>
    s_Levels.call #[t26] h fun t27 h =>
    extr 0 t27 fun t28 =>
    extr 1 t27 fun t29 =>
    fld 1 s1 fun t30 =>
    load1 t30 h fun t31 =>
    slc 3 t31 (some (.int .i64 1)) none none fun t32 =>
    lenV t32 fun t33 =>
    loopC (fun c s h K1 => s_Levels.l4.b (c.getD 0 undef) (c.getD 1 undef) (c.getD 2 undef) (s.getD 0 undef) (s.getD 1 undef) h K1 Q) [t28, t32, t33] [t29, (.int .i64 0)] h
def s_Levels.j1 (s1 : Value) (h : Heap) (Q : Value → Heap → Prop) : Prop :=
    fld 1 s1 fun t14 =>
    load1 t14 h fun t15 =>
    lenV t15 fun t16 =>
    fld 0 s1 fun t17 =>
    load1 t17 h fun t18 =>
    lenV t18 fun t19 =>
    arith (· + ·) t19 (.int .i64 1) fun t20 =>
    cmpI (fun a b => a != b) t16 t20 fun t21 =>
    ifV t21
    (Q (.tuple #[(.int .i64 0), (.bool false)]) h)
    (s_Levels.j2 s1 h Q)
def s_Levels.sh (a0 : Value) (h : Heap) (Q : Value → Heap → Prop) : Prop :=
    box 34 a0 h fun t1 h =>
    fld 1 t1 fun t10 =>
    load1 t10 h fun t11 =>
    lenV t11 fun t12 =>
    cmpI (fun a b => a == b) t12 (.int .i64 0) fun t13 =>
    ifV t13
    (Q (.tuple #[(.int .i64 1), (.bool true)]) h)
    (s_Levels.j1 t1 h Q)
theorem s_Levels.body (a0 : Value) (h : Heap) (Q : Value → Heap → Prop) (H : s_Levels.sh a0 h Q) : s_Levels.call #[a0] h Q := by
  refine callsH_of (args := [a0]) Try.func47 rfl rfl ?_
  unfold s_Levels.sh at H
  refine WPc_seq' ?_
  refine W_region (by kernel_rfl) ?_
  refine vl_n ?_
  refine H_box H fun t1 h H => ?_
  refine vl_n ?_
  refine H_of_R (R_assign (v := (.int .i64 0)) rfl ?_)
  refine vl_n ?_
  refine H_of_R (R_assign (v := (.bool false)) rfl ?_)
  refine vl_e ?_
  refine WPc_seq (fun e h => s_Levels.j1 (e 1) h Q) ?_ (fun e h H => ?_)
  rotate_left
  · unfold s_Levels.j1 at H
    refine WPc_seq (fun e h => s_Levels.j2 (e 1) h Q) ?_ (fun e h H => ?_)
    rotate_left
    · unfold s_Levels.j2 at H
      refine WPc_seq' ?_
      refine W_region (by kernel_rfl) ?_
      refine vl_n ?_
      refine H_of_R (R_fld TF_34_1 H fun t23 H => ?_)
      refine vl_n ?_
      refine H_of_R (R_load1 T1_32 H fun _ t24 _ _ H => ?_)
      refine vl_n ?_
      refine H_of_R (R_idx TE_32 H fun t25 H => ?_)
      refine vl_n ?_
      refine H_of_R (R_loadN TN_34 H fun _ t26 _ _ H _ _ => ?_)
      refine vl_n ?_
      refine H_call HB_47 H fun t27 h H => ?_
      refine vl_n ?_
      refine H_of_R (R_move (v := t27) rfl ?_)
      refine vl_n ?_
      refine H_of_R (R_ext H fun t28 H => ?_)
      refine vl_n ?_
      refine H_of_R (R_ext H fun t29 H => ?_)
      refine vl_n ?_
      refine H_of_R (R_assign (v := t28) rfl ?_)
      refine vl_n ?_
      refine H_of_R (R_assign (v := t29) rfl ?_)
      refine vl_e ?_
      refine WPc_seq (fun e h => s_Levels.j3 (e 4) (e 5) h Q) ?_ (fun e h H => ?_)
      rotate_left
      · unfold s_Levels.j3 at H
        refine WPc_seq' ?_
        refine W_region (by kernel_rfl) ?_
        refine vl_n ?_
        refine H_of_R (R_move (v := (e 4)) rfl ?_)
        refine vl_n ?_
        refine H_of_R (R_add H fun t54 H => ?_)
        refine vl_n ?_
        refine H_of_R (R_move (v := (e 5)) rfl ?_)
        refine vl_n ?_
        refine H_of_R (R_assign (v := t54) rfl ?_)
        refine vl_n ?_
        refine H_of_R (R_assign (v := (e 5)) rfl ?_)
        refine vl_e ?_
        refine WPc_ret ?_
        refine resH_of rfl ?_
        exact H
      refine WPc_seq' ?_
      refine W_region (by kernel_rfl) ?_
      refine vl_n ?_
      refine H_of_R (R_fld TF_34_1 H fun t30 H => ?_)
      refine vl_n ?_
      refine H_of_R (R_load1 T1_32 H fun _ t31 _ _ H => ?_)
      refine vl_n ?_
      refine H_of_R (R_slice TE_32 (by decide) H fun t32 H => ?_)
      refine vl_n ?_
      refine H_of_R (R_len Try.underlying32 H fun t33 H => ?_)
      refine vl_n ?_
      refine H_of_R (R_move (v := (.int .i64 0)) rfl ?_)
      refine vl_e ?_
      refine WPc_block ?_
      refine loop_at (fun e => [e 5, e 34]) (fun e => [e 4, e 32, e 33]) H rfl rfl ?_
      intro K1 e1 h H hin1
      replace H : s_Levels.l4.b (e1 4) (e1 32) (e1 33) (e1 5) (e1 34) h K1 Q := H
      unfold s_Levels.l4.b at H
      clear hin1
      refine WPc_seq' ?_
      refine W_region (by kernel_rfl) ?_
      refine vl_n ?_
      refine H_of_R (R_lss H fun t35 H => ?_)
      refine vl_e ?_
      refine WPc_seq (fun e h => s_Levels.j5 (e 4) (e 5) (e 32) (e 33) (e 34) h K1 Q ∧ [e1 4, e1 32, e1 33] = [e 4, e 32, e 33]) ?_ (fun e h ⟨H, hq1⟩ => ?_)
      rotate_left
      · unfold s_Levels.j5 at H
        refine WPc_seq (fun e h => s_Levels.j6 (e 4) (e 5) (e 32) (e 33) (e 34) h K1 Q ∧ [e1 4, e1 32, e1 33] = [e 4, e 32, e 33]) ?_ (fun e h ⟨H, hq1⟩ => ?_)
        rotate_left
        · unfold s_Levels.j6 at H
          refine W_region (by kernel_rfl) ?_
          refine vl_n ?_
          refine H_of_R (R_add H fun t52 H => ?_)
          refine vl_n ?_
          refine H_of_R (R_move (v := t52) rfl ?_)
          refine vl_e ?_
          exact ⟨H, hq1⟩
        refine WPc_block ?_
        refine WPc_seq' ?_
        refine W_region (by kernel_rfl) ?_
        refine vl_n ?_
        refine H_of_R (R_idx TE_32 H fun t36 H => ?_)
        refine vl_n ?_
        refine H_of_R (R_loadN TN_34 H fun _ t37 _ _ H _ _ => ?_)
        refine vl_n ?_
        refine H_alloc TV_34 H fun t7 h H => ?_
        refine vl_n ?_
        refine H_storeN TS_34 H fun h H => ?_
        refine vl_e ?_
        refine WPc_seq' ?_
        refine W_region (by kernel_rfl) ?_
        refine vl_n ?_
        refine H_of_R (R_loadN TN_34 H fun _ t39 _ _ H _ _ => ?_)
        refine vl_n ?_
        refine H_call HB_47 H fun t40 h H => ?_
        refine vl_n ?_
        refine H_of_R (R_move (v := t40) rfl ?_)
        refine vl_n ?_
        refine H_of_R (R_ext H fun t41 H => ?_)
        refine vl_n ?_
        refine H_of_R (R_ext H fun t42 H => ?_)
        refine vl_n ?_
        refine H_of_R (R_assign (v := t41) rfl ?_)
        refine vl_n ?_
        refine H_of_R (R_assign (v := t42) rfl ?_)
        refine vl_e ?_
        refine W_region (by kernel_rfl) ?_
        refine vl_n ?_
        refine H_of_R (R_move (v := (e 5)) rfl ?_)
        refine vl_n ?_
        refine H_of_R (R_move (v := (e 5)) rfl ?_)
        obtain ⟨b, hb, H1, H2⟩ := H
        cases b
        · have H := H2 rfl; clear H1 H2
          refine vl_s rfl (nbT hb) ?_
          refine vl_n ?_
          refine H_of_R (R_pickC (v := (.bool false)) false hb rfl ?_)
          refine vl_n ?_
          refine H_of_R (R_move (v := (.bool false)) rfl ?_)
          refine vl_s rfl (nbT rfl) ?_
          refine vl_s rfl (nbT rfl) ?_
          refine vl_s rfl (nbT rfl) ?_
          refine vl_n ?_
          refine H_of_R (R_pickC (v := (.bool false)) false rfl rfl ?_)
          refine vl_n ?_
          refine H_of_R (R_assign (v := (.bool false)) rfl ?_)
          refine vl_e ?_
          exact ⟨H, hq1⟩
        · have H := H1 rfl; clear H1 H2
          refine vl_y rfl hb ?_
          refine H_of_R (R_move (v := t42) rfl ?_)
          refine vl_n ?_
          refine H_of_R (R_pickC (v := t42) true hb rfl ?_)
          refine vl_n ?_
          refine H_of_R (R_move (v := t42) rfl ?_)
          obtain ⟨b_2, hb_2, H1, H2⟩ := H
          cases b_2
          · have H := H2 rfl; clear H1 H2
            refine vl_s rfl (nbT hb_2) ?_
            refine vl_s rfl (nbT hb_2) ?_
            refine vl_s rfl (nbT hb_2) ?_
            refine vl_n ?_
            refine H_of_R (R_pickC (v := (.bool false)) false hb_2 rfl ?_)
            refine vl_n ?_
            refine H_of_R (R_assign (v := (.bool false)) rfl ?_)
            refine vl_e ?_
            exact ⟨H, hq1⟩
          · have H := H1 rfl; clear H1 H2
            refine vl_y rfl hb_2 ?_
            refine H_of_R (R_move (v := t41) rfl ?_)
            refine vl_y rfl hb_2 ?_
            refine H_of_R (R_move (v := (e 4)) rfl ?_)
            refine vl_y rfl hb_2 ?_
            refine H_of_R (R_eqI H fun t50 H => ?_)
            refine vl_n ?_
            refine H_of_R (R_pickC (v := t50) true hb_2 rfl ?_)
            refine vl_n ?_
            refine H_of_R (R_assign (v := t50) rfl ?_)
            refine vl_e ?_
            exact ⟨H, hq1⟩
      obtain ⟨b, hc, H1, H2⟩ := H
      refine WPc_cond hc (fun hh => ?_) (fun hh => ?_)
      · have H := H1 hh; clear H1 H2
        refine WPc_skip ?_
        exact ⟨H, rfl⟩
      · have H := H2 hh; clear H1 H2
        refine WPc_exit ?_
        exact H
    refine WPc_seq' ?_
    refine W_region (by kernel_rfl) ?_
    refine vl_n ?_
    refine H_of_R (R_fld TF_34_1 H fun t14 H => ?_)
    refine vl_n ?_
    refine H_of_R (R_load1 T1_32 H fun _ t15 _ _ H => ?_)
    refine vl_n ?_
    refine H_of_R (R_len Try.underlying32 H fun t16 H => ?_)
    refine vl_n ?_
    refine H_of_R (R_fld TF_34_0 H fun t17 H => ?_)
    refine vl_n ?_
    refine H_of_R (R_load1 T1_22 H fun _ t18 _ _ H => ?_)
    refine vl_n ?_
    refine H_of_R (R_len Try.underlying22 H fun t19 H => ?_)
    refine vl_n ?_
    refine H_of_R (R_add H fun t20 H => ?_)
    refine vl_n ?_
    refine H_of_R (R_neI H fun t21 H => ?_)
    refine vl_e ?_
    obtain ⟨b, hc, H1, H2⟩ := H
    refine WPc_cond hc (fun hh => ?_) (fun hh => ?_)
    · have H := H1 hh; clear H1 H2
      refine WPc_seq' ?_
      refine W_region (by kernel_rfl) ?_
      refine vl_n ?_
      refine H_of_R (R_assign (v := (.int .i64 0)) rfl ?_)
      refine vl_n ?_
      refine H_of_R (R_assign (v := (.bool false)) rfl ?_)
      refine vl_e ?_
      refine WPc_ret ?_
      refine resH_of rfl ?_
      exact H
    · have H := H2 hh; clear H1 H2
      refine WPc_skip ?_
      exact H
  refine WPc_seq' ?_
  refine W_region (by kernel_rfl) ?_
  refine vl_n ?_
  refine H_of_R (R_fld TF_34_1 H fun t10 H => ?_)
  refine vl_n ?_
  refine H_of_R (R_load1 T1_32 H fun _ t11 _ _ H => ?_)
  refine vl_n ?_
  refine H_of_R (R_len Try.underlying32 H fun t12 H => ?_)
  refine vl_n ?_
  refine H_of_R (R_eqI H fun t13 H => ?_)
  refine vl_e ?_
  obtain ⟨b, hc, H1, H2⟩ := H
  refine WPc_cond hc (fun hh => ?_) (fun hh => ?_)
  · have H := H1 hh; clear H1 H2
    refine WPc_seq' ?_
    refine W_region (by kernel_rfl) ?_
    refine vl_n ?_
    refine H_of_R (R_assign (v := (.int .i64 1)) rfl ?_)
    refine vl_n ?_
    refine H_of_R (R_assign (v := (.bool true)) rfl ?_)
    refine vl_e ?_
    refine WPc_ret ?_
    refine resH_of rfl ?_
    exact H
  · have H := H2 hh; clear H1 H2
    refine WPc_skip ?_
    exact H
/-! ### spec.Filled -/
def s_Filled.j2 (h : Heap) (Q : Value → Heap → Prop) : Prop :=
    Q (.bool true) h
def s_Filled.j5 (s0 : Value) (s24 : Value) (s25 : Value) (s26 : Value) (h : Heap) (K1 : List Value → Heap → Prop) (Q : Value → Heap → Prop) : Prop :=
    arith (· + ·) s26 (.int .i64 1) fun t36 =>
    K1 [t36] h
def s_Filled.j4 (s0 : Value) (s24 : Value) (s25 : Value) (s26 : Value) (h : Heap) (K1 : List Value → Heap → Prop) (Q : Value → Heap → Prop) : Prop :=
    idx 3 s24 s26 fun t28 =>
    loadN 3 t28 h fun t29 =>
    alloc [(.slice none 0 0), (.slice none 0 0), (.int .i64 0)] 34 h fun t8 h =>
    storeN 3 t8 t29 h fun h =>
    arith (· - ·) s0 (.int .i64 1) fun t32 =>
    loadN 3 t8 h fun t33 =>
    s_Filled.call #[s0, t32, t33] h fun t34 h =>
    notV t34 fun t35 =>
    ifV t35
    (Q (.bool false) h)
    (s_Filled.j5 s0 s24 s25 s26 h K1 Q)
def s_Filled.l3.b (c0 : Value) (c24 : Value) (c25 : Value) (s26 : Value) (h : Heap) (K1 : List Value → Heap → Prop) (Q : Value → Heap → Prop) : Prop :=
    cmpI (fun a b => decide (a < b)) s26 c25 fun t27 =>
    ifV t27
    (s_Filled.j4 c0 c24 c25 s26 h K1 Q)
    (s_Filled.j2 h Q)
def s_Filled.j1 (s0 : Value) (s5 : Value) (h : Heap) (Q : Value → Heap → Prop) : Prop :=
    fld 1 s5 fun t23 =>
    load1 t23 h fun t24 =>
    lenV t24 fun t25 =>
    loopC (fun c s h K1 => s_Filled.l3.b (c.getD 0 undef) (c.getD 1 undef) (c.getD 2 undef) (s.getD 0 undef) h K1 Q) [s0, t24, t25] [(.int .i64 0)] h
def s_Filled.sh (a0 : Value) (a1 : Value) (a2 : Value) (h : Heap) (Q : Value → Heap → Prop) : Prop :=
    box 34 a2 h fun t5 h =>
    fld 0 t5 fun t9 =>
    load1 t9 h fun t10 =>
    lenV t10 fun t11 =>
    cmpI (fun a b => decide (a < b)) t11 a1 fun t13 =>
    br t13 false (fld 0 t5 fun t15 =>
    load1 t15 h fun t16 =>
    lenV t16 fun t17 =>
    arith (· * ·) (.int .i64 2) a0 fun t19 =>
    arith (· - ·) t19 (.int .i64 1) fun t20 =>
    cmpI (fun a b => decide (a > b)) t17 t20 fun t21 =>
    ifV t21
    (Q (.bool false) h)
    (s_Filled.j1 a0 t5 h Q)) (Q (.bool false) h)
theorem s_Filled.body (a0 : Value) (a1 : Value) (a2 : Value) (h : Heap) (Q : Value → Heap → Prop) (H : s_Filled.sh a0 a1 a2 h Q) : s_Filled.call #[a0, a1, a2] h Q := by
  refine callsH_of (args := [a0, a1, a2]) Try.func62 rfl rfl ?_
  unfold s_Filled.sh at H
  refine WPc_seq' ?_
  refine W_region (by kernel_rfl) ?_
  refine vl_n ?_
  refine H_box H fun t5 h H => ?_
  refine vl_n ?_
  refine H_of_R (R_assign (v := (.bool false)) rfl ?_)
  refine vl_e ?_
  refine WPc_seq (fun e h => s_Filled.j1 (e 0) (e 5) h Q) ?_ (fun e h H => ?_)
  rotate_left
  · unfold s_Filled.j1 at H
    refine WPc_seq (fun e h => s_Filled.j2 h Q) ?_ (fun e h H => ?_)
    rotate_left
    · unfold s_Filled.j2 at H
      refine WPc_seq' ?_
      refine W_region (by kernel_rfl) ?_
      refine vl_n ?_
      refine H_of_R (R_assign (v := (.bool true)) rfl ?_)
      refine vl_e ?_
      refine WPc_ret ?_
      refine resH_of rfl ?_
      exact H
    refine WPc_seq' ?_
    refine W_region (by kernel_rfl) ?_
    refine vl_n ?_
    refine H_of_R (R_fld TF_34_1 H fun t23 H => ?_)
    refine vl_n ?_
    refine H_of_R (R_load1 T1_32 H fun _ t24 _ _ H => ?_)
    refine vl_n ?_
    refine H_of_R (R_len Try.underlying32 H fun t25 H => ?_)
    refine vl_n ?_
    refine H_of_R (R_move (v := (.int .i64 0)) rfl ?_)
    refine vl_e ?_
    refine WPc_block ?_
    refine loop_at (fun e => [e 26]) (fun e => [e 0, e 24, e 25]) H rfl rfl ?_
    intro K1 e1 h H hin1
    replace H : s_Filled.l3.b (e1 0) (e1 24) (e1 25) (e1 26) h K1 Q := H
    unfold s_Filled.l3.b at H
    clear hin1
    refine WPc_seq' ?_
    refine W_region (by kernel_rfl) ?_
    refine vl_n ?_
    refine H_of_R (R_lss H fun t27 H => ?_)
    refine vl_e ?_
    refine WPc_seq (fun e h => s_Filled.j4 (e 0) (e 24) (e 25) (e 26) h K1 Q ∧ [e1 0, e1 24, e1 25] = [e 0, e 24, e 25]) ?_ (fun e h ⟨H, hq1⟩ => ?_)
    rotate_left
    · unfold s_Filled.j4 at H
      refine WPc_seq (fun e h => s_Filled.j5 (e 0) (e 24) (e 25) (e 26) h K1 Q ∧ [e1 0, e1 24, e1 25] = [e 0, e 24, e 25]) ?_ (fun e h ⟨H, hq1⟩ => ?_)
      rotate_left
      · unfold s_Filled.j5 at H
        refine W_region (by kernel_rfl) ?_
        refine vl_n ?_
        refine H_of_R (R_add H fun t36 H => ?_)
        refine vl_n ?_
        refine H_of_R (R_move (v := t36) rfl ?_)
        refine vl_e ?_
        exact ⟨H, hq1⟩
      refine WPc_block ?_
      refine WPc_seq' ?_
      refine W_region (by kernel_rfl) ?_
      refine vl_n ?_
      refine H_of_R (R_idx TE_32 H fun t28 H => ?_)
      refine vl_n ?_
      refine H_of_R (R_loadN TN_34 H fun _ t29 _ _ H _ _ => ?_)
      refine vl_n ?_
      refine H_alloc TV_34 H fun t8 h H => ?_
      refine vl_n ?_
      refine H_storeN TS_34 H fun h H => ?_
      refine vl_e ?_
      refine WPc_seq' ?_
      refine W_region (by kernel_rfl) ?_
      refine vl_n ?_
      refine H_of_R (R_move (v := (e 0)) rfl ?_)
      refine vl_n ?_
      refine H_of_R (R_move (v := (e 0)) rfl ?_)
      refine vl_n ?_
      refine H_of_R (R_sub H fun t32 H => ?_)
      refine vl_n ?_
      refine H_of_R (R_loadN TN_34 H fun _ t33 _ _ H _ _ => ?_)
      refine vl_n ?_
      refine H_call HB_62 H fun t34 h H => ?_
      refine vl_n ?_
      refine H_of_R (R_not H fun t35 H => ?_)
      refine vl_e ?_
      obtain ⟨b, hc, H1, H2⟩ := H
      refine WPc_cond hc (fun hh => ?_) (fun hh => ?_)
      · have H := H1 hh; clear H1 H2
        refine WPc_seq' ?_
        refine W_region (by kernel_rfl) ?_
        refine vl_n ?_
        refine H_of_R (R_assign (v := (.bool false)) rfl ?_)
        refine vl_e ?_
        refine WPc_ret ?_
        refine resH_of rfl ?_
        exact H
      · have H := H2 hh; clear H1 H2
        refine WPc_skip ?_
        exact ⟨H, hq1⟩
    obtain ⟨b, hc, H1, H2⟩ := H
    refine WPc_cond hc (fun hh => ?_) (fun hh => ?_)
    · have H := H1 hh; clear H1 H2
      refine WPc_skip ?_
      exact ⟨H, rfl⟩
    · have H := H2 hh; clear H1 H2
      refine WPc_exit ?_
      exact H
  refine WPc_seq' ?_
  refine W_region (by kernel_rfl) ?_
  refine vl_n ?_
  refine H_of_R (R_fld TF_34_0 H fun t9 H => ?_)
  refine vl_n ?_
  refine H_of_R (R_load1 T1_22 H fun _ t10 _ _ H => ?_)
  refine vl_n ?_
  refine H_of_R (R_len Try.underlying22 H fun t11 H => ?_)
  refine vl_n ?_
  refine H_of_R (R_move (v := a1) rfl ?_)
  refine vl_n ?_
  refine H_of_R (R_lss H fun t13 H => ?_)
  refine vl_n ?_
  refine H_of_R (R_move (v := t13) rfl ?_)
  obtain ⟨b, hb, H1, H2⟩ := H
  cases b
  · have H := H1 rfl; clear H1 H2
    refine vl_y rfl hb ?_
    refine H_of_R (R_fld TF_34_0 H fun t15 H => ?_)
    refine vl_y rfl hb ?_
    refine H_of_R (R_load1 T1_22 H fun _ t16 _ _ H => ?_)
    refine vl_y rfl hb ?_
    refine H_of_R (R_len Try.underlying22 H fun t17 H => ?_)
    refine vl_y rfl hb ?_
    refine H_of_R (R_move (v := a0) rfl ?_)
    refine vl_y rfl hb ?_
    refine H_of_R (R_mul H fun t19 H => ?_)
    refine vl_y rfl hb ?_
    refine H_of_R (R_sub H fun t20 H => ?_)
    refine vl_y rfl hb ?_
    refine H_of_R (R_gtr H fun t21 H => ?_)
    refine vl_n ?_
    refine H_of_R (R_pickC (v := t21) false hb rfl ?_)
    refine vl_e ?_
    obtain ⟨b_2, hc, H1, H2⟩ := H
    refine WPc_cond hc (fun hh => ?_) (fun hh => ?_)
    · have H := H1 hh; clear H1 H2
      refine WPc_seq' ?_
      refine W_region (by kernel_rfl) ?_
      refine vl_n ?_
      refine H_of_R (R_assign (v := (.bool false)) rfl ?_)
      refine vl_e ?_
      refine WPc_ret ?_
      refine resH_of rfl ?_
      exact H
    · have H := H2 hh; clear H1 H2
      refine WPc_skip ?_
      exact H
  · have H := H2 rfl; clear H1 H2
    refine vl_s rfl (nbF hb) ?_
    refine vl_s rfl (nbF hb) ?_
    refine vl_s rfl (nbF hb) ?_
    refine vl_s rfl (nbF hb) ?_
    refine vl_s rfl (nbF hb) ?_
    refine vl_s rfl (nbF hb) ?_
    refine vl_s rfl (nbF hb) ?_
    refine vl_n ?_
    refine H_of_R (R_pickC (v := (.bool true)) true hb rfl ?_)
    refine vl_e ?_
    refine WPc_cond (t := true) rfl (fun _ => ?_) (fun hh => by cases hh)
    refine WPc_seq' ?_
    refine W_region (by kernel_rfl) ?_
    refine vl_n ?_
    refine H_of_R (R_assign (v := (.bool false)) rfl ?_)
    refine vl_e ?_
    refine WPc_ret ?_
    refine resH_of rfl ?_
    exact H

end Go.Proofs.Ytdealonhngiaiaa
