/-
  Shallow forms of the walked functions, and that each call comes to its form. Written by a program of this repo (gen.py). Conditions: none.
-/
import Derived.Test.YtfojeibloilneaaST
namespace Go.Proofs.Ytfojeibloilneaa
open Go.Hp
set_option maxRecDepth 100000
set_option maxHeartbeats 8000000
set_option linter.unusedVariables false
set_option linter.unusedSimpArgs false

/-! ### (*pub/tidwallbtree.Map[string, struct{}]).nodeScan -/
def Map_su_nodeScan.j2 (s0 : Value) (s2 : Value) (s3 : Value) (s9 : Value) (h : Heap) (Q : Value → Heap → Prop) : Prop :=
    nilck s9 fun t89 =>
    fld 3 t89 fun t90 =>
    load1 t90 h fun t91 =>
    nilck t91 fun t92 =>
    load1 t92 h fun t93 =>
    nilck s9 fun t95 =>
    fld 3 t95 fun t96 =>
    load1 t96 h fun t97 =>
    nilck t97 fun t98 =>
    load1 t98 h fun t99 =>
    lenV t99 fun t100 =>
    arith (· - ·) t100 (.int .i64 1) fun t101 =>
    idx 1 t93 t101 fun t102 =>
    Map_su_nodeScan.call #[s0, t102, s2, s3] h fun t105 h =>
    Q t105 h
def Map_su_nodeScan.j5 (s0 : Value) (s2 : Value) (s3 : Value) (s9 : Value) (s11 : Value) (h : Heap) (K1 : List Value → Heap → Prop) (Q : Value → Heap → Prop) : Prop :=
    arith (· + ·) s11 (.int .i64 1) fun t54 =>
    K1 [t54] h
def Map_su_nodeScan.j6 (s0 : Value) (s2 : Value) (s3 : Value) (s9 : Value) (s11 : Value) (h : Heap) (K1 : List Value → Heap → Prop) (Q : Value → Heap → Prop) : Prop :=
    nilck s9 fun t70 =>
    fld 2 t70 fun t71 =>
    load1 t71 h fun t72 =>
    idx 1 t72 s11 fun t74 =>
    fld 0 t74 fun t75 =>
    load1 t75 h fun t76 =>
    nilck s9 fun t78 =>
    fld 2 t78 fun t79 =>
    load1 t79 h fun t80 =>
    idx 1 t80 s11 fun t82 =>
    fldZ Try.prog 0 t82 h fun t83 =>
    loadN 0 t83 h fun t84 =>
    callV Try.prog s2 #[t76, t84] h fun t85 h =>
    notV t85 fun t86 =>
    ifV t86
    (Q (.bool false) h)
    (Map_su_nodeScan.j5 s0 s2 s3 s9 s11 h K1 Q)
def Map_su_nodeScan.j4 (s0 : Value) (s2 : Value) (s3 : Value) (s9 : Value) (s11 : Value) (h : Heap) (K1 : List Value → Heap → Prop) (Q : Value → Heap → Prop) : Prop :=
    nilck s9 fun t57 =>
    fld 3 t57 fun t58 =>
    load1 t58 h fun t59 =>
    nilck t59 fun t60 =>
    load1 t60 h fun t61 =>
    idx 1 t61 s11 fun t63 =>
    Map_su_nodeScan.call #[s0, t63, s2, s3] h fun t66 h =>
    notV t66 fun t67 =>
    ifV t67
    (Q (.bool false) h)
    (Map_su_nodeScan.j6 s0 s2 s3 s9 s11 h K1 Q)
def Map_su_nodeScan.l3.b (c0 : Value) (c2 : Value) (c3 : Value) (c9 : Value) (s11 : Value) (h : Heap) (K1 : List Value → Heap → Prop) (Q : Value → Heap → Prop) : Prop :=
    nilck c9 fun t48 =>
    fld 2 t48 fun t49 =>
    load1 t49 h fun t50 =>
    lenV t50 fun t51 =>
    cmpI (fun a b => decide (a < b)) s11 t51 fun t52 =>
    ifV t52
    (Map_su_nodeScan.j4 c0 c2 c3 c9 s11 h K1 Q)
    (Map_su_nodeScan.j2 c0 c2 c3 c9 h Q)
def Map_su_nodeScan.j1 (s0 : Value) (s2 : Value) (s3 : Value) (s9 : Value) (h : Heap) (Q : Value → Heap → Prop) : Prop :=
    loopC (fun c s h K1 => Map_su_nodeScan.l3.b (c.getD 0 undef) (c.getD 1 undef) (c.getD 2 undef) (c.getD 3 undef) (s.getD 0 undef) h K1 Q) [s0, s2, s3, s9] [(.int .i64 0)] h
def Map_su_nodeScan.j7 (h : Heap) (Q : Value → Heap → Prop) : Prop :=
    Q (.bool true) h
def Map_su_nodeScan.j10 (s2 : Value) (s9 : Value) (s10 : Value) (h : Heap) (K1 : List Value → Heap → Prop) (Q : Value → Heap → Prop) : Prop :=
    arith (· + ·) s10 (.int .i64 1) fun t26 =>
    K1 [t26] h
def Map_su_nodeScan.j9 (s2 : Value) (s9 : Value) (s10 : Value) (h : Heap) (K1 : List Value → Heap → Prop) (Q : Value → Heap → Prop) : Prop :=
    nilck s9 fun t29 =>
    fld 2 t29 fun t30 =>
    load1 t30 h fun t31 =>
    idx 1 t31 s10 fun t33 =>
    fld 0 t33 fun t34 =>
    load1 t34 h fun t35 =>
    nilck s9 fun t37 =>
    fld 2 t37 fun t38 =>
    load1 t38 h fun t39 =>
    idx 1 t39 s10 fun t41 =>
    fldZ Try.prog 0 t41 h fun t42 =>
    loadN 0 t42 h fun t43 =>
    callV Try.prog s2 #[t35, t43] h fun t44 h =>
    notV t44 fun t45 =>
    ifV t45
    (Q (.bool false) h)
    (Map_su_nodeScan.j10 s2 s9 s10 h K1 Q)
def Map_su_nodeScan.l8.b (c2 : Value) (c9 : Value) (s10 : Value) (h : Heap) (K1 : List Value → Heap → Prop) (Q : Value → Heap → Prop) : Prop :=
    nilck c9 fun t20 =>
    fld 2 t20 fun t21 =>
    load1 t21 h fun t22 =>
    lenV t22 fun t23 =>
    cmpI (fun a b => decide (a < b)) s10 t23 fun t24 =>
    ifV t24
    (Map_su_nodeScan.j9 c2 c9 s10 h K1 Q)
    (Map_su_nodeScan.j7 h Q)
def Map_su_nodeScan.sh (a0 : Value) (a1 : Value) (a2 : Value) (a3 : Value) (h : Heap) (Q : Value → Heap → Prop) : Prop :=
    Map_su_isoLoad.call #[a0, a1, a3] h fun t15 h =>
    mapNode_su_leaf.call #[t15] h fun t17 h =>
    ifV t17
    (loopC (fun c s h K1 => Map_su_nodeScan.l8.b (c.getD 0 undef) (c.getD 1 undef) (s.getD 0 undef) h K1 Q) [a2, t15] [(.int .i64 0)] h)
    (Map_su_nodeScan.j1 a0 a2 a3 t15 h Q)
theorem Map_su_nodeScan.body (a0 : Value) (a1 : Value) (a2 : Value) (a3 : Value) (h : Heap) (Q : Value → Heap → Prop) (H : Map_su_nodeScan.sh a0 a1 a2 a3 h Q) : Map_su_nodeScan.call #[a0, a1, a2, a3] h Q := by
  refine callsH_of (args := [a0, a1, a2, a3]) Try.func71 rfl rfl ?_
  unfold Map_su_nodeScan.sh at H
  refine WPc_seq' ?_
  refine W_region (by kernel_rfl) ?_
  refine vl_n ?_
  refine H_of_R (R_assign (v := (.bool false)) rfl ?_)
  refine vl_e ?_
  refine WPc_seq' ?_
  refine W_region (by kernel_rfl) ?_
  refine vl_n ?_
  refine H_of_R (R_move (v := a0) rfl ?_)
  refine vl_n ?_
  refine H_of_R (R_move (v := a1) rfl ?_)
  refine vl_n ?_
  refine H_of_R (R_move (v := a3) rfl ?_)
  refine vl_n ?_
  refine H_call HB_62 H fun t15 h H => ?_
  refine vl_n ?_
  refine H_of_R (R_assign (v := t15) rfl ?_)
  refine vl_e ?_
  refine WPc_seq (fun e h => Map_su_nodeScan.j1 (e 0) (e 2) (e 3) (e 9) h Q) ?_ (fun e h H => ?_)
  rotate_left
  · unfold Map_su_nodeScan.j1 at H
    refine WPc_seq (fun e h => Map_su_nodeScan.j2 (e 0) (e 2) (e 3) (e 9) h Q) ?_ (fun e h H => ?_)
    rotate_left
    · unfold Map_su_nodeScan.j2 at H
      refine WPc_seq' ?_
      refine W_drawn [0, 0, 2, 6, 14, 30, 62, 0, 128, 384, 896, 1920, 3968, 8064, 16256, 32766, 0, 0, 262143, 524287] (.take 0 (.take 1 (.take 2 (.take 3 (.take 4 (.take 5 (.take 6 (.take 7 (.take 8 (.take 9 (.take 10 (.take 11 (.take 12 (.take 13 (.take 14 (.take 15 (.take 16 (.take 17 (.alt 18 (.take 19 .done) .none))))))))))))))))))) mixed (by kernel_rfl) ?_
      refine tkP rfl ?_
      refine R_move (v := (e 0)) rfl ⟨fun _ => trivial, ?_⟩
      refine tkP rfl ?_
      refine R_move (v := (e 9)) rfl ⟨fun _ => trivial, ?_⟩
      refine tkP rfl ?_
      refine R_nil H fun t89 H => ⟨fun _ => trivial, ?_⟩
      refine tkP rfl ?_
      refine R_fld TF_82_3 H fun t90 H => ⟨fun _ => trivial, ?_⟩
      refine tkL rfl ?_
      refine R_load1 T1_80 H fun at91 t91 hat91 _ H => ?_
      refine tkP rfl ?_
      refine R_nil H fun t92 H => ⟨fun _ => trivial, ?_⟩
      refine tkL rfl ?_
      refine R_load1 T1_88 H fun at93 t93 hat93 _ H => ?_
      refine tkP rfl ?_
      refine R_move (v := (e 9)) rfl ⟨fun _ => trivial, ?_⟩
      refine tkP rfl ?_
      refine R_nil H fun t95 H => ⟨fun _ => trivial, ?_⟩
      refine tkP rfl ?_
      refine R_fld TF_82_3 H fun t96 H => ⟨fun _ => trivial, ?_⟩
      refine tkL rfl ?_
      refine R_load1 T1_80 H fun at97 t97 hat97 _ H => ?_
      refine tkP rfl ?_
      refine R_nil H fun t98 H => ⟨fun _ => trivial, ?_⟩
      refine tkL rfl ?_
      refine R_load1 T1_88 H fun at99 t99 hat99 _ H => ?_
      refine tkP rfl ?_
      refine R_len Try.underlying88 H fun t100 H => ⟨fun _ => trivial, ?_⟩
      refine tkP rfl ?_
      refine R_sub H fun t101 H => ⟨fun _ => trivial, ?_⟩
      refine tkP rfl ?_
      refine R_idx TE_88 H fun t102 H => ⟨fun _ => trivial, ?_⟩
      refine tkP rfl ?_
      refine R_move (v := (e 2)) rfl ⟨fun _ => trivial, ?_⟩
      refine tkP rfl ?_
      refine R_move (v := (e 3)) rfl ⟨fun _ => trivial, ?_⟩
      refine alt_n rfl ?_ vp_none
      refine H_call HB_71 H fun t105 h H => ⟨(hskip rfl (hskip rfl (hskip rfl (hskip rfl hnil)))), ?_⟩
      refine tkP rfl ?_
      refine R_assign (v := t105) rfl ⟨fun _ => trivial, ?_⟩
      refine vp_done ?_
      refine WPc_ret ?_
      refine resH_of rfl ?_
      exact H
    refine WPc_seq' ?_
    refine W_region (by kernel_rfl) ?_
    refine vl_n ?_
    refine H_of_R (R_assign (v := (.int .i64 0)) rfl ?_)
    refine vl_e ?_
    refine WPc_block ?_
    refine loop_at (fun e => [e 11]) (fun e => [e 0, e 2, e 3, e 9]) H rfl rfl ?_
    intro K1 e1 h H hin1
    replace H : Map_su_nodeScan.l3.b (e1 0) (e1 2) (e1 3) (e1 9) (e1 11) h K1 Q := H
    unfold Map_su_nodeScan.l3.b at H
    clear hin1
    refine WPc_seq (fun e h => Map_su_nodeScan.j4 (e 0) (e 2) (e 3) (e 9) (e 11) h K1 Q ∧ [e1 0, e1 2, e1 3, e1 9] = [e 0, e 2, e 3, e 9]) ?_ (fun e h ⟨H, hq1⟩ => ?_)
    rotate_left
    · unfold Map_su_nodeScan.j4 at H
      refine WPc_seq (fun e h => Map_su_nodeScan.j5 (e 0) (e 2) (e 3) (e 9) (e 11) h K1 Q ∧ [e1 0, e1 2, e1 3, e1 9] = [e 0, e 2, e 3, e 9]) ?_ (fun e h ⟨H, hq1⟩ => ?_)
      rotate_left
      · unfold Map_su_nodeScan.j5 at H
        refine W_region (by kernel_rfl) ?_
        refine vl_n ?_
        refine H_of_R (R_move (v := (e 11)) rfl ?_)
        refine vl_n ?_
        refine H_of_R (R_add H fun t54 H => ?_)
        refine vl_n ?_
        refine H_of_R (R_assign (v := t54) rfl ?_)
        refine vl_e ?_
        exact ⟨H, hq1⟩
      refine WPc_block ?_
      refine WPc_seq (fun e h => Map_su_nodeScan.j6 (e 0) (e 2) (e 3) (e 9) (e 11) h K1 Q ∧ [e1 0, e1 2, e1 3, e1 9] = [e 0, e 2, e 3, e 9]) ?_ (fun e h ⟨H, hq1⟩ => ?_)
      rotate_left
      · unfold Map_su_nodeScan.j6 at H
        refine WPc_seq' ?_
        refine W_drawn [0, 0, 2, 6, 14, 0, 62, 126, 254, 0, 512, 1536, 3584, 0, 15872, 32256, 65024, 131071, 262143] (.take 0 (.take 1 (.take 2 (.take 3 (.take 4 (.take 5 (.take 6 (.take 7 (.take 8 (.take 9 (.take 10 (.take 11 (.take 12 (.take 13 (.take 14 (.take 15 (.take 16 (.alt 17 (.take 18 .done) .none)))))))))))))))))) mixed (by kernel_rfl) ?_
        refine tkP rfl ?_
        refine R_move (v := (e 2)) rfl ⟨fun _ => trivial, ?_⟩
        refine tkP rfl ?_
        refine R_move (v := (e 9)) rfl ⟨fun _ => trivial, ?_⟩
        refine tkP rfl ?_
        refine R_nil H fun t70 H => ⟨fun _ => trivial, ?_⟩
        refine tkP rfl ?_
        refine R_fld TF_82_2 H fun t71 H => ⟨fun _ => trivial, ?_⟩
        refine tkL rfl ?_
        refine R_load1 T1_79 H fun at72 t72 hat72 _ H => ?_
        refine tkP rfl ?_
        refine R_move (v := (e 11)) rfl ⟨fun _ => trivial, ?_⟩
        refine tkP rfl ?_
        refine R_idx TE_79 H fun t74 H => ⟨fun _ => trivial, ?_⟩
        refine tkP rfl ?_
        refine R_fld TF_61_1 H fun t75 H => ⟨fun _ => trivial, ?_⟩
        refine tkL rfl ?_
        refine R_load1 T1_9 H fun at76 t76 hat76 _ H => ?_
        refine tkP rfl ?_
        refine R_move (v := (e 9)) rfl ⟨fun _ => trivial, ?_⟩
        refine tkP rfl ?_
        refine R_nil H fun t78 H => ⟨fun _ => trivial, ?_⟩
        refine tkP rfl ?_
        refine R_fld TF_82_2 H fun t79 H => ⟨fun _ => trivial, ?_⟩
        refine tkL rfl ?_
        refine R_load1 T1_79 H fun at80 t80 hat80 _ H => ?_
        refine tkP rfl ?_
        refine R_move (v := (e 11)) rfl ⟨fun _ => trivial, ?_⟩
        refine tkP rfl ?_
        refine R_idx TE_79 H fun t82 H => ⟨fun _ => trivial, ?_⟩
        refine tkL rfl ?_
        refine R_fldZ TFZ_61_0 H fun t83 H _ => ?_
        refine tkL rfl ?_
        refine R_loadN TN_59 H fun at84 xt84 hat84 _ H St84 hSt84 => ?_
        refine alt_n rfl ?_ vp_none
        refine H_callV H fun t85 h H => ⟨(hskip rfl (hskip rfl (hskip rfl (hskip rfl (hskip rfl hnil))))), ?_⟩
        refine tkP rfl ?_
        refine R_not H fun t86 H => ⟨fun _ => trivial, ?_⟩
        refine vp_done ?_
        obtain ⟨b, hc, H1, H2⟩ := H
        refine WPc_cond hc (fun hh => ?_) (fun hh => ?_)
        · have H := H1 hh; clear H1 H2
          refine WPc_seq' ?_
          refine W_region (by kernel_rfl) ?_
          refine vl_n ?_
          refine H_of_R (R_assign (v := (.bool false)) rfl ?_)
          refine vl_e ?_
          refine WPc_ret ?_
          refine resH_of rfl ?_
          exact H
        · have H := H2 hh; clear H1 H2
          refine WPc_skip ?_
          exact ⟨H, hq1⟩
      refine WPc_seq' ?_
      refine W_region (by kernel_rfl) ?_
      refine vl_n ?_
      refine H_of_R (R_move (v := (e 0)) rfl ?_)
      refine vl_n ?_
      refine H_of_R (R_move (v := (e 9)) rfl ?_)
      refine vl_n ?_
      refine H_of_R (R_nil H fun t57 H => ?_)
      refine vl_n ?_
      refine H_of_R (R_fld TF_82_3 H fun t58 H => ?_)
      refine vl_n ?_
      refine H_of_R (R_load1 T1_80 H fun _ t59 _ _ H => ?_)
      refine vl_n ?_
      refine H_of_R (R_nil H fun t60 H => ?_)
      refine vl_n ?_
      refine H_of_R (R_load1 T1_88 H fun _ t61 _ _ H => ?_)
      refine vl_n ?_
      refine H_of_R (R_move (v := (e 11)) rfl ?_)
      refine vl_n ?_
      refine H_of_R (R_idx TE_88 H fun t63 H => ?_)
      refine vl_n ?_
      refine H_of_R (R_move (v := (e 2)) rfl ?_)
      refine vl_n ?_
      refine H_of_R (R_move (v := (e 3)) rfl ?_)
      refine vl_n ?_
      refine H_call HB_71 H fun t66 h H => ?_
      refine vl_n ?_
      refine H_of_R (R_not H fun t67 H => ?_)
      refine vl_e ?_
      obtain ⟨b, hc, H1, H2⟩ := H
      refine WPc_cond hc (fun hh => ?_) (fun hh => ?_)
      · have H := H1 hh; clear H1 H2
        refine WPc_seq' ?_
        refine W_region (by kernel_rfl) ?_
        refine vl_n ?_
        refine H_of_R (R_assign (v := (.bool false)) rfl ?_)
        refine vl_e ?_
        refine WPc_ret ?_
        refine resH_of rfl ?_
        exact H
      · have H := H2 hh; clear H1 H2
        refine WPc_skip ?_
        exact ⟨H, hq1⟩
    refine WPc_seq' ?_
    refine W_region (by kernel_rfl) ?_
    refine vl_n ?_
    refine H_of_R (R_move (v := (e1 11)) rfl ?_)
    refine vl_n ?_
    refine H_of_R (R_move (v := (e1 9)) rfl ?_)
    refine vl_n ?_
    refine H_of_R (R_nil H fun t48 H => ?_)
    refine vl_n ?_
    refine H_of_R (R_fld TF_82_2 H fun t49 H => ?_)
    refine vl_n ?_
    refine H_of_R (R_load1 T1_79 H fun _ t50 _ _ H => ?_)
    refine vl_n ?_
    refine H_of_R (R_len Try.underlying79 H fun t51 H => ?_)
    refine vl_n ?_
    refine H_of_R (R_lss H fun t52 H => ?_)
    refine vl_e ?_
    obtain ⟨b, hc, H1, H2⟩ := H
    refine WPc_cond hc (fun hh => ?_) (fun hh => ?_)
    · have H := H1 hh; clear H1 H2
      refine WPc_skip ?_
      exact ⟨H, rfl⟩
    · have H := H2 hh; clear H1 H2
      refine WPc_exit ?_
      exact H
  refine WPc_seq' ?_
  refine W_region (by kernel_rfl) ?_
  refine vl_n ?_
  refine H_of_R (R_move (v := t15) rfl ?_)
  refine vl_n ?_
  refine H_call HB_63 H fun t17 h H => ?_
  refine vl_e ?_
  obtain ⟨b, hc, H1, H2⟩ := H
  refine WPc_cond hc (fun hh => ?_) (fun hh => ?_)
  · have H := H1 hh; clear H1 H2
    refine WPc_seq (fun e h => Map_su_nodeScan.j7 h Q) ?_ (fun e h H => ?_)
    rotate_left
    · unfold Map_su_nodeScan.j7 at H
      refine WPc_seq' ?_
      refine W_region (by kernel_rfl) ?_
      refine vl_n ?_
      refine H_of_R (R_assign (v := (.bool true)) rfl ?_)
      refine vl_e ?_
      refine WPc_ret ?_
      refine resH_of rfl ?_
      exact H
    refine WPc_seq' ?_
    refine W_region (by kernel_rfl) ?_
    refine vl_n ?_
    refine H_of_R (R_assign (v := (.int .i64 0)) rfl ?_)
    refine vl_e ?_
    refine WPc_block ?_
    refine loop_at (fun e => [e 10]) (fun e => [e 2, e 9]) H rfl rfl ?_
    intro K1 e1 h H hin1
    replace H : Map_su_nodeScan.l8.b (e1 2) (e1 9) (e1 10) h K1 Q := H
    unfold Map_su_nodeScan.l8.b at H
    clear hin1
    refine WPc_seq (fun e h => Map_su_nodeScan.j9 (e 2) (e 9) (e 10) h K1 Q ∧ [e1 2, e1 9] = [e 2, e 9]) ?_ (fun e h ⟨H, hq1⟩ => ?_)
    rotate_left
    · unfold Map_su_nodeScan.j9 at H
      refine WPc_seq (fun e h => Map_su_nodeScan.j10 (e 2) (e 9) (e 10) h K1 Q ∧ [e1 2, e1 9] = [e 2, e 9]) ?_ (fun e h ⟨H, hq1⟩ => ?_)
      rotate_left
      · unfold Map_su_nodeScan.j10 at H
        refine W_region (by kernel_rfl) ?_
        refine vl_n ?_
        refine H_of_R (R_move (v := (e 10)) rfl ?_)
        refine vl_n ?_
        refine H_of_R (R_add H fun t26 H => ?_)
        refine vl_n ?_
        refine H_of_R (R_assign (v := t26) rfl ?_)
        refine vl_e ?_
        exact ⟨H, hq1⟩
      refine WPc_block ?_
      refine WPc_seq' ?_
      refine W_drawn [0, 0, 2, 6, 14, 0, 62, 126, 254, 0, 512, 1536, 3584, 0, 15872, 32256, 65024, 131071, 262143] (.take 0 (.take 1 (.take 2 (.take 3 (.take 4 (.take 5 (.take 6 (.take 7 (.take 8 (.take 9 (.take 10 (.take 11 (.take 12 (.take 13 (.take 14 (.take 15 (.take 16 (.alt 17 (.take 18 .done) .none)))))))))))))))))) mixed (by kernel_rfl) ?_
      refine tkP rfl ?_
      refine R_move (v := (e 2)) rfl ⟨fun _ => trivial, ?_⟩
      refine tkP rfl ?_
      refine R_move (v := (e 9)) rfl ⟨fun _ => trivial, ?_⟩
      refine tkP rfl ?_
      refine R_nil H fun t29 H => ⟨fun _ => trivial, ?_⟩
      refine tkP rfl ?_
      refine R_fld TF_82_2 H fun t30 H => ⟨fun _ => trivial, ?_⟩
      refine tkL rfl ?_
      refine R_load1 T1_79 H fun at31 t31 hat31 _ H => ?_
      refine tkP rfl ?_
      refine R_move (v := (e 10)) rfl ⟨fun _ => trivial, ?_⟩
      refine tkP rfl ?_
      refine R_idx TE_79 H fun t33 H => ⟨fun _ => trivial, ?_⟩
      refine tkP rfl ?_
      refine R_fld TF_61_1 H fun t34 H => ⟨fun _ => trivial, ?_⟩
      refine tkL rfl ?_
      refine R_load1 T1_9 H fun at35 t35 hat35 _ H => ?_
      refine tkP rfl ?_
      refine R_move (v := (e 9)) rfl ⟨fun _ => trivial, ?_⟩
      refine tkP rfl ?_
      refine R_nil H fun t37 H => ⟨fun _ => trivial, ?_⟩
      refine tkP rfl ?_
      refine R_fld TF_82_2 H fun t38 H => ⟨fun _ => trivial, ?_⟩
      refine tkL rfl ?_
      refine R_load1 T1_79 H fun at39 t39 hat39 _ H => ?_
      refine tkP rfl ?_
      refine R_move (v := (e 10)) rfl ⟨fun _ => trivial, ?_⟩
      refine tkP rfl ?_
      refine R_idx TE_79 H fun t41 H => ⟨fun _ => trivial, ?_⟩
      refine tkL rfl ?_
      refine R_fldZ TFZ_61_0 H fun t42 H _ => ?_
      refine tkL rfl ?_
      refine R_loadN TN_59 H fun at43 xt43 hat43 _ H St43 hSt43 => ?_
      refine alt_n rfl ?_ vp_none
      refine H_callV H fun t44 h H => ⟨(hskip rfl (hskip rfl (hskip rfl (hskip rfl (hskip rfl hnil))))), ?_⟩
      refine tkP rfl ?_
      refine R_not H fun t45 H => ⟨fun _ => trivial, ?_⟩
      refine vp_done ?_
      obtain ⟨b, hc, H1, H2⟩ := H
      refine WPc_cond hc (fun hh => ?_) (fun hh => ?_)
      · have H := H1 hh; clear H1 H2
        refine WPc_seq' ?_
        refine W_region (by kernel_rfl) ?_
        refine vl_n ?_
        refine H_of_R (R_assign (v := (.bool false)) rfl ?_)
        refine vl_e ?_
        refine WPc_ret ?_
        refine resH_of rfl ?_
        exact H
      · have H := H2 hh; clear H1 H2
        refine WPc_skip ?_
        exact ⟨H, hq1⟩
    refine WPc_seq' ?_
    refine W_region (by kernel_rfl) ?_
    refine vl_n ?_
    refine H_of_R (R_move (v := (e1 10)) rfl ?_)
    refine vl_n ?_
    refine H_of_R (R_move (v := (e1 9)) rfl ?_)
    refine vl_n ?_
    refine H_of_R (R_nil H fun t20 H => ?_)
    refine vl_n ?_
    refine H_of_R (R_fld TF_82_2 H fun t21 H => ?_)
    refine vl_n ?_
    refine H_of_R (R_load1 T1_79 H fun _ t22 _ _ H => ?_)
    refine vl_n ?_
    refine H_of_R (R_len Try.underlying79 H fun t23 H => ?_)
    refine vl_n ?_
    refine H_of_R (R_lss H fun t24 H => ?_)
    refine vl_e ?_
    obtain ⟨b, hc, H1, H2⟩ := H
    refine WPc_cond hc (fun hh => ?_) (fun hh => ?_)
    · have H := H1 hh; clear H1 H2
      refine WPc_skip ?_
      exact ⟨H, rfl⟩
    · have H := H2 hh; clear H1 H2
      refine WPc_exit ?_
      exact H
  · have H := H2 hh; clear H1 H2
    refine WPc_skip ?_
    exact H
/-! ### (*pub/tidwallbtree.Map[string, struct{}]).nodeAscend -/
def Map_su_nodeAscend.j2 (h : Heap) (Q : Value → Heap → Prop) : Prop :=
    Q (.bool true) h
def Map_su_nodeAscend.j5 (s0 : Value) (s3 : Value) (s4 : Value) (s11 : Value) (s12 : Value) (h : Heap) (K1 : List Value → Heap → Prop) (Q : Value → Heap → Prop) : Prop :=
    arith (· + ·) s12 (.int .i64 1) fun t52 =>
    K1 [t52] h
def Map_su_nodeAscend.j6 (s0 : Value) (s3 : Value) (s4 : Value) (s11 : Value) (s12 : Value) (h : Heap) (K1 : List Value → Heap → Prop) (Q : Value → Heap → Prop) : Prop :=
    mapNode_su_leaf.call #[s11] h fun t73 h =>
    notV t73 fun t74 =>
    ifV t74
    (nilck s11 fun t77 =>
    fld 3 t77 fun t78 =>
    load1 t78 h fun t79 =>
    nilck t79 fun t80 =>
    load1 t80 h fun t81 =>
    arith (· + ·) s12 (.int .i64 1) fun t83 =>
    idx 1 t81 t83 fun t84 =>
    Map_su_nodeScan.call #[s0, t84, s3, s4] h fun t87 h =>
    notV t87 fun t88 =>
    ifV t88
    (Q (.bool false) h)
    (Map_su_nodeAscend.j5 s0 s3 s4 s11 s12 h K1 Q))
    (Map_su_nodeAscend.j5 s0 s3 s4 s11 s12 h K1 Q)
def Map_su_nodeAscend.j4 (s0 : Value) (s3 : Value) (s4 : Value) (s11 : Value) (s12 : Value) (h : Heap) (K1 : List Value → Heap → Prop) (Q : Value → Heap → Prop) : Prop :=
    nilck s11 fun t55 =>
    fld 2 t55 fun t56 =>
    load1 t56 h fun t57 =>
    idx 1 t57 s12 fun t59 =>
    fld 0 t59 fun t60 =>
    load1 t60 h fun t61 =>
    nilck s11 fun t63 =>
    fld 2 t63 fun t64 =>
    load1 t64 h fun t65 =>
    idx 1 t65 s12 fun t67 =>
    fldZ Try.prog 0 t67 h fun t68 =>
    loadN 0 t68 h fun t69 =>
    callV Try.prog s3 #[t61, t69] h fun t70 h =>
    notV t70 fun t71 =>
    ifV t71
    (Q (.bool false) h)
    (Map_su_nodeAscend.j6 s0 s3 s4 s11 s12 h K1 Q)
def Map_su_nodeAscend.l3.b (c0 : Value) (c3 : Value) (c4 : Value) (c11 : Value) (s12 : Value) (h : Heap) (K1 : List Value → Heap → Prop) (Q : Value → Heap → Prop) : Prop :=
    nilck c11 fun t46 =>
    fld 2 t46 fun t47 =>
    load1 t47 h fun t48 =>
    lenV t48 fun t49 =>
    cmpI (fun a b => decide (a < b)) s12 t49 fun t50 =>
    ifV t50
    (Map_su_nodeAscend.j4 c0 c3 c4 c11 s12 h K1 Q)
    (Map_su_nodeAscend.j2 h Q)
def Map_su_nodeAscend.j1 (s0 : Value) (s3 : Value) (s4 : Value) (s11 : Value) (s12 : Value) (h : Heap) (Q : Value → Heap → Prop) : Prop :=
    loopC (fun c s h K1 => Map_su_nodeAscend.l3.b (c.getD 0 undef) (c.getD 1 undef) (c.getD 2 undef) (c.getD 3 undef) (s.getD 0 undef) h K1 Q) [s0, s3, s4, s11] [s12] h
def Map_su_nodeAscend.sh (a0 : Value) (a1 : Value) (a2 : Value) (a3 : Value) (a4 : Value) (h : Heap) (Q : Value → Heap → Prop) : Prop :=
    Map_su_isoLoad.call #[a0, a1, a4] h fun t17 h =>
    Map_su_search.call #[a0, t17, a2] h fun t22 h =>
    extr 0 t22 fun t23 =>
    extr 1 t22 fun t24 =>
    notV t24 fun t26 =>
    ifV t26
    (mapNode_su_leaf.call #[t17] h fun t28 h =>
    notV t28 fun t29 =>
    ifV t29
    (nilck t17 fun t32 =>
    fld 3 t32 fun t33 =>
    load1 t33 h fun t34 =>
    nilck t34 fun t35 =>
    load1 t35 h fun t36 =>
    idx 1 t36 t23 fun t38 =>
    Map_su_nodeAscend.call #[a0, t38, a2, a3, a4] h fun t42 h =>
    notV t42 fun t43 =>
    ifV t43
    (Q (.bool false) h)
    (Map_su_nodeAscend.j1 a0 a3 a4 t17 t23 h Q))
    (Map_su_nodeAscend.j1 a0 a3 a4 t17 t23 h Q))
    (Map_su_nodeAscend.j1 a0 a3 a4 t17 t23 h Q)
theorem Map_su_nodeAscend.body (a0 : Value) (a1 : Value) (a2 : Value) (a3 : Value) (a4 : Value) (h : Heap) (Q : Value → Heap → Prop) (H : Map_su_nodeAscend.sh a0 a1 a2 a3 a4 h Q) : Map_su_nodeAscend.call #[a0, a1, a2, a3, a4] h Q := by
  refine callsH_of (args := [a0, a1, a2, a3, a4]) Try.func69 rfl rfl ?_
  unfold Map_su_nodeAscend.sh at H
  refine WPc_seq' ?_
  refine W_region (by kernel_rfl) ?_
  refine vl_n ?_
  refine H_of_R (R_assign (v := (.bool false)) rfl ?_)
  refine vl_e ?_
  refine WPc_seq' ?_
  refine W_region (by kernel_rfl) ?_
  refine vl_n ?_
  refine H_of_R (R_move (v := a0) rfl ?_)
  refine vl_n ?_
  refine H_of_R (R_move (v := a1) rfl ?_)
  refine vl_n ?_
  refine H_of_R (R_move (v := a4) rfl ?_)
  refine vl_n ?_
  refine H_call HB_62 H fun t17 h H => ?_
  refine vl_n ?_
  refine H_of_R (R_assign (v := t17) rfl ?_)
  refine vl_e ?_
  refine WPc_seq' ?_
  refine W_region (by kernel_rfl) ?_
  refine vl_n ?_
  refine H_of_R (R_move (v := a0) rfl ?_)
  refine vl_n ?_
  refine H_of_R (R_move (v := t17) rfl ?_)
  refine vl_n ?_
  refine H_of_R (R_move (v := a2) rfl ?_)
  refine vl_n ?_
  refine H_call HB_67 H fun t22 h H => ?_
  refine vl_n ?_
  refine H_of_R (R_move (v := t22) rfl ?_)
  refine vl_n ?_
  refine H_of_R (R_ext H fun t23 H => ?_)
  refine vl_n ?_
  refine H_of_R (R_ext H fun t24 H => ?_)
  refine vl_n ?_
  refine H_of_R (R_assign (v := t23) rfl ?_)
  refine vl_n ?_
  refine H_of_R (R_assign (v := t24) rfl ?_)
  refine vl_e ?_
  refine WPc_seq (fun e h => Map_su_nodeAscend.j1 (e 0) (e 3) (e 4) (e 11) (e 12) h Q) ?_ (fun e h H => ?_)
  rotate_left
  · unfold Map_su_nodeAscend.j1 at H
    refine WPc_seq (fun e h => Map_su_nodeAscend.j2 h Q) ?_ (fun e h H => ?_)
    rotate_left
    · unfold Map_su_nodeAscend.j2 at H
      refine WPc_seq' ?_
      refine W_region (by kernel_rfl) ?_
      refine vl_n ?_
      refine H_of_R (R_assign (v := (.bool true)) rfl ?_)
      refine vl_e ?_
      refine WPc_ret ?_
      refine resH_of rfl ?_
      exact H
    refine WPc_block ?_
    refine loop_at (fun e => [e 12]) (fun e => [e 0, e 3, e 4, e 11]) H rfl rfl ?_
    intro K1 e1 h H hin1
    replace H : Map_su_nodeAscend.l3.b (e1 0) (e1 3) (e1 4) (e1 11) (e1 12) h K1 Q := H
    unfold Map_su_nodeAscend.l3.b at H
    clear hin1
    refine WPc_seq (fun e h => Map_su_nodeAscend.j4 (e 0) (e 3) (e 4) (e 11) (e 12) h K1 Q ∧ [e1 0, e1 3, e1 4, e1 11] = [e 0, e 3, e 4, e 11]) ?_ (fun e h ⟨H, hq1⟩ => ?_)
    rotate_left
    · unfold Map_su_nodeAscend.j4 at H
      refine WPc_seq (fun e h => Map_su_nodeAscend.j5 (e 0) (e 3) (e 4) (e 11) (e 12) h K1 Q ∧ [e1 0, e1 3, e1 4, e1 11] = [e 0, e 3, e 4, e 11]) ?_ (fun e h ⟨H, hq1⟩ => ?_)
      rotate_left
      · unfold Map_su_nodeAscend.j5 at H
        refine W_region (by kernel_rfl) ?_
        refine vl_n ?_
        refine H_of_R (R_move (v := (e 12)) rfl ?_)
        refine vl_n ?_
        refine H_of_R (R_add H fun t52 H => ?_)
        refine vl_n ?_
        refine H_of_R (R_assign (v := t52) rfl ?_)
        refine vl_e ?_
        exact ⟨H, hq1⟩
      refine WPc_block ?_
      refine WPc_seq (fun e h => Map_su_nodeAscend.j6 (e 0) (e 3) (e 4) (e 11) (e 12) h K1 Q ∧ [e1 0, e1 3, e1 4, e1 11] = [e 0, e 3, e 4, e 11]) ?_ (fun e h ⟨H, hq1⟩ => ?_)
      rotate_left
      · unfold Map_su_nodeAscend.j6 at H
        refine WPc_seq' ?_
        refine W_region (by kernel_rfl) ?_
        refine vl_n ?_
        refine H_of_R (R_move (v := (e 11)) rfl ?_)
        refine vl_n ?_
        refine H_call HB_63 H fun t73 h H => ?_
        refine vl_n ?_
        refine H_of_R (R_not H fun t74 H => ?_)
        refine vl_e ?_
        obtain ⟨b, hc, H1, H2⟩ := H
        refine WPc_cond hc (fun hh => ?_) (fun hh => ?_)
        · have H := H1 hh; clear H1 H2
          refine WPc_seq' ?_
          refine W_region (by kernel_rfl) ?_
          refine vl_n ?_
          refine H_of_R (R_move (v := (e 0)) rfl ?_)
          refine vl_n ?_
          refine H_of_R (R_move (v := (e 11)) rfl ?_)
          refine vl_n ?_
          refine H_of_R (R_nil H fun t77 H => ?_)
          refine vl_n ?_
          refine H_of_R (R_fld TF_82_3 H fun t78 H => ?_)
          refine vl_n ?_
          refine H_of_R (R_load1 T1_80 H fun _ t79 _ _ H => ?_)
          refine vl_n ?_
          refine H_of_R (R_nil H fun t80 H => ?_)
          refine vl_n ?_
          refine H_of_R (R_load1 T1_88 H fun _ t81 _ _ H => ?_)
          refine vl_n ?_
          refine H_of_R (R_move (v := (e 12)) rfl ?_)
          refine vl_n ?_
          refine H_of_R (R_add H fun t83 H => ?_)
          refine vl_n ?_
          refine H_of_R (R_idx TE_88 H fun t84 H => ?_)
          refine vl_n ?_
          refine H_of_R (R_move (v := (e 3)) rfl ?_)
          refine vl_n ?_
          refine H_of_R (R_move (v := (e 4)) rfl ?_)
          refine vl_n ?_
          refine H_call HB_71 H fun t87 h H => ?_
          refine vl_n ?_
          refine H_of_R (R_not H fun t88 H => ?_)
          refine vl_e ?_
          obtain ⟨b_2, hc_2, H1, H2⟩ := H
          refine WPc_cond hc_2 (fun hh => ?_) (fun hh => ?_)
          · have H := H1 hh; clear H1 H2
            refine WPc_seq' ?_
            refine W_region (by kernel_rfl) ?_
            refine vl_n ?_
            refine H_of_R (R_assign (v := (.bool false)) rfl ?_)
            refine vl_e ?_
            refine WPc_ret ?_
            refine resH_of rfl ?_
            exact H
          · have H := H2 hh; clear H1 H2
            refine WPc_skip ?_
            exact ⟨H, hq1⟩
        · have H := H2 hh; clear H1 H2
          refine WPc_skip ?_
          exact ⟨H, hq1⟩
      refine WPc_seq' ?_
      refine W_drawn [0, 0, 2, 6, 14, 0, 62, 126, 254, 0, 512, 1536, 3584, 0, 15872, 32256, 65024, 131071, 262143] (.take 0 (.take 1 (.take 2 (.take 3 (.take 4 (.take 5 (.take 6 (.take 7 (.take 8 (.take 9 (.take 10 (.take 11 (.take 12 (.take 13 (.take 14 (.take 15 (.take 16 (.alt 17 (.take 18 .done) .none)))))))))))))))))) mixed (by kernel_rfl) ?_
      refine tkP rfl ?_
      refine R_move (v := (e 3)) rfl ⟨fun _ => trivial, ?_⟩
      refine tkP rfl ?_
      refine R_move (v := (e 11)) rfl ⟨fun _ => trivial, ?_⟩
      refine tkP rfl ?_
      refine R_nil H fun t55 H => ⟨fun _ => trivial, ?_⟩
      refine tkP rfl ?_
      refine R_fld TF_82_2 H fun t56 H => ⟨fun _ => trivial, ?_⟩
      refine tkL rfl ?_
      refine R_load1 T1_79 H fun at57 t57 hat57 _ H => ?_
      refine tkP rfl ?_
      refine R_move (v := (e 12)) rfl ⟨fun _ => trivial, ?_⟩
      refine tkP rfl ?_
      refine R_idx TE_79 H fun t59 H => ⟨fun _ => trivial, ?_⟩
      refine tkP rfl ?_
      refine R_fld TF_61_1 H fun t60 H => ⟨fun _ => trivial, ?_⟩
      refine tkL rfl ?_
      refine R_load1 T1_9 H fun at61 t61 hat61 _ H => ?_
      refine tkP rfl ?_
      refine R_move (v := (e 11)) rfl ⟨fun _ => trivial, ?_⟩
      refine tkP rfl ?_
      refine R_nil H fun t63 H => ⟨fun _ => trivial, ?_⟩
      refine tkP rfl ?_
      refine R_fld TF_82_2 H fun t64 H => ⟨fun _ => trivial, ?_⟩
      refine tkL rfl ?_
      refine R_load1 T1_79 H fun at65 t65 hat65 _ H => ?_
      refine tkP rfl ?_
      refine R_move (v := (e 12)) rfl ⟨fun _ => trivial, ?_⟩
      refine tkP rfl ?_
      refine R_idx TE_79 H fun t67 H => ⟨fun _ => trivial, ?_⟩
      refine tkL rfl ?_
      refine R_fldZ TFZ_61_0 H fun t68 H _ => ?_
      refine tkL rfl ?_
      refine R_loadN TN_59 H fun at69 xt69 hat69 _ H St69 hSt69 => ?_
      refine alt_n rfl ?_ vp_none
      refine H_callV H fun t70 h H => ⟨(hskip rfl (hskip rfl (hskip rfl (hskip rfl (hskip rfl hnil))))), ?_⟩
      refine tkP rfl ?_
      refine R_not H fun t71 H => ⟨fun _ => trivial, ?_⟩
      refine vp_done ?_
      obtain ⟨b, hc, H1, H2⟩ := H
      refine WPc_cond hc (fun hh => ?_) (fun hh => ?_)
      · have H := H1 hh; clear H1 H2
        refine WPc_seq' ?_
        refine W_region (by kernel_rfl) ?_
        refine vl_n ?_
        refine H_of_R (R_assign (v := (.bool false)) rfl ?_)
        refine vl_e ?_
        refine WPc_ret ?_
        refine resH_of rfl ?_
        exact H
      · have H := H2 hh; clear H1 H2
        refine WPc_skip ?_
        exact ⟨H, hq1⟩
    refine WPc_seq' ?_
    refine W_region (by kernel_rfl) ?_
    refine vl_n ?_
    refine H_of_R (R_move (v := (e1 12)) rfl ?_)
    refine vl_n ?_
    refine H_of_R (R_move (v := (e1 11)) rfl ?_)
    refine vl_n ?_
    refine H_of_R (R_nil H fun t46 H => ?_)
    refine vl_n ?_
    refine H_of_R (R_fld TF_82_2 H fun t47 H => ?_)
    refine vl_n ?_
    refine H_of_R (R_load1 T1_79 H fun _ t48 _ _ H => ?_)
    refine vl_n ?_
    refine H_of_R (R_len Try.underlying79 H fun t49 H => ?_)
    refine vl_n ?_
    refine H_of_R (R_lss H fun t50 H => ?_)
    refine vl_e ?_
    obtain ⟨b, hc, H1, H2⟩ := H
    refine WPc_cond hc (fun hh => ?_) (fun hh => ?_)
    · have H := H1 hh; clear H1 H2
      refine WPc_skip ?_
      exact ⟨H, rfl⟩
    · have H := H2 hh; clear H1 H2
      refine WPc_exit ?_
      exact H
  refine WPc_seq' ?_
  refine W_region (by kernel_rfl) ?_
  refine vl_n ?_
  refine H_of_R (R_move (v := t24) rfl ?_)
  refine vl_n ?_
  refine H_of_R (R_not H fun t26 H => ?_)
  refine vl_e ?_
  obtain ⟨b, hc, H1, H2⟩ := H
  refine WPc_cond hc (fun hh => ?_) (fun hh => ?_)
  · have H := H1 hh; clear H1 H2
    refine WPc_seq' ?_
    refine W_region (by kernel_rfl) ?_
    refine vl_n ?_
    refine H_of_R (R_move (v := t17) rfl ?_)
    refine vl_n ?_
    refine H_call HB_63 H fun t28 h H => ?_
    refine vl_n ?_
    refine H_of_R (R_not H fun t29 H => ?_)
    refine vl_e ?_
    obtain ⟨b_2, hc_2, H1, H2⟩ := H
    refine WPc_cond hc_2 (fun hh => ?_) (fun hh => ?_)
    · have H := H1 hh; clear H1 H2
      refine WPc_seq' ?_
      refine W_region (by kernel_rfl) ?_
      refine vl_n ?_
      refine H_of_R (R_move (v := a0) rfl ?_)
      refine vl_n ?_
      refine H_of_R (R_move (v := t17) rfl ?_)
      refine vl_n ?_
      refine H_of_R (R_nil H fun t32 H => ?_)
      refine vl_n ?_
      refine H_of_R (R_fld TF_82_3 H fun t33 H => ?_)
      refine vl_n ?_
      refine H_of_R (R_load1 T1_80 H fun _ t34 _ _ H => ?_)
      refine vl_n ?_
      refine H_of_R (R_nil H fun t35 H => ?_)
      refine vl_n ?_
      refine H_of_R (R_load1 T1_88 H fun _ t36 _ _ H => ?_)
      refine vl_n ?_
      refine H_of_R (R_move (v := t23) rfl ?_)
      refine vl_n ?_
      refine H_of_R (R_idx TE_88 H fun t38 H => ?_)
      refine vl_n ?_
      refine H_of_R (R_move (v := a2) rfl ?_)
      refine vl_n ?_
      refine H_of_R (R_move (v := a3) rfl ?_)
      refine vl_n ?_
      refine H_of_R (R_move (v := a4) rfl ?_)
      refine vl_n ?_
      refine H_call HB_69 H fun t42 h H => ?_
      refine vl_n ?_
      refine H_of_R (R_not H fun t43 H => ?_)
      refine vl_e ?_
      obtain ⟨b_3, hc_3, H1, H2⟩ := H
      refine WPc_cond hc_3 (fun hh => ?_) (fun hh => ?_)
      · have H := H1 hh; clear H1 H2
        refine WPc_seq' ?_
        refine W_region (by kernel_rfl) ?_
        refine vl_n ?_
        refine H_of_R (R_assign (v := (.bool false)) rfl ?_)
        refine vl_e ?_
        refine WPc_ret ?_
        refine resH_of rfl ?_
        exact H
      · have H := H2 hh; clear H1 H2
        refine WPc_skip ?_
        exact H
    · have H := H2 hh; clear H1 H2
      refine WPc_skip ?_
      exact H
  · have H := H2 hh; clear H1 H2
    refine WPc_skip ?_
    exact H
/-! ### (*pub/tidwallbtree.Map[string, struct{}]).ascend -/
def Map_su_ascend.j1 (s0 : Value) (s1 : Value) (s2 : Value) (s3 : Value) (h : Heap) (Q : Value → Heap → Prop) : Prop :=
    nilck s0 fun t15 =>
    fld 2 t15 fun t16 =>
    Map_su_nodeAscend.call #[s0, t16, s1, s2, s3] h fun t20 h =>
    Q (.tuple #[]) h
def Map_su_ascend.sh (a0 : Value) (a1 : Value) (a2 : Value) (a3 : Value) (h : Heap) (Q : Value → Heap → Prop) : Prop :=
    nilck a0 fun t9 =>
    fld 2 t9 fun t10 =>
    load1 t10 h fun t11 =>
    eqNilP t11 fun t12 =>
    ifV t12
    (Q (.tuple #[]) h)
    (Map_su_ascend.j1 a0 a1 a2 a3 h Q)
theorem Map_su_ascend.body (a0 : Value) (a1 : Value) (a2 : Value) (a3 : Value) (h : Heap) (Q : Value → Heap → Prop) (H : Map_su_ascend.sh a0 a1 a2 a3 h Q) : Map_su_ascend.call #[a0, a1, a2, a3] h Q := by
  refine callsH_of (args := [a0, a1, a2, a3]) Try.func64 rfl rfl ?_
  unfold Map_su_ascend.sh at H
  refine WPc_seq (fun e h => Map_su_ascend.j1 (e 0) (e 1) (e 2) (e 3) h Q) ?_ (fun e h H => ?_)
  rotate_left
  · unfold Map_su_ascend.j1 at H
    refine W_region (by kernel_rfl) ?_
    refine vl_n ?_
    refine H_of_R (R_move (v := (e 0)) rfl ?_)
    refine vl_n ?_
    refine H_of_R (R_move (v := (e 0)) rfl ?_)
    refine vl_n ?_
    refine H_of_R (R_nil H fun t15 H => ?_)
    refine vl_n ?_
    refine H_of_R (R_fld TF_63_2 H fun t16 H => ?_)
    refine vl_n ?_
    refine H_of_R (R_move (v := (e 1)) rfl ?_)
    refine vl_n ?_
    refine H_of_R (R_move (v := (e 2)) rfl ?_)
    refine vl_n ?_
    refine H_of_R (R_move (v := (e 3)) rfl ?_)
    refine vl_n ?_
    refine H_call HB_69 H fun t20 h H => ?_
    refine vl_e ?_
    refine resH_of rfl ?_
    exact H
  refine WPc_seq' ?_
  refine W_region (by kernel_rfl) ?_
  refine vl_n ?_
  refine H_of_R (R_move (v := a0) rfl ?_)
  refine vl_n ?_
  refine H_of_R (R_nil H fun t9 H => ?_)
  refine vl_n ?_
  refine H_of_R (R_fld TF_63_2 H fun t10 H => ?_)
  refine vl_n ?_
  refine H_of_R (R_load1 T1_58 H fun _ t11 _ _ H => ?_)
  refine vl_n ?_
  refine H_of_R (R_eqNilP Try.underlying58 rfl H fun t12 H => ?_)
  refine vl_e ?_
  obtain ⟨b, hc, H1, H2⟩ := H
  refine WPc_cond hc (fun hh => ?_) (fun hh => ?_)
  · have H := H1 hh; clear H1 H2
    refine WPc_ret ?_
    refine resH_of rfl ?_
    exact H
  · have H := H2 hh; clear H1 H2
    refine WPc_skip ?_
    exact H
/-! ### (*pub/tidwallbtree.Map[string, struct{}]).Ascend -/
def Map_su_Ascend.sh (a0 : Value) (a1 : Value) (a2 : Value) (h : Heap) (Q : Value → Heap → Prop) : Prop :=
    Map_su_ascend.call #[a0, a1, a2, (.bool false)] h fun t9 h =>
    Q (.tuple #[]) h
theorem Map_su_Ascend.body (a0 : Value) (a1 : Value) (a2 : Value) (h : Heap) (Q : Value → Heap → Prop) (H : Map_su_Ascend.sh a0 a1 a2 h Q) : Map_su_Ascend.call #[a0, a1, a2] h Q := by
  refine callsH_of (args := [a0, a1, a2]) Try.func47 rfl rfl ?_
  unfold Map_su_Ascend.sh at H
  refine W_region (by kernel_rfl) ?_
  refine vl_n ?_
  refine H_of_R (R_move (v := a0) rfl ?_)
  refine vl_n ?_
  refine H_of_R (R_move (v := a1) rfl ?_)
  refine vl_n ?_
  refine H_of_R (R_move (v := a2) rfl ?_)
  refine vl_n ?_
  refine H_call HB_64 H fun t9 h H => ?_
  refine vl_e ?_
  refine resH_of rfl ?_
  exact H
/-! ### (*pub/tidwallbtree.Set[string]).Ascend$1 -/
def Set_s_Ascend_c1.sh (a0 : Value) (a1 : Value) (f0 : Value) (h : Heap) (Q : Value → Heap → Prop) : Prop :=
    box 59 a1 h fun t4 h =>
    load1 f0 h fun t6 =>
    callV Try.prog t6 #[a0] h fun t8 h =>
    Q t8 h
theorem Set_s_Ascend_c1.body (a0 : Value) (a1 : Value) (f0 : Value) (h : Heap) (Q : Value → Heap → Prop) (H : Set_s_Ascend_c1.sh a0 a1 f0 h Q) : Set_s_Ascend_c1.call #[a0, a1, f0] h Q := by
  refine callsH_of (args := [a0, a1, f0]) Try.func48 rfl rfl ?_
  unfold Set_s_Ascend_c1.sh at H
  refine WPc_seq' ?_
  refine W_region (by kernel_rfl) ?_
  refine vl_n ?_
  refine H_box H fun t4 h H => ?_
  refine vl_n ?_
  refine H_of_R (R_assign (v := (.bool false)) rfl ?_)
  refine vl_e ?_
  refine WPc_seq' ?_
  refine W_region (by kernel_rfl) ?_
  refine vl_n ?_
  refine H_of_R (R_load1 T1_46 H fun _ t6 _ _ H => ?_)
  refine vl_n ?_
  refine H_of_R (R_move (v := a0) rfl ?_)
  refine vl_n ?_
  refine H_callV H fun t8 h H => ?_
  refine vl_n ?_
  refine H_of_R (R_assign (v := t8) rfl ?_)
  refine vl_e ?_
  refine WPc_ret ?_
  refine resH_of rfl ?_
  exact H
/-! ### (*pub/tidwallbtree.Set[string]).Ascend -/
def Set_s_Ascend.sh (a0 : Value) (a1 : Value) (a2 : Value) (h : Heap) (Q : Value → Heap → Prop) : Prop :=
    box 46 a2 h fun t5 h =>
    nilck a0 fun t7 =>
    fld 0 t7 fun t8 =>
    Map_su_Ascend.call #[t8, a1, (.func (.func 48) #[] #[t5])] h fun t11 h =>
    Q (.tuple #[]) h
theorem Set_s_Ascend.body (a0 : Value) (a1 : Value) (a2 : Value) (h : Heap) (Q : Value → Heap → Prop) (H : Set_s_Ascend.sh a0 a1 a2 h Q) : Set_s_Ascend.call #[a0, a1, a2] h Q := by
  refine callsH_of (args := [a0, a1, a2]) Try.func33 rfl rfl ?_
  unfold Set_s_Ascend.sh at H
  refine WPc_seq' ?_
  refine W_region (by kernel_rfl) ?_
  refine vl_n ?_
  refine H_box H fun t5 h H => ?_
  refine vl_e ?_
  refine W_region (by kernel_rfl) ?_
  refine vl_n ?_
  refine H_of_R (R_move (v := a0) rfl ?_)
  refine vl_n ?_
  refine H_of_R (R_nil H fun t7 H => ?_)
  refine vl_n ?_
  refine H_of_R (R_fld TF_65_0 H fun t8 H => ?_)
  refine vl_n ?_
  refine H_of_R (R_move (v := a1) rfl ?_)
  refine vl_n ?_
  refine H_of_R (R_mkFn (v := (.func (.func 48) #[] #[t5])) rfl ?_)
  refine vl_n ?_
  refine H_call HB_47 H fun t11 h H => ?_
  refine vl_e ?_
  refine resH_of rfl ?_
  exact H

end Go.Proofs.Ytfojeibloilneaa
