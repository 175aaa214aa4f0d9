/-
  Shallow forms of the walked functions, and that each call comes to its form. Written by a program of this repo (gen.py). Conditions: none.
-/
import Derived.Test.YtfojeibloilneaaST
namespace Go.Proofs.Ytfojeibloilneaa
open Go.Hp
set_option maxRecDepth 100000
set_option maxHeartbeats 8000000
set_option linter.unusedVariables false
set_option linter.unusedSimpArgs false

/-! ### (*pub/tidwallbtree.Map[string, struct{}]).nodeReverse -/
def Map_su_nodeReverse.j3 (h : Heap) (Q : Value → Heap → Prop) : Prop :=
    Q (.bool true) h
def Map_su_nodeReverse.j6 (s0 : Value) (s2 : Value) (s3 : Value) (s9 : Value) (s11 : Value) (h : Heap) (K1 : List Value → Heap → Prop) (Q : Value → Heap → Prop) : Prop :=
    arith (· - ·) s11 (.int .i64 1) fun t76 =>
    K1 [t76] h
def Map_su_nodeReverse.j7 (s0 : Value) (s2 : Value) (s3 : Value) (s9 : Value) (s11 : Value) (h : Heap) (K1 : List Value → Heap → Prop) (Q : Value → Heap → Prop) : Prop :=
    nilck s9 fun t98 =>
    fld 3 t98 fun t99 =>
    load1 t99 h fun t100 =>
    nilck t100 fun t101 =>
    load1 t101 h fun t102 =>
    idx 1 t102 s11 fun t104 =>
    Map_su_nodeReverse.call #[s0, t104, s2, s3] h fun t107 h =>
    notV t107 fun t108 =>
    ifV t108
    (Q (.bool false) h)
    (Map_su_nodeReverse.j6 s0 s2 s3 s9 s11 h K1 Q)
def Map_su_nodeReverse.j5 (s0 : Value) (s2 : Value) (s3 : Value) (s9 : Value) (s11 : Value) (h : Heap) (K1 : List Value → Heap → Prop) (Q : Value → Heap → Prop) : Prop :=
    nilck s9 fun t79 =>
    fld 2 t79 fun t80 =>
    load1 t80 h fun t81 =>
    idx 1 t81 s11 fun t83 =>
    fld 0 t83 fun t84 =>
    load1 t84 h fun t85 =>
    nilck s9 fun t87 =>
    fld 2 t87 fun t88 =>
    load1 t88 h fun t89 =>
    idx 1 t89 s11 fun t91 =>
    fldZ Try.prog 0 t91 h fun t92 =>
    loadN 0 t92 h fun t93 =>
    callV Try.prog s2 #[t85, t93] h fun t94 h =>
    notV t94 fun t95 =>
    ifV t95
    (Q (.bool false) h)
    (Map_su_nodeReverse.j7 s0 s2 s3 s9 s11 h K1 Q)
def Map_su_nodeReverse.l4.b (c0 : Value) (c2 : Value) (c3 : Value) (c9 : Value) (s11 : Value) (h : Heap) (K1 : List Value → Heap → Prop) (Q : Value → Heap → Prop) : Prop :=
    cmpI (fun a b => decide (a ≥ b)) s11 (.int .i64 0) fun t74 =>
    ifV t74
    (Map_su_nodeReverse.j5 c0 c2 c3 c9 s11 h K1 Q)
    (Map_su_nodeReverse.j3 h Q)
def Map_su_nodeReverse.j2 (s0 : Value) (s2 : Value) (s3 : Value) (s9 : Value) (h : Heap) (Q : Value → Heap → Prop) : Prop :=
    nilck s9 fun t68 =>
    fld 2 t68 fun t69 =>
    load1 t69 h fun t70 =>
    lenV t70 fun t71 =>
    arith (· - ·) t71 (.int .i64 1) fun t72 =>
    loopC (fun c s h K1 => Map_su_nodeReverse.l4.b (c.getD 0 undef) (c.getD 1 undef) (c.getD 2 undef) (c.getD 3 undef) (s.getD 0 undef) h K1 Q) [s0, s2, s3, s9] [t72] h
def Map_su_nodeReverse.j1 (s0 : Value) (s2 : Value) (s3 : Value) (s9 : Value) (h : Heap) (Q : Value → Heap → Prop) : Prop :=
    nilck s9 fun t49 =>
    fld 3 t49 fun t50 =>
    load1 t50 h fun t51 =>
    nilck t51 fun t52 =>
    load1 t52 h fun t53 =>
    nilck s9 fun t55 =>
    fld 3 t55 fun t56 =>
    load1 t56 h fun t57 =>
    nilck t57 fun t58 =>
    load1 t58 h fun t59 =>
    lenV t59 fun t60 =>
    arith (· - ·) t60 (.int .i64 1) fun t61 =>
    idx 1 t53 t61 fun t62 =>
    Map_su_nodeReverse.call #[s0, t62, s2, s3] h fun t65 h =>
    notV t65 fun t66 =>
    ifV t66
    (Q (.bool false) h)
    (Map_su_nodeReverse.j2 s0 s2 s3 s9 h Q)
def Map_su_nodeReverse.j8 (h : Heap) (Q : Value → Heap → Prop) : Prop :=
    Q (.bool true) h
def Map_su_nodeReverse.j11 (s2 : Value) (s9 : Value) (s10 : Value) (h : Heap) (K1 : List Value → Heap → Prop) (Q : Value → Heap → Prop) : Prop :=
    arith (· - ·) s10 (.int .i64 1) fun t27 =>
    K1 [t27] h
def Map_su_nodeReverse.j10 (s2 : Value) (s9 : Value) (s10 : Value) (h : Heap) (K1 : List Value → Heap → Prop) (Q : Value → Heap → Prop) : Prop :=
    nilck s9 fun t30 =>
    fld 2 t30 fun t31 =>
    load1 t31 h fun t32 =>
    idx 1 t32 s10 fun t34 =>
    fld 0 t34 fun t35 =>
    load1 t35 h fun t36 =>
    nilck s9 fun t38 =>
    fld 2 t38 fun t39 =>
    load1 t39 h fun t40 =>
    idx 1 t40 s10 fun t42 =>
    fldZ Try.prog 0 t42 h fun t43 =>
    loadN 0 t43 h fun t44 =>
    callV Try.prog s2 #[t36, t44] h fun t45 h =>
    notV t45 fun t46 =>
    ifV t46
    (Q (.bool false) h)
    (Map_su_nodeReverse.j11 s2 s9 s10 h K1 Q)
def Map_su_nodeReverse.l9.b (c2 : Value) (c9 : Value) (s10 : Value) (h : Heap) (K1 : List Value → Heap → Prop) (Q : Value → Heap → Prop) : Prop :=
    cmpI (fun a b => decide (a ≥ b)) s10 (.int .i64 0) fun t25 =>
    ifV t25
    (Map_su_nodeReverse.j10 c2 c9 s10 h K1 Q)
    (Map_su_nodeReverse.j8 h Q)
def Map_su_nodeReverse.sh (a0 : Value) (a1 : Value) (a2 : Value) (a3 : Value) (h : Heap) (Q : Value → Heap → Prop) : Prop :=
    Map_su_isoLoad.call #[a0, a1, a3] h fun t15 h =>
    mapNode_su_leaf.call #[t15] h fun t17 h =>
    ifV t17
    (nilck t15 fun t19 =>
    fld 2 t19 fun t20 =>
    load1 t20 h fun t21 =>
    lenV t21 fun t22 =>
    arith (· - ·) t22 (.int .i64 1) fun t23 =>
    loopC (fun c s h K1 => Map_su_nodeReverse.l9.b (c.getD 0 undef) (c.getD 1 undef) (s.getD 0 undef) h K1 Q) [a2, t15] [t23] h)
    (Map_su_nodeReverse.j1 a0 a2 a3 t15 h Q)
theorem Map_su_nodeReverse.body (a0 : Value) (a1 : Value) (a2 : Value) (a3 : Value) (h : Heap) (Q : Value → Heap → Prop) (H : Map_su_nodeReverse.sh a0 a1 a2 a3 h Q) : Map_su_nodeReverse.call #[a0, a1, a2, a3] h Q := by
  refine callsH_of (args := [a0, a1, a2, a3]) Try.func72 rfl rfl ?_
  unfold Map_su_nodeReverse.sh at H
  refine WPc_seq' ?_
  refine W_region (by kernel_rfl) ?_
  refine vl_n ?_
  refine H_of_R (R_assign (v := (.bool false)) rfl ?_)
  refine vl_e ?_
  refine WPc_seq' ?_
  refine W_region (by kernel_rfl) ?_
  refine vl_n ?_
  refine H_of_R (R_move (v := a0) rfl ?_)
  refine vl_n ?_
  refine H_of_R (R_move (v := a1) rfl ?_)
  refine vl_n ?_
  refine H_of_R (R_move (v := a3) rfl ?_)
  refine vl_n ?_
  refine H_call HB_62 H fun t15 h H => ?_
  refine vl_n ?_
  refine H_of_R (R_assign (v := t15) rfl ?_)
  refine vl_e ?_
  refine WPc_seq (fun e h => Map_su_nodeReverse.j1 (e 0) (e 2) (e 3) (e 9) h Q) ?_ (fun e h H => ?_)
  rotate_left
  · unfold Map_su_nodeReverse.j1 at H
    refine WPc_seq (fun e h => Map_su_nodeReverse.j2 (e 0) (e 2) (e 3) (e 9) h Q) ?_ (fun e h H => ?_)
    rotate_left
    · unfold Map_su_nodeReverse.j2 at H
      refine WPc_seq (fun e h => Map_su_nodeReverse.j3 h Q) ?_ (fun e h H => ?_)
      rotate_left
      · unfold Map_su_nodeReverse.j3 at H
        refine WPc_seq' ?_
        refine W_region (by kernel_rfl) ?_
        refine vl_n ?_
        refine H_of_R (R_assign (v := (.bool true)) rfl ?_)
        refine vl_e ?_
        refine WPc_ret ?_
        refine resH_of rfl ?_
        exact H
      refine WPc_seq' ?_
      refine W_region (by kernel_rfl) ?_
      refine vl_n ?_
      refine H_of_R (R_move (v := (e 9)) rfl ?_)
      refine vl_n ?_
      refine H_of_R (R_nil H fun t68 H => ?_)
      refine vl_n ?_
      refine H_of_R (R_fld TF_82_2 H fun t69 H => ?_)
      refine vl_n ?_
      refine H_of_R (R_load1 T1_79 H fun _ t70 _ _ H => ?_)
      refine vl_n ?_
      refine H_of_R (R_len Try.underlying79 H fun t71 H => ?_)
      refine vl_n ?_
      refine H_of_R (R_sub H fun t72 H => ?_)
      refine vl_n ?_
      refine H_of_R (R_assign (v := t72) rfl ?_)
      refine vl_e ?_
      refine WPc_block ?_
      refine loop_at (fun e => [e 11]) (fun e => [e 0, e 2, e 3, e 9]) H rfl rfl ?_
      intro K1 e1 h H hin1
      replace H : Map_su_nodeReverse.l4.b (e1 0) (e1 2) (e1 3) (e1 9) (e1 11) h K1 Q := H
      unfold Map_su_nodeReverse.l4.b at H
      clear hin1
      refine WPc_seq (fun e h => Map_su_nodeReverse.j5 (e 0) (e 2) (e 3) (e 9) (e 11) h K1 Q ∧ [e1 0, e1 2, e1 3, e1 9] = [e 0, e 2, e 3, e 9]) ?_ (fun e h ⟨H, hq1⟩ => ?_)
      rotate_left
      · unfold Map_su_nodeReverse.j5 at H
        refine WPc_seq (fun e h => Map_su_nodeReverse.j6 (e 0) (e 2) (e 3) (e 9) (e 11) h K1 Q ∧ [e1 0, e1 2, e1 3, e1 9] = [e 0, e 2, e 3, e 9]) ?_ (fun e h ⟨H, hq1⟩ => ?_)
        rotate_left
        · unfold Map_su_nodeReverse.j6 at H
          refine W_region (by kernel_rfl) ?_
          refine vl_n ?_
          refine H_of_R (R_move (v := (e 11)) rfl ?_)
          refine vl_n ?_
          refine H_of_R (R_sub H fun t76 H => ?_)
          refine vl_n ?_
          refine H_of_R (R_assign (v := t76) rfl ?_)
          refine vl_e ?_
          exact ⟨H, hq1⟩
        refine WPc_block ?_
        refine WPc_seq (fun e h => Map_su_nodeReverse.j7 (e 0) (e 2) (e 3) (e 9) (e 11) h K1 Q ∧ [e1 0, e1 2, e1 3, e1 9] = [e 0, e 2, e 3, e 9]) ?_ (fun e h ⟨H, hq1⟩ => ?_)
        rotate_left
        · unfold Map_su_nodeReverse.j7 at H
          refine WPc_seq' ?_
          refine W_region (by kernel_rfl) ?_
          refine vl_n ?_
          refine H_of_R (R_move (v := (e 0)) rfl ?_)
          refine vl_n ?_
          refine H_of_R (R_move (v := (e 9)) rfl ?_)
          refine vl_n ?_
          refine H_of_R (R_nil H fun t98 H => ?_)
          refine vl_n ?_
          refine H_of_R (R_fld TF_82_3 H fun t99 H => ?_)
          refine vl_n ?_
          refine H_of_R (R_load1 T1_80 H fun _ t100 _ _ H => ?_)
          refine vl_n ?_
          refine H_of_R (R_nil H fun t101 H => ?_)
          refine vl_n ?_
          refine H_of_R (R_load1 T1_88 H fun _ t102 _ _ H => ?_)
          refine vl_n ?_
          refine H_of_R (R_move (v := (e 11)) rfl ?_)
          refine vl_n ?_
          refine H_of_R (R_idx TE_88 H fun t104 H => ?_)
          refine vl_n ?_
          refine H_of_R (R_move (v := (e 2)) rfl ?_)
          refine vl_n ?_
          refine H_of_R (R_move (v := (e 3)) rfl ?_)
          refine vl_n ?_
          refine H_call HB_72 H fun t107 h H => ?_
          refine vl_n ?_
          refine H_of_R (R_not H fun t108 H => ?_)
          refine vl_e ?_
          obtain ⟨b, hc, H1, H2⟩ := H
          refine WPc_cond hc (fun hh => ?_) (fun hh => ?_)
          · have H := H1 hh; clear H1 H2
            refine WPc_seq' ?_
            refine W_region (by kernel_rfl) ?_
            refine vl_n ?_
            refine H_of_R (R_assign (v := (.bool false)) rfl ?_)
            refine vl_e ?_
            refine WPc_ret ?_
            refine resH_of rfl ?_
            exact H
          · have H := H2 hh; clear H1 H2
            refine WPc_skip ?_
            exact ⟨H, hq1⟩
        refine WPc_seq' ?_
        refine W_drawn [0, 0, 2, 6, 14, 0, 62, 126, 254, 0, 512, 1536, 3584, 0, 15872, 32256, 65024, 131071, 262143] (.take 0 (.take 1 (.take 2 (.take 3 (.take 4 (.take 5 (.take 6 (.take 7 (.take 8 (.take 9 (.take 10 (.take 11 (.take 12 (.take 13 (.take 14 (.take 15 (.take 16 (.alt 17 (.take 18 .done) .none)))))))))))))))))) mixed (by kernel_rfl) ?_
        refine tkP rfl ?_
        refine R_move (v := (e 2)) rfl ⟨fun _ => trivial, ?_⟩
        refine tkP rfl ?_
        refine R_move (v := (e 9)) rfl ⟨fun _ => trivial, ?_⟩
        refine tkP rfl ?_
        refine R_nil H fun t79 H => ⟨fun _ => trivial, ?_⟩
        refine tkP rfl ?_
        refine R_fld TF_82_2 H fun t80 H => ⟨fun _ => trivial, ?_⟩
        refine tkL rfl ?_
        refine R_load1 T1_79 H fun at81 t81 hat81 _ H => ?_
        refine tkP rfl ?_
        refine R_move (v := (e 11)) rfl ⟨fun _ => trivial, ?_⟩
        refine tkP rfl ?_
        refine R_idx TE_79 H fun t83 H => ⟨fun _ => trivial, ?_⟩
        refine tkP rfl ?_
        refine R_fld TF_61_1 H fun t84 H => ⟨fun _ => trivial, ?_⟩
        refine tkL rfl ?_
        refine R_load1 T1_9 H fun at85 t85 hat85 _ H => ?_
        refine tkP rfl ?_
        refine R_move (v := (e 9)) rfl ⟨fun _ => trivial, ?_⟩
        refine tkP rfl ?_
        refine R_nil H fun t87 H => ⟨fun _ => trivial, ?_⟩
        refine tkP rfl ?_
        refine R_fld TF_82_2 H fun t88 H => ⟨fun _ => trivial, ?_⟩
        refine tkL rfl ?_
        refine R_load1 T1_79 H fun at89 t89 hat89 _ H => ?_
        refine tkP rfl ?_
        refine R_move (v := (e 11)) rfl ⟨fun _ => trivial, ?_⟩
        refine tkP rfl ?_
        refine R_idx TE_79 H fun t91 H => ⟨fun _ => trivial, ?_⟩
        refine tkL rfl ?_
        refine R_fldZ TFZ_61_0 H fun t92 H _ => ?_
        refine tkL rfl ?_
        refine R_loadN TN_59 H fun at93 xt93 hat93 _ H St93 hSt93 => ?_
        refine alt_n rfl ?_ vp_none
        refine H_callV H fun t94 h H => ⟨(hskip rfl (hskip rfl (hskip rfl (hskip rfl (hskip rfl hnil))))), ?_⟩
        refine tkP rfl ?_
        refine R_not H fun t95 H => ⟨fun _ => trivial, ?_⟩
        refine vp_done ?_
        obtain ⟨b, hc, H1, H2⟩ := H
        refine WPc_cond hc (fun hh => ?_) (fun hh => ?_)
        · have H := H1 hh; clear H1 H2
          refine WPc_seq' ?_
          refine W_region (by kernel_rfl) ?_
          refine vl_n ?_
          refine H_of_R (R_assign (v := (.bool false)) rfl ?_)
          refine vl_e ?_
          refine WPc_ret ?_
          refine resH_of rfl ?_
          exact H
        · have H := H2 hh; clear H1 H2
          refine WPc_skip ?_
          exact ⟨H, hq1⟩
      refine WPc_seq' ?_
      refine W_region (by kernel_rfl) ?_
      refine vl_n ?_
      refine H_of_R (R_move (v := (e1 11)) rfl ?_)
      refine vl_n ?_
      refine H_of_R (R_geq H fun t74 H => ?_)
      refine vl_e ?_
      obtain ⟨b, hc, H1, H2⟩ := H
      refine WPc_cond hc (fun hh => ?_) (fun hh => ?_)
      · have H := H1 hh; clear H1 H2
        refine WPc_skip ?_
        exact ⟨H, rfl⟩
      · have H := H2 hh; clear H1 H2
        refine WPc_exit ?_
        exact H
    refine WPc_seq' ?_
    refine W_drawn [0, 0, 2, 6, 14, 30, 62, 0, 128, 384, 896, 1920, 3968, 8064, 16256, 32766, 0, 0, 262143, 524287] (.take 0 (.take 1 (.take 2 (.take 3 (.take 4 (.take 5 (.take 6 (.take 7 (.take 8 (.take 9 (.take 10 (.take 11 (.take 12 (.take 13 (.take 14 (.take 15 (.take 16 (.take 17 (.alt 18 (.take 19 .done) .none))))))))))))))))))) mixed (by kernel_rfl) ?_
    refine tkP rfl ?_
    refine R_move (v := (e 0)) rfl ⟨fun _ => trivial, ?_⟩
    refine tkP rfl ?_
    refine R_move (v := (e 9)) rfl ⟨fun _ => trivial, ?_⟩
    refine tkP rfl ?_
    refine R_nil H fun t49 H => ⟨fun _ => trivial, ?_⟩
    refine tkP rfl ?_
    refine R_fld TF_82_3 H fun t50 H => ⟨fun _ => trivial, ?_⟩
    refine tkL rfl ?_
    refine R_load1 T1_80 H fun at51 t51 hat51 _ H => ?_
    refine tkP rfl ?_
    refine R_nil H fun t52 H => ⟨fun _ => trivial, ?_⟩
    refine tkL rfl ?_
    refine R_load1 T1_88 H fun at53 t53 hat53 _ H => ?_
    refine tkP rfl ?_
    refine R_move (v := (e 9)) rfl ⟨fun _ => trivial, ?_⟩
    refine tkP rfl ?_
    refine R_nil H fun t55 H => ⟨fun _ => trivial, ?_⟩
    refine tkP rfl ?_
    refine R_fld TF_82_3 H fun t56 H => ⟨fun _ => trivial, ?_⟩
    refine tkL rfl ?_
    refine R_load1 T1_80 H fun at57 t57 hat57 _ H => ?_
    refine tkP rfl ?_
    refine R_nil H fun t58 H => ⟨fun _ => trivial, ?_⟩
    refine tkL rfl ?_
    refine R_load1 T1_88 H fun at59 t59 hat59 _ H => ?_
    refine tkP rfl ?_
    refine R_len Try.underlying88 H fun t60 H => ⟨fun _ => trivial, ?_⟩
    refine tkP rfl ?_
    refine R_sub H fun t61 H => ⟨fun _ => trivial, ?_⟩
    refine tkP rfl ?_
    refine R_idx TE_88 H fun t62 H => ⟨fun _ => trivial, ?_⟩
    refine tkP rfl ?_
    refine R_move (v := (e 2)) rfl ⟨fun _ => trivial, ?_⟩
    refine tkP rfl ?_
    refine R_move (v := (e 3)) rfl ⟨fun _ => trivial, ?_⟩
    refine alt_n rfl ?_ vp_none
    refine H_call HB_72 H fun t65 h H => ⟨(hskip rfl (hskip rfl (hskip rfl (hskip rfl hnil)))), ?_⟩
    refine tkP rfl ?_
    refine R_not H fun t66 H => ⟨fun _ => trivial, ?_⟩
    refine vp_done ?_
    obtain ⟨b, hc, H1, H2⟩ := H
    refine WPc_cond hc (fun hh => ?_) (fun hh => ?_)
    · have H := H1 hh; clear H1 H2
      refine WPc_seq' ?_
      refine W_region (by kernel_rfl) ?_
      refine vl_n ?_
      refine H_of_R (R_assign (v := (.bool false)) rfl ?_)
      refine vl_e ?_
      refine WPc_ret ?_
      refine resH_of rfl ?_
      exact H
    · have H := H2 hh; clear H1 H2
      refine WPc_skip ?_
      exact H
  refine WPc_seq' ?_
  refine W_region (by kernel_rfl) ?_
  refine vl_n ?_
  refine H_of_R (R_move (v := t15) rfl ?_)
  refine vl_n ?_
  refine H_call HB_63 H fun t17 h H => ?_
  refine vl_e ?_
  obtain ⟨b, hc, H1, H2⟩ := H
  refine WPc_cond hc (fun hh => ?_) (fun hh => ?_)
  · have H := H1 hh; clear H1 H2
    refine WPc_seq (fun e h => Map_su_nodeReverse.j8 h Q) ?_ (fun e h H => ?_)
    rotate_left
    · unfold Map_su_nodeReverse.j8 at H
      refine WPc_seq' ?_
      refine W_region (by kernel_rfl) ?_
      refine vl_n ?_
      refine H_of_R (R_assign (v := (.bool true)) rfl ?_)
      refine vl_e ?_
      refine WPc_ret ?_
      refine resH_of rfl ?_
      exact H
    refine WPc_seq' ?_
    refine W_region (by kernel_rfl) ?_
    refine vl_n ?_
    refine H_of_R (R_move (v := t15) rfl ?_)
    refine vl_n ?_
    refine H_of_R (R_nil H fun t19 H => ?_)
    refine vl_n ?_
    refine H_of_R (R_fld TF_82_2 H fun t20 H => ?_)
    refine vl_n ?_
    refine H_of_R (R_load1 T1_79 H fun _ t21 _ _ H => ?_)
    refine vl_n ?_
    refine H_of_R (R_len Try.underlying79 H fun t22 H => ?_)
    refine vl_n ?_
    refine H_of_R (R_sub H fun t23 H => ?_)
    refine vl_n ?_
    refine H_of_R (R_assign (v := t23) rfl ?_)
    refine vl_e ?_
    refine WPc_block ?_
    refine loop_at (fun e => [e 10]) (fun e => [e 2, e 9]) H rfl rfl ?_
    intro K1 e1 h H hin1
    replace H : Map_su_nodeReverse.l9.b (e1 2) (e1 9) (e1 10) h K1 Q := H
    unfold Map_su_nodeReverse.l9.b at H
    clear hin1
    refine WPc_seq (fun e h => Map_su_nodeReverse.j10 (e 2) (e 9) (e 10) h K1 Q ∧ [e1 2, e1 9] = [e 2, e 9]) ?_ (fun e h ⟨H, hq1⟩ => ?_)
    rotate_left
    · unfold Map_su_nodeReverse.j10 at H
      refine WPc_seq (fun e h => Map_su_nodeReverse.j11 (e 2) (e 9) (e 10) h K1 Q ∧ [e1 2, e1 9] = [e 2, e 9]) ?_ (fun e h ⟨H, hq1⟩ => ?_)
      rotate_left
      · unfold Map_su_nodeReverse.j11 at H
        refine W_region (by kernel_rfl) ?_
        refine vl_n ?_
        refine H_of_R (R_move (v := (e 10)) rfl ?_)
        refine vl_n ?_
        refine H_of_R (R_sub H fun t27 H => ?_)
        refine vl_n ?_
        refine H_of_R (R_assign (v := t27) rfl ?_)
        refine vl_e ?_
        exact ⟨H, hq1⟩
      refine WPc_block ?_
      refine WPc_seq' ?_
      refine W_drawn [0, 0, 2, 6, 14, 0, 62, 126, 254, 0, 512, 1536, 3584, 0, 15872, 32256, 65024, 131071, 262143] (.take 0 (.take 1 (.take 2 (.take 3 (.take 4 (.take 5 (.take 6 (.take 7 (.take 8 (.take 9 (.take 10 (.take 11 (.take 12 (.take 13 (.take 14 (.take 15 (.take 16 (.alt 17 (.take 18 .done) .none)))))))))))))))))) mixed (by kernel_rfl) ?_
      refine tkP rfl ?_
      refine R_move (v := (e 2)) rfl ⟨fun _ => trivial, ?_⟩
      refine tkP rfl ?_
      refine R_move (v := (e 9)) rfl ⟨fun _ => trivial, ?_⟩
      refine tkP rfl ?_
      refine R_nil H fun t30 H => ⟨fun _ => trivial, ?_⟩
      refine tkP rfl ?_
      refine R_fld TF_82_2 H fun t31 H => ⟨fun _ => trivial, ?_⟩
      refine tkL rfl ?_
      refine R_load1 T1_79 H fun at32 t32 hat32 _ H => ?_
      refine tkP rfl ?_
      refine R_move (v := (e 10)) rfl ⟨fun _ => trivial, ?_⟩
      refine tkP rfl ?_
      refine R_idx TE_79 H fun t34 H => ⟨fun _ => trivial, ?_⟩
      refine tkP rfl ?_
      refine R_fld TF_61_1 H fun t35 H => ⟨fun _ => trivial, ?_⟩
      refine tkL rfl ?_
      refine R_load1 T1_9 H fun at36 t36 hat36 _ H => ?_
      refine tkP rfl ?_
      refine R_move (v := (e 9)) rfl ⟨fun _ => trivial, ?_⟩
      refine tkP rfl ?_
      refine R_nil H fun t38 H => ⟨fun _ => trivial, ?_⟩
      refine tkP rfl ?_
      refine R_fld TF_82_2 H fun t39 H => ⟨fun _ => trivial, ?_⟩
      refine tkL rfl ?_
      refine R_load1 T1_79 H fun at40 t40 hat40 _ H => ?_
      refine tkP rfl ?_
      refine R_move (v := (e 10)) rfl ⟨fun _ => trivial, ?_⟩
      refine tkP rfl ?_
      refine R_idx TE_79 H fun t42 H => ⟨fun _ => trivial, ?_⟩
      refine tkL rfl ?_
      refine R_fldZ TFZ_61_0 H fun t43 H _ => ?_
      refine tkL rfl ?_
      refine R_loadN TN_59 H fun at44 xt44 hat44 _ H St44 hSt44 => ?_
      refine alt_n rfl ?_ vp_none
      refine H_callV H fun t45 h H => ⟨(hskip rfl (hskip rfl (hskip rfl (hskip rfl (hskip rfl hnil))))), ?_⟩
      refine tkP rfl ?_
      refine R_not H fun t46 H => ⟨fun _ => trivial, ?_⟩
      refine vp_done ?_
      obtain ⟨b, hc, H1, H2⟩ := H
      refine WPc_cond hc (fun hh => ?_) (fun hh => ?_)
      · have H := H1 hh; clear H1 H2
        refine WPc_seq' ?_
        refine W_region (by kernel_rfl) ?_
        refine vl_n ?_
        refine H_of_R (R_assign (v := (.bool false)) rfl ?_)
        refine vl_e ?_
        refine WPc_ret ?_
        refine resH_of rfl ?_
        exact H
      · have H := H2 hh; clear H1 H2
        refine WPc_skip ?_
        exact ⟨H, hq1⟩
    refine WPc_seq' ?_
    refine W_region (by kernel_rfl) ?_
    refine vl_n ?_
    refine H_of_R (R_move (v := (e1 10)) rfl ?_)
    refine vl_n ?_
    refine H_of_R (R_geq H fun t25 H => ?_)
    refine vl_e ?_
    obtain ⟨b, hc, H1, H2⟩ := H
    refine WPc_cond hc (fun hh => ?_) (fun hh => ?_)
    · have H := H1 hh; clear H1 H2
      refine WPc_skip ?_
      exact ⟨H, rfl⟩
    · have H := H2 hh; clear H1 H2
      refine WPc_exit ?_
      exact H
  · have H := H2 hh; clear H1 H2
    refine WPc_skip ?_
    exact H
/-! ### (*pub/tidwallbtree.Map[string, struct{}]).nodeDescend -/
def Map_su_nodeDescend.j2 (h : Heap) (Q : Value → Heap → Prop) : Prop :=
    Q (.bool true) h
def Map_su_nodeDescend.j5 (s0 : Value) (s3 : Value) (s4 : Value) (s11 : Value) (s12 : Value) (h : Heap) (K1 : List Value → Heap → Prop) (Q : Value → Heap → Prop) : Prop :=
    arith (· - ·) s12 (.int .i64 1) fun t49 =>
    K1 [t49] h
def Map_su_nodeDescend.j6 (s0 : Value) (s3 : Value) (s4 : Value) (s11 : Value) (s12 : Value) (h : Heap) (K1 : List Value → Heap → Prop) (Q : Value → Heap → Prop) : Prop :=
    mapNode_su_leaf.call #[s11] h fun t70 h =>
    notV t70 fun t71 =>
    ifV t71
    (nilck s11 fun t74 =>
    fld 3 t74 fun t75 =>
    load1 t75 h fun t76 =>
    nilck t76 fun t77 =>
    load1 t77 h fun t78 =>
    idx 1 t78 s12 fun t80 =>
    Map_su_nodeReverse.call #[s0, t80, s3, s4] h fun t83 h =>
    notV t83 fun t84 =>
    ifV t84
    (Q (.bool false) h)
    (Map_su_nodeDescend.j5 s0 s3 s4 s11 s12 h K1 Q))
    (Map_su_nodeDescend.j5 s0 s3 s4 s11 s12 h K1 Q)
def Map_su_nodeDescend.j4 (s0 : Value) (s3 : Value) (s4 : Value) (s11 : Value) (s12 : Value) (h : Heap) (K1 : List Value → Heap → Prop) (Q : Value → Heap → Prop) : Prop :=
    nilck s11 fun t52 =>
    fld 2 t52 fun t53 =>
    load1 t53 h fun t54 =>
    idx 1 t54 s12 fun t56 =>
    fld 0 t56 fun t57 =>
    load1 t57 h fun t58 =>
    nilck s11 fun t60 =>
    fld 2 t60 fun t61 =>
    load1 t61 h fun t62 =>
    idx 1 t62 s12 fun t64 =>
    fldZ Try.prog 0 t64 h fun t65 =>
    loadN 0 t65 h fun t66 =>
    callV Try.prog s3 #[t58, t66] h fun t67 h =>
    notV t67 fun t68 =>
    ifV t68
    (Q (.bool false) h)
    (Map_su_nodeDescend.j6 s0 s3 s4 s11 s12 h K1 Q)
def Map_su_nodeDescend.l3.b (c0 : Value) (c3 : Value) (c4 : Value) (c11 : Value) (s12 : Value) (h : Heap) (K1 : List Value → Heap → Prop) (Q : Value → Heap → Prop) : Prop :=
    cmpI (fun a b => decide (a ≥ b)) s12 (.int .i64 0) fun t47 =>
    ifV t47
    (Map_su_nodeDescend.j4 c0 c3 c4 c11 s12 h K1 Q)
    (Map_su_nodeDescend.j2 h Q)
def Map_su_nodeDescend.j1 (s0 : Value) (s3 : Value) (s4 : Value) (s11 : Value) (s12 : Value) (h : Heap) (Q : Value → Heap → Prop) : Prop :=
    loopC (fun c s h K1 => Map_su_nodeDescend.l3.b (c.getD 0 undef) (c.getD 1 undef) (c.getD 2 undef) (c.getD 3 undef) (s.getD 0 undef) h K1 Q) [s0, s3, s4, s11] [s12] h
def Map_su_nodeDescend.j7 (s0 : Value) (s3 : Value) (s4 : Value) (s11 : Value) (s12 : Value) (h : Heap) (Q : Value → Heap → Prop) : Prop :=
    arith (· - ·) s12 (.int .i64 1) fun t45 =>
    Map_su_nodeDescend.j1 s0 s3 s4 s11 t45 h Q
def Map_su_nodeDescend.sh (a0 : Value) (a1 : Value) (a2 : Value) (a3 : Value) (a4 : Value) (h : Heap) (Q : Value → Heap → Prop) : Prop :=
    Map_su_isoLoad.call #[a0, a1, a4] h fun t17 h =>
    Map_su_search.call #[a0, t17, a2] h fun t22 h =>
    extr 0 t22 fun t23 =>
    extr 1 t22 fun t24 =>
    notV t24 fun t26 =>
    ifV t26
    (mapNode_su_leaf.call #[t17] h fun t28 h =>
    notV t28 fun t29 =>
    ifV t29
    (nilck t17 fun t32 =>
    fld 3 t32 fun t33 =>
    load1 t33 h fun t34 =>
    nilck t34 fun t35 =>
    load1 t35 h fun t36 =>
    idx 1 t36 t23 fun t38 =>
    Map_su_nodeDescend.call #[a0, t38, a2, a3, a4] h fun t42 h =>
    notV t42 fun t43 =>
    ifV t43
    (Q (.bool false) h)
    (Map_su_nodeDescend.j7 a0 a3 a4 t17 t23 h Q))
    (Map_su_nodeDescend.j7 a0 a3 a4 t17 t23 h Q))
    (Map_su_nodeDescend.j1 a0 a3 a4 t17 t23 h Q)
theorem Map_su_nodeDescend.body (a0 : Value) (a1 : Value) (a2 : Value) (a3 : Value) (a4 : Value) (h : Heap) (Q : Value → Heap → Prop) (H : Map_su_nodeDescend.sh a0 a1 a2 a3 a4 h Q) : Map_su_nodeDescend.call #[a0, a1, a2, a3, a4] h Q := by
  refine callsH_of (args := [a0, a1, a2, a3, a4]) Try.func70 rfl rfl ?_
  unfold Map_su_nodeDescend.sh at H
  refine WPc_seq' ?_
  refine W_region (by kernel_rfl) ?_
  refine vl_n ?_
  refine H_of_R (R_assign (v := (.bool false)) rfl ?_)
  refine vl_e ?_
  refine WPc_seq' ?_
  refine W_region (by kernel_rfl) ?_
  refine vl_n ?_
  refine H_of_R (R_move (v := a0) rfl ?_)
  refine vl_n ?_
  refine H_of_R (R_move (v := a1) rfl ?_)
  refine vl_n ?_
  refine H_of_R (R_move (v := a4) rfl ?_)
  refine vl_n ?_
  refine H_call HB_62 H fun t17 h H => ?_
  refine vl_n ?_
  refine H_of_R (R_assign (v := t17) rfl ?_)
  refine vl_e ?_
  refine WPc_seq' ?_
  refine W_region (by kernel_rfl) ?_
  refine vl_n ?_
  refine H_of_R (R_move (v := a0) rfl ?_)
  refine vl_n ?_
  refine H_of_R (R_move (v := t17) rfl ?_)
  refine vl_n ?_
  refine H_of_R (R_move (v := a2) rfl ?_)
  refine vl_n ?_
  refine H_call HB_67 H fun t22 h H => ?_
  refine vl_n ?_
  refine H_of_R (R_move (v := t22) rfl ?_)
  refine vl_n ?_
  refine H_of_R (R_ext H fun t23 H => ?_)
  refine vl_n ?_
  refine H_of_R (R_ext H fun t24 H => ?_)
  refine vl_n ?_
  refine H_of_R (R_assign (v := t23) rfl ?_)
  refine vl_n ?_
  refine H_of_R (R_assign (v := t24) rfl ?_)
  refine vl_e ?_
  refine WPc_seq (fun e h => Map_su_nodeDescend.j1 (e 0) (e 3) (e 4) (e 11) (e 12) h Q) ?_ (fun e h H => ?_)
  rotate_left
  · unfold Map_su_nodeDescend.j1 at H
    refine WPc_seq (fun e h => Map_su_nodeDescend.j2 h Q) ?_ (fun e h H => ?_)
    rotate_left
    · unfold Map_su_nodeDescend.j2 at H
      refine WPc_seq' ?_
      refine W_region (by kernel_rfl) ?_
      refine vl_n ?_
      refine H_of_R (R_assign (v := (.bool true)) rfl ?_)
      refine vl_e ?_
      refine WPc_ret ?_
      refine resH_of rfl ?_
      exact H
    refine WPc_block ?_
    refine loop_at (fun e => [e 12]) (fun e => [e 0, e 3, e 4, e 11]) H rfl rfl ?_
    intro K1 e1 h H hin1
    replace H : Map_su_nodeDescend.l3.b (e1 0) (e1 3) (e1 4) (e1 11) (e1 12) h K1 Q := H
    unfold Map_su_nodeDescend.l3.b at H
    clear hin1
    refine WPc_seq (fun e h => Map_su_nodeDescend.j4 (e 0) (e 3) (e 4) (e 11) (e 12) h K1 Q ∧ [e1 0, e1 3, e1 4, e1 11] = [e 0, e 3, e 4, e 11]) ?_ (fun e h ⟨H, hq1⟩ => ?_)
    rotate_left
    · unfold Map_su_nodeDescend.j4 at H
      refine WPc_seq (fun e h => Map_su_nodeDescend.j5 (e 0) (e 3) (e 4) (e 11) (e 12) h K1 Q ∧ [e1 0, e1 3, e1 4, e1 11] = [e 0, e 3, e 4, e 11]) ?_ (fun e h ⟨H, hq1⟩ => ?_)
      rotate_left
      · unfold Map_su_nodeDescend.j5 at H
        refine W_region (by kernel_rfl) ?_
        refine vl_n ?_
        refine H_of_R (R_move (v := (e 12)) rfl ?_)
        refine vl_n ?_
        refine H_of_R (R_sub H fun t49 H => ?_)
        refine vl_n ?_
        refine H_of_R (R_assign (v := t49) rfl ?_)
        refine vl_e ?_
        exact ⟨H, hq1⟩
      refine WPc_block ?_
      refine WPc_seq (fun e h => Map_su_nodeDescend.j6 (e 0) (e 3) (e 4) (e 11) (e 12) h K1 Q ∧ [e1 0, e1 3, e1 4, e1 11] = [e 0, e 3, e 4, e 11]) ?_ (fun e h ⟨H, hq1⟩ => ?_)
      rotate_left
      · unfold Map_su_nodeDescend.j6 at H
        refine WPc_seq' ?_
        refine W_region (by kernel_rfl) ?_
        refine vl_n ?_
        refine H_of_R (R_move (v := (e 11)) rfl ?_)
        refine vl_n ?_
        refine H_call HB_63 H fun t70 h H => ?_
        refine vl_n ?_
        refine H_of_R (R_not H fun t71 H => ?_)
        refine vl_e ?_
        obtain ⟨b, hc, H1, H2⟩ := H
        refine WPc_cond hc (fun hh => ?_) (fun hh => ?_)
        · have H := H1 hh; clear H1 H2
          refine WPc_seq' ?_
          refine W_region (by kernel_rfl) ?_
          refine vl_n ?_
          refine H_of_R (R_move (v := (e 0)) rfl ?_)
          refine vl_n ?_
          refine H_of_R (R_move (v := (e 11)) rfl ?_)
          refine vl_n ?_
          refine H_of_R (R_nil H fun t74 H => ?_)
          refine vl_n ?_
          refine H_of_R (R_fld TF_82_3 H fun t75 H => ?_)
          refine vl_n ?_
          refine H_of_R (R_load1 T1_80 H fun _ t76 _ _ H => ?_)
          refine vl_n ?_
          refine H_of_R (R_nil H fun t77 H => ?_)
          refine vl_n ?_
          refine H_of_R (R_load1 T1_88 H fun _ t78 _ _ H => ?_)
          refine vl_n ?_
          refine H_of_R (R_move (v := (e 12)) rfl ?_)
          refine vl_n ?_
          refine H_of_R (R_idx TE_88 H fun t80 H => ?_)
          refine vl_n ?_
          refine H_of_R (R_move (v := (e 3)) rfl ?_)
          refine vl_n ?_
          refine H_of_R (R_move (v := (e 4)) rfl ?_)
          refine vl_n ?_
          refine H_call HB_72 H fun t83 h H => ?_
          refine vl_n ?_
          refine H_of_R (R_not H fun t84 H => ?_)
          refine vl_e ?_
          obtain ⟨b_2, hc_2, H1, H2⟩ := H
          refine WPc_cond hc_2 (fun hh => ?_) (fun hh => ?_)
          · have H := H1 hh; clear H1 H2
            refine WPc_seq' ?_
            refine W_region (by kernel_rfl) ?_
            refine vl_n ?_
            refine H_of_R (R_assign (v := (.bool false)) rfl ?_)
            refine vl_e ?_
            refine WPc_ret ?_
            refine resH_of rfl ?_
            exact H
          · have H := H2 hh; clear H1 H2
            refine WPc_skip ?_
            exact ⟨H, hq1⟩
        · have H := H2 hh; clear H1 H2
          refine WPc_skip ?_
          exact ⟨H, hq1⟩
      refine WPc_seq' ?_
      refine W_drawn [0, 0, 2, 6, 14, 0, 62, 126, 254, 0, 512, 1536, 3584, 0, 15872, 32256, 65024, 131071, 262143] (.take 0 (.take 1 (.take 2 (.take 3 (.take 4 (.take 5 (.take 6 (.take 7 (.take 8 (.take 9 (.take 10 (.take 11 (.take 12 (.take 13 (.take 14 (.take 15 (.take 16 (.alt 17 (.take 18 .done) .none)))))))))))))))))) mixed (by kernel_rfl) ?_
      refine tkP rfl ?_
      refine R_move (v := (e 3)) rfl ⟨fun _ => trivial, ?_⟩
      refine tkP rfl ?_
      refine R_move (v := (e 11)) rfl ⟨fun _ => trivial, ?_⟩
      refine tkP rfl ?_
      refine R_nil H fun t52 H => ⟨fun _ => trivial, ?_⟩
      refine tkP rfl ?_
      refine R_fld TF_82_2 H fun t53 H => ⟨fun _ => trivial, ?_⟩
      refine tkL rfl ?_
      refine R_load1 T1_79 H fun at54 t54 hat54 _ H => ?_
      refine tkP rfl ?_
      refine R_move (v := (e 12)) rfl ⟨fun _ => trivial, ?_⟩
      refine tkP rfl ?_
      refine R_idx TE_79 H fun t56 H => ⟨fun _ => trivial, ?_⟩
      refine tkP rfl ?_
      refine R_fld TF_61_1 H fun t57 H => ⟨fun _ => trivial, ?_⟩
      refine tkL rfl ?_
      refine R_load1 T1_9 H fun at58 t58 hat58 _ H => ?_
      refine tkP rfl ?_
      refine R_move (v := (e 11)) rfl ⟨fun _ => trivial, ?_⟩
      refine tkP rfl ?_
      refine R_nil H fun t60 H => ⟨fun _ => trivial, ?_⟩
      refine tkP rfl ?_
      refine R_fld TF_82_2 H fun t61 H => ⟨fun _ => trivial, ?_⟩
      refine tkL rfl ?_
      refine R_load1 T1_79 H fun at62 t62 hat62 _ H => ?_
      refine tkP rfl ?_
      refine R_move (v := (e 12)) rfl ⟨fun _ => trivial, ?_⟩
      refine tkP rfl ?_
      refine R_idx TE_79 H fun t64 H => ⟨fun _ => trivial, ?_⟩
      refine tkL rfl ?_
      refine R_fldZ TFZ_61_0 H fun t65 H _ => ?_
      refine tkL rfl ?_
      refine R_loadN TN_59 H fun at66 xt66 hat66 _ H St66 hSt66 => ?_
      refine alt_n rfl ?_ vp_none
      refine H_callV H fun t67 h H => ⟨(hskip rfl (hskip rfl (hskip rfl (hskip rfl (hskip rfl hnil))))), ?_⟩
      refine tkP rfl ?_
      refine R_not H fun t68 H => ⟨fun _ => trivial, ?_⟩
      refine vp_done ?_
      obtain ⟨b, hc, H1, H2⟩ := H
      refine WPc_cond hc (fun hh => ?_) (fun hh => ?_)
      · have H := H1 hh; clear H1 H2
        refine WPc_seq' ?_
        refine W_region (by kernel_rfl) ?_
        refine vl_n ?_
        refine H_of_R (R_assign (v := (.bool false)) rfl ?_)
        refine vl_e ?_
        refine WPc_ret ?_
        refine resH_of rfl ?_
        exact H
      · have H := H2 hh; clear H1 H2
        refine WPc_skip ?_
        exact ⟨H, hq1⟩
    refine WPc_seq' ?_
    refine W_region (by kernel_rfl) ?_
    refine vl_n ?_
    refine H_of_R (R_move (v := (e1 12)) rfl ?_)
    refine vl_n ?_
    refine H_of_R (R_geq H fun t47 H => ?_)
    refine vl_e ?_
    obtain ⟨b, hc, H1, H2⟩ := H
    refine WPc_cond hc (fun hh => ?_) (fun hh => ?_)
    · have H := H1 hh; clear H1 H2
      refine WPc_skip ?_
      exact ⟨H, rfl⟩
    · have H := H2 hh; clear H1 H2
      refine WPc_exit ?_
      exact H
  refine WPc_seq' ?_
  refine W_region (by kernel_rfl) ?_
  refine vl_n ?_
  refine H_of_R (R_move (v := t24) rfl ?_)
  refine vl_n ?_
  refine H_of_R (R_not H fun t26 H => ?_)
  refine vl_e ?_
  obtain ⟨b, hc, H1, H2⟩ := H
  refine WPc_cond hc (fun hh => ?_) (fun hh => ?_)
  · have H := H1 hh; clear H1 H2
    refine WPc_seq (fun e h => Map_su_nodeDescend.j7 (e 0) (e 3) (e 4) (e 11) (e 12) h Q) ?_ (fun e h H => ?_)
    rotate_left
    · unfold Map_su_nodeDescend.j7 at H
      refine W_region (by kernel_rfl) ?_
      refine vl_n ?_
      refine H_of_R (R_move (v := (e 12)) rfl ?_)
      refine vl_n ?_
      refine H_of_R (R_sub H fun t45 H => ?_)
      refine vl_n ?_
      refine H_of_R (R_assign (v := t45) rfl ?_)
      refine vl_e ?_
      exact H
    refine WPc_seq' ?_
    refine W_region (by kernel_rfl) ?_
    refine vl_n ?_
    refine H_of_R (R_move (v := t17) rfl ?_)
    refine vl_n ?_
    refine H_call HB_63 H fun t28 h H => ?_
    refine vl_n ?_
    refine H_of_R (R_not H fun t29 H => ?_)
    refine vl_e ?_
    obtain ⟨b_2, hc_2, H1, H2⟩ := H
    refine WPc_cond hc_2 (fun hh => ?_) (fun hh => ?_)
    · have H := H1 hh; clear H1 H2
      refine WPc_seq' ?_
      refine W_region (by kernel_rfl) ?_
      refine vl_n ?_
      refine H_of_R (R_move (v := a0) rfl ?_)
      refine vl_n ?_
      refine H_of_R (R_move (v := t17) rfl ?_)
      refine vl_n ?_
      refine H_of_R (R_nil H fun t32 H => ?_)
      refine vl_n ?_
      refine H_of_R (R_fld TF_82_3 H fun t33 H => ?_)
      refine vl_n ?_
      refine H_of_R (R_load1 T1_80 H fun _ t34 _ _ H => ?_)
      refine vl_n ?_
      refine H_of_R (R_nil H fun t35 H => ?_)
      refine vl_n ?_
      refine H_of_R (R_load1 T1_88 H fun _ t36 _ _ H => ?_)
      refine vl_n ?_
      refine H_of_R (R_move (v := t23) rfl ?_)
      refine vl_n ?_
      refine H_of_R (R_idx TE_88 H fun t38 H => ?_)
      refine vl_n ?_
      refine H_of_R (R_move (v := a2) rfl ?_)
      refine vl_n ?_
      refine H_of_R (R_move (v := a3) rfl ?_)
      refine vl_n ?_
      refine H_of_R (R_move (v := a4) rfl ?_)
      refine vl_n ?_
      refine H_call HB_70 H fun t42 h H => ?_
      refine vl_n ?_
      refine H_of_R (R_not H fun t43 H => ?_)
      refine vl_e ?_
      obtain ⟨b_3, hc_3, H1, H2⟩ := H
      refine WPc_cond hc_3 (fun hh => ?_) (fun hh => ?_)
      · have H := H1 hh; clear H1 H2
        refine WPc_seq' ?_
        refine W_region (by kernel_rfl) ?_
        refine vl_n ?_
        refine H_of_R (R_assign (v := (.bool false)) rfl ?_)
        refine vl_e ?_
        refine WPc_ret ?_
        refine resH_of rfl ?_
        exact H
      · have H := H2 hh; clear H1 H2
        refine WPc_skip ?_
        exact H
    · have H := H2 hh; clear H1 H2
      refine WPc_skip ?_
      exact H
  · have H := H2 hh; clear H1 H2
    refine WPc_skip ?_
    exact H
/-! ### (*pub/tidwallbtree.Map[string, struct{}]).descend -/
def Map_su_descend.j1 (s0 : Value) (s1 : Value) (s2 : Value) (s3 : Value) (h : Heap) (Q : Value → Heap → Prop) : Prop :=
    nilck s0 fun t15 =>
    fld 2 t15 fun t16 =>
    Map_su_nodeDescend.call #[s0, t16, s1, s2, s3] h fun t20 h =>
    Q (.tuple #[]) h
def Map_su_descend.sh (a0 : Value) (a1 : Value) (a2 : Value) (a3 : Value) (h : Heap) (Q : Value → Heap → Prop) : Prop :=
    nilck a0 fun t9 =>
    fld 2 t9 fun t10 =>
    load1 t10 h fun t11 =>
    eqNilP t11 fun t12 =>
    ifV t12
    (Q (.tuple #[]) h)
    (Map_su_descend.j1 a0 a1 a2 a3 h Q)
theorem Map_su_descend.body (a0 : Value) (a1 : Value) (a2 : Value) (a3 : Value) (h : Heap) (Q : Value → Heap → Prop) (H : Map_su_descend.sh a0 a1 a2 a3 h Q) : Map_su_descend.call #[a0, a1, a2, a3] h Q := by
  refine callsH_of (args := [a0, a1, a2, a3]) Try.func65 rfl rfl ?_
  unfold Map_su_descend.sh at H
  refine WPc_seq (fun e h => Map_su_descend.j1 (e 0) (e 1) (e 2) (e 3) h Q) ?_ (fun e h H => ?_)
  rotate_left
  · unfold Map_su_descend.j1 at H
    refine W_region (by kernel_rfl) ?_
    refine vl_n ?_
    refine H_of_R (R_move (v := (e 0)) rfl ?_)
    refine vl_n ?_
    refine H_of_R (R_move (v := (e 0)) rfl ?_)
    refine vl_n ?_
    refine H_of_R (R_nil H fun t15 H => ?_)
    refine vl_n ?_
    refine H_of_R (R_fld TF_63_2 H fun t16 H => ?_)
    refine vl_n ?_
    refine H_of_R (R_move (v := (e 1)) rfl ?_)
    refine vl_n ?_
    refine H_of_R (R_move (v := (e 2)) rfl ?_)
    refine vl_n ?_
    refine H_of_R (R_move (v := (e 3)) rfl ?_)
    refine vl_n ?_
    refine H_call HB_70 H fun t20 h H => ?_
    refine vl_e ?_
    refine resH_of rfl ?_
    exact H
  refine WPc_seq' ?_
  refine W_region (by kernel_rfl) ?_
  refine vl_n ?_
  refine H_of_R (R_move (v := a0) rfl ?_)
  refine vl_n ?_
  refine H_of_R (R_nil H fun t9 H => ?_)
  refine vl_n ?_
  refine H_of_R (R_fld TF_63_2 H fun t10 H => ?_)
  refine vl_n ?_
  refine H_of_R (R_load1 T1_58 H fun _ t11 _ _ H => ?_)
  refine vl_n ?_
  refine H_of_R (R_eqNilP Try.underlying58 rfl H fun t12 H => ?_)
  refine vl_e ?_
  obtain ⟨b, hc, H1, H2⟩ := H
  refine WPc_cond hc (fun hh => ?_) (fun hh => ?_)
  · have H := H1 hh; clear H1 H2
    refine WPc_ret ?_
    refine resH_of rfl ?_
    exact H
  · have H := H2 hh; clear H1 H2
    refine WPc_skip ?_
    exact H
/-! ### (*pub/tidwallbtree.Map[string, struct{}]).Descend -/
def Map_su_Descend.sh (a0 : Value) (a1 : Value) (a2 : Value) (h : Heap) (Q : Value → Heap → Prop) : Prop :=
    Map_su_descend.call #[a0, a1, a2, (.bool false)] h fun t9 h =>
    Q (.tuple #[]) h
theorem Map_su_Descend.body (a0 : Value) (a1 : Value) (a2 : Value) (h : Heap) (Q : Value → Heap → Prop) (H : Map_su_Descend.sh a0 a1 a2 h Q) : Map_su_Descend.call #[a0, a1, a2] h Q := by
  refine callsH_of (args := [a0, a1, a2]) Try.func51 rfl rfl ?_
  unfold Map_su_Descend.sh at H
  refine W_region (by kernel_rfl) ?_
  refine vl_n ?_
  refine H_of_R (R_move (v := a0) rfl ?_)
  refine vl_n ?_
  refine H_of_R (R_move (v := a1) rfl ?_)
  refine vl_n ?_
  refine H_of_R (R_move (v := a2) rfl ?_)
  refine vl_n ?_
  refine H_call HB_65 H fun t9 h H => ?_
  refine vl_e ?_
  refine resH_of rfl ?_
  exact H

end Go.Proofs.Ytfojeibloilneaa
