/-
  Shallow forms of the walked functions, and that each call comes to its form. Written by a program of this repo (gen.py). Conditions: none.
-/
import Derived.Test.YtfojeibloilneaaST
namespace Go.Proofs.Ytfojeibloilneaa
open Go.Hp
set_option maxRecDepth 100000
set_option maxHeartbeats 8000000
set_option linter.unusedVariables false
set_option linter.unusedSimpArgs false

/-! ### (*pub/tidwallbtree.Map[string, struct{}]).nodeAscend -/
def Map_su_nodeAscend.j2 (h : Heap) (Q : Value → Heap → Prop) : Prop :=
    Q (.bool true) h
def Map_su_nodeAscend.j5 (s0 : Value) (s3 : Value) (s4 : Value) (s11 : Value) (s12 : Value) (h : Heap) (K1 : List Value → Heap → Prop) (Q : Value → Heap → Prop) : Prop :=
    arith (· + ·) s12 (.int .i64 1) fun t52 =>
    K1 [t52] h
def Map_su_nodeAscend.j6 (s0 : Value) (s3 : Value) (s4 : Value) (s11 : Value) (s12 : Value) (h : Heap) (K1 : List Value → Heap → Prop) (Q : Value → Heap → Prop) : Prop :=
    mapNode_su_leaf.call #[s11] h fun t73 h =>
    notV t73 fun t74 =>
    ifV t74
    (nilck s11 fun t77 =>
    fld 3 t77 fun t78 =>
    load1 t78 h fun t79 =>
    nilck t79 fun t80 =>
    load1 t80 h fun t81 =>
    arith (· + ·) s12 (.int .i64 1) fun t83 =>
    idx 1 t81 t83 fun t84 =>
    Map_su_nodeScan.call #[s0, t84, s3, s4] h fun t87 h =>
    notV t87 fun t88 =>
    ifV t88
    (Q (.bool false) h)
    (Map_su_nodeAscend.j5 s0 s3 s4 s11 s12 h K1 Q))
    (Map_su_nodeAscend.j5 s0 s3 s4 s11 s12 h K1 Q)
def Map_su_nodeAscend.j4 (s0 : Value) (s3 : Value) (s4 : Value) (s11 : Value) (s12 : Value) (h : Heap) (K1 : List Value → Heap → Prop) (Q : Value → Heap → Prop) : Prop :=
    nilck s11 fun t55 =>
    fld 2 t55 fun t56 =>
    load1 t56 h fun t57 =>
    idx 1 t57 s12 fun t59 =>
    fld 0 t59 fun t60 =>
    load1 t60 h fun t61 =>
    nilck s11 fun t63 =>
    fld 2 t63 fun t64 =>
    load1 t64 h fun t65 =>
    idx 1 t65 s12 fun t67 =>
    fldZ Try.prog 0 t67 h fun t68 =>
    loadN 0 t68 h fun t69 =>
    callV Try.prog s3 #[t61, t69] h fun t70 h =>
    notV t70 fun t71 =>
    ifV t71
    (Q (.bool false) h)
    (Map_su_nodeAscend.j6 s0 s3 s4 s11 s12 h K1 Q)
def Map_su_nodeAscend.l3.b (c0 : Value) (c3 : Value) (c4 : Value) (c11 : Value) (s12 : Value) (h : Heap) (K1 : List Value → Heap → Prop) (Q : Value → Heap → Prop) : Prop :=
    nilck c11 fun t46 =>
    fld 2 t46 fun t47 =>
    load1 t47 h fun t48 =>
    lenV t48 fun t49 =>
    cmpI (fun a b => decide (a < b)) s12 t49 fun t50 =>
    ifV t50
    (Map_su_nodeAscend.j4 c0 c3 c4 c11 s12 h K1 Q)
    (Map_su_nodeAscend.j2 h Q)
def Map_su_nodeAscend.j1 (s0 : Value) (s3 : Value) (s4 : Value) (s11 : Value) (s12 : Value) (h : Heap) (Q : Value → Heap → Prop) : Prop :=
    loopC (fun c s h K1 => Map_su_nodeAscend.l3.b (c.getD 0 undef) (c.getD 1 undef) (c.getD 2 undef) (c.getD 3 undef) (s.getD 0 undef) h K1 Q) [s0, s3, s4, s11] [s12] h
def Map_su_nodeAscend.sh (a0 : Value) (a1 : Value) (a2 : Value) (a3 : Value) (a4 : Value) (h : Heap) (Q : Value → Heap → Prop) : Prop :=
    Map_su_isoLoad.call #[a0, a1, a4] h fun t17 h =>
    Map_su_search.call #[a0, t17, a2] h fun t22 h =>
    extr 0 t22 fun t23 =>
    extr 1 t22 fun t24 =>
    notV t24 fun t26 =>
    ifV t26
    (mapNode_su_leaf.call #[t17] h fun t28 h =>
    notV t28 fun t29 =>
    ifV t29
    (nilck t17 fun t32 =>
    fld 3 t32 fun t33 =>
    load1 t33 h fun t34 =>
    nilck t34 fun t35 =>
    load1 t35 h fun t36 =>
    idx 1 t36 t23 fun t38 =>
    Map_su_nodeAscend.call #[a0, t38, a2, a3, a4] h fun t42 h =>
    notV t42 fun t43 =>
    ifV t43
    (Q (.bool false) h)
    (Map_su_nodeAscend.j1 a0 a3 a4 t17 t23 h Q))
    (Map_su_nodeAscend.j1 a0 a3 a4 t17 t23 h Q))
    (Map_su_nodeAscend.j1 a0 a3 a4 t17 t23 h Q)
theorem Map_su_nodeAscend.body (a0 : Value) (a1 : Value) (a2 : Value) (a3 : Value) (a4 : Value) (h : Heap) (Q : Value → Heap → Prop) (H : Map_su_nodeAscend.sh a0 a1 a2 a3 a4 h Q) : Map_su_nodeAscend.call #[a0, a1, a2, a3, a4] h Q := by
  refine callsH_of (args := [a0, a1, a2, a3, a4]) Try.func69 rfl rfl ?_
  unfold Map_su_nodeAscend.sh at H
  refine WPc_seq' ?_
  refine W_region (by kernel_rfl) ?_
  refine vl_n ?_
  refine H_of_R (R_assign (v := (.bool false)) rfl ?_)
  refine vl_e ?_
  refine WPc_seq' ?_
  refine W_region (by kernel_rfl) ?_
  refine vl_n ?_
  refine H_of_R (R_move (v := a0) rfl ?_)
  refine vl_n ?_
  refine H_of_R (R_move (v := a1) rfl ?_)
  refine vl_n ?_
  refine H_of_R (R_move (v := a4) rfl ?_)
  refine vl_n ?_
  refine H_call HB_62 H fun t17 h H => ?_
  refine vl_n ?_
  refine H_of_R (R_assign (v := t17) rfl ?_)
  refine vl_e ?_
  refine WPc_seq' ?_
  refine W_region (by kernel_rfl) ?_
  refine vl_n ?_
  refine H_of_R (R_move (v := a0) rfl ?_)
  refine vl_n ?_
  refine H_of_R (R_move (v := t17) rfl ?_)
  refine vl_n ?_
  refine H_of_R (R_move (v := a2) rfl ?_)
  refine vl_n ?_
  refine H_call HB_67 H fun t22 h H => ?_
  refine vl_n ?_
  refine H_of_R (R_move (v := t22) rfl ?_)
  refine vl_n ?_
  refine H_of_R (R_ext H fun t23 H => ?_)
  refine vl_n ?_
  refine H_of_R (R_ext H fun t24 H => ?_)
  refine vl_n ?_
  refine H_of_R (R_assign (v := t23) rfl ?_)
  refine vl_n ?_
  refine H_of_R (R_assign (v := t24) rfl ?_)
  refine vl_e ?_
  refine WPc_seq (fun e h => Map_su_nodeAscend.j1 (e 0) (e 3) (e 4) (e 11) (e 12) h Q) ?_ (fun e h H => ?_)
  rotate_left
  · unfold Map_su_nodeAscend.j1 at H
    refine WPc_seq (fun e h => Map_su_nodeAscend.j2 h Q) ?_ (fun e h H => ?_)
    rotate_left
    · unfold Map_su_nodeAscend.j2 at H
      refine WPc_seq' ?_
      refine W_region (by kernel_rfl) ?_
      refine vl_n ?_
      refine H_of_R (R_assign (v := (.bool true)) rfl ?_)
      refine vl_e ?_
      refine WPc_ret ?_
      refine resH_of rfl ?_
      exact H
    refine WPc_block ?_
    refine loop_at (fun e => [e 12]) (fun e => [e 0, e 3, e 4, e 11]) H rfl rfl ?_
    intro K1 e1 h H hin1
    replace H : Map_su_nodeAscend.l3.b (e1 0) (e1 3) (e1 4) (e1 11) (e1 12) h K1 Q := H
    unfold Map_su_nodeAscend.l3.b at H
    clear hin1
    refine WPc_seq (fun e h => Map_su_nodeAscend.j4 (e 0) (e 3) (e 4) (e 11) (e 12) h K1 Q ∧ [e1 0, e1 3, e1 4, e1 11] = [e 0, e 3, e 4, e 11]) ?_ (fun e h ⟨H, hq1⟩ => ?_)
    rotate_left
    · unfold Map_su_nodeAscend.j4 at H
      refine WPc_seq (fun e h => Map_su_nodeAscend.j5 (e 0) (e 3) (e 4) (e 11) (e 12) h K1 Q ∧ [e1 0, e1 3, e1 4, e1 11] = [e 0, e 3, e 4, e 11]) ?_ (fun e h ⟨H, hq1⟩ => ?_)
      rotate_left
      · unfold Map_su_nodeAscend.j5 at H
        refine W_region (by kernel_rfl) ?_
        refine vl_n ?_
        refine H_of_R (R_move (v := (e 12)) rfl ?_)
        refine vl_n ?_
        refine H_of_R (R_add H fun t52 H => ?_)
        refine vl_n ?_
        refine H_of_R (R_assign (v := t52) rfl ?_)
        refine vl_e ?_
        exact ⟨H, hq1⟩
      refine WPc_block ?_
      refine WPc_seq (fun e h => Map_su_nodeAscend.j6 (e 0) (e 3) (e 4) (e 11) (e 12) h K1 Q ∧ [e1 0, e1 3, e1 4, e1 11] = [e 0, e 3, e 4, e 11]) ?_ (fun e h ⟨H, hq1⟩ => ?_)
      rotate_left
      · unfold Map_su_nodeAscend.j6 at H
        refine WPc_seq' ?_
        refine W_region (by kernel_rfl) ?_
        refine vl_n ?_
        refine H_of_R (R_move (v := (e 11)) rfl ?_)
        refine vl_n ?_
        refine H_call HB_63 H fun t73 h H => ?_
        refine vl_n ?_
        refine H_of_R (R_not H fun t74 H => ?_)
        refine vl_e ?_
        obtain ⟨b, hc, H1, H2⟩ := H
        refine WPc_cond hc (fun hh => ?_) (fun hh => ?_)
        · have H := H1 hh; clear H1 H2
          refine WPc_seq' ?_
          refine W_region (by kernel_rfl) ?_
          refine vl_n ?_
          refine H_of_R (R_move (v := (e 0)) rfl ?_)
          refine vl_n ?_
          refine H_of_R (R_move (v := (e 11)) rfl ?_)
          refine vl_n ?_
          refine H_of_R (R_nil H fun t77 H => ?_)
          refine vl_n ?_
          refine H_of_R (R_fld TF_82_3 H fun t78 H => ?_)
          refine vl_n ?_
          refine H_of_R (R_load1 T1_80 H fun _ t79 _ _ H => ?_)
          refine vl_n ?_
          refine H_of_R (R_nil H fun t80 H => ?_)
          refine vl_n ?_
          refine H_of_R (R_load1 T1_88 H fun _ t81 _ _ H => ?_)
          refine vl_n ?_
          refine H_of_R (R_move (v := (e 12)) rfl ?_)
          refine vl_n ?_
          refine H_of_R (R_add H fun t83 H => ?_)
          refine vl_n ?_
          refine H_of_R (R_idx TE_88 H fun t84 H => ?_)
          refine vl_n ?_
          refine H_of_R (R_move (v := (e 3)) rfl ?_)
          refine vl_n ?_
          refine H_of_R (R_move (v := (e 4)) rfl ?_)
          refine vl_n ?_
          refine H_call HB_71 H fun t87 h H => ?_
          refine vl_n ?_
          refine H_of_R (R_not H fun t88 H => ?_)
          refine vl_e ?_
          obtain ⟨b_2, hc_2, H1, H2⟩ := H
          refine WPc_cond hc_2 (fun hh => ?_) (fun hh => ?_)
          · have H := H1 hh; clear H1 H2
            refine WPc_seq' ?_
            refine W_region (by kernel_rfl) ?_
            refine vl_n ?_
            refine H_of_R (R_assign (v := (.bool false)) rfl ?_)
            refine vl_e ?_
            refine WPc_ret ?_
            refine resH_of rfl ?_
            exact H
          · have H := H2 hh; clear H1 H2
            refine WPc_skip ?_
            exact ⟨H, hq1⟩
        · have H := H2 hh; clear H1 H2
          refine WPc_skip ?_
          exact ⟨H, hq1⟩
      refine WPc_seq' ?_
      refine W_drawn [0, 0, 2, 6, 14, 0, 62, 126, 254, 0, 512, 1536, 3584, 0, 15872, 32256, 65024, 131071, 262143] (.take 0 (.take 1 (.take 2 (.take 3 (.take 4 (.take 5 (.take 6 (.take 7 (.take 8 (.take 9 (.take 10 (.take 11 (.take 12 (.take 13 (.take 14 (.take 15 (.take 16 (.alt 17 (.take 18 .done) .none)))))))))))))))))) mixed (by kernel_rfl) ?_
      refine tkP rfl ?_
      refine R_move (v := (e 3)) rfl ⟨fun _ => trivial, ?_⟩
      refine tkP rfl ?_
      refine R_move (v := (e 11)) rfl ⟨fun _ => trivial, ?_⟩
      refine tkP rfl ?_
      refine R_nil H fun t55 H => ⟨fun _ => trivial, ?_⟩
      refine tkP rfl ?_
      refine R_fld TF_82_2 H fun t56 H => ⟨fun _ => trivial, ?_⟩
      refine tkL rfl ?_
      refine R_load1 T1_79 H fun at57 t57 hat57 _ H => ?_
      refine tkP rfl ?_
      refine R_move (v := (e 12)) rfl ⟨fun _ => trivial, ?_⟩
      refine tkP rfl ?_
      refine R_idx TE_79 H fun t59 H => ⟨fun _ => trivial, ?_⟩
      refine tkP rfl ?_
      refine R_fld TF_61_1 H fun t60 H => ⟨fun _ => trivial, ?_⟩
      refine tkL rfl ?_
      refine R_load1 T1_9 H fun at61 t61 hat61 _ H => ?_
      refine tkP rfl ?_
      refine R_move (v := (e 11)) rfl ⟨fun _ => trivial, ?_⟩
      refine tkP rfl ?_
      refine R_nil H fun t63 H => ⟨fun _ => trivial, ?_⟩
      refine tkP rfl ?_
      refine R_fld TF_82_2 H fun t64 H => ⟨fun _ => trivial, ?_⟩
      refine tkL rfl ?_
      refine R_load1 T1_79 H fun at65 t65 hat65 _ H => ?_
      refine tkP rfl ?_
      refine R_move (v := (e 12)) rfl ⟨fun _ => trivial, ?_⟩
      refine tkP rfl ?_
      refine R_idx TE_79 H fun t67 H => ⟨fun _ => trivial, ?_⟩
      refine tkL rfl ?_
      refine R_fldZ TFZ_61_0 H fun t68 H _ => ?_
      refine tkL rfl ?_
      refine R_loadN TN_59 H fun at69 xt69 hat69 _ H St69 hSt69 => ?_
      refine alt_n rfl ?_ vp_none
      refine H_callV H fun t70 h H => ⟨(hskip rfl (hskip rfl (hskip rfl (hskip rfl (hskip rfl hnil))))), ?_⟩
      refine tkP rfl ?_
      refine R_not H fun t71 H => ⟨fun _ => trivial, ?_⟩
      refine vp_done ?_
      obtain ⟨b, hc, H1, H2⟩ := H
      refine WPc_cond hc (fun hh => ?_) (fun hh => ?_)
      · have H := H1 hh; clear H1 H2
        refine WPc_seq' ?_
        refine W_region (by kernel_rfl) ?_
        refine vl_n ?_
        refine H_of_R (R_assign (v := (.bool false)) rfl ?_)
        refine vl_e ?_
        refine WPc_ret ?_
        refine resH_of rfl ?_
        exact H
      · have H := H2 hh; clear H1 H2
        refine WPc_skip ?_
        exact ⟨H, hq1⟩
    refine WPc_seq' ?_
    refine W_region (by kernel_rfl) ?_
    refine vl_n ?_
    refine H_of_R (R_move (v := (e1 12)) rfl ?_)
    refine vl_n ?_
    refine H_of_R (R_move (v := (e1 11)) rfl ?_)
    refine vl_n ?_
    refine H_of_R (R_nil H fun t46 H => ?_)
    refine vl_n ?_
    refine H_of_R (R_fld TF_82_2 H fun t47 H => ?_)
    refine vl_n ?_
    refine H_of_R (R_load1 T1_79 H fun _ t48 _ _ H => ?_)
    refine vl_n ?_
    refine H_of_R (R_len Try.underlying79 H fun t49 H => ?_)
    refine vl_n ?_
    refine H_of_R (R_lss H fun t50 H => ?_)
    refine vl_e ?_
    obtain ⟨b, hc, H1, H2⟩ := H
    refine WPc_cond hc (fun hh => ?_) (fun hh => ?_)
    · have H := H1 hh; clear H1 H2
      refine WPc_skip ?_
      exact ⟨H, rfl⟩
    · have H := H2 hh; clear H1 H2
      refine WPc_exit ?_
      exact H
  refine WPc_seq' ?_
  refine W_region (by kernel_rfl) ?_
  refine vl_n ?_
  refine H_of_R (R_move (v := t24) rfl ?_)
  refine vl_n ?_
  refine H_of_R (R_not H fun t26 H => ?_)
  refine vl_e ?_
  obtain ⟨b, hc, H1, H2⟩ := H
  refine WPc_cond hc (fun hh => ?_) (fun hh => ?_)
  · have H := H1 hh; clear H1 H2
    refine WPc_seq' ?_
    refine W_region (by kernel_rfl) ?_
    refine vl_n ?_
    refine H_of_R (R_move (v := t17) rfl ?_)
    refine vl_n ?_
    refine H_call HB_63 H fun t28 h H => ?_
    refine vl_n ?_
    refine H_of_R (R_not H fun t29 H => ?_)
    refine vl_e ?_
    obtain ⟨b_2, hc_2, H1, H2⟩ := H
    refine WPc_cond hc_2 (fun hh => ?_) (fun hh => ?_)
    · have H := H1 hh; clear H1 H2
      refine WPc_seq' ?_
      refine W_region (by kernel_rfl) ?_
      refine vl_n ?_
      refine H_of_R (R_move (v := a0) rfl ?_)
      refine vl_n ?_
      refine H_of_R (R_move (v := t17) rfl ?_)
      refine vl_n ?_
      refine H_of_R (R_nil H fun t32 H => ?_)
      refine vl_n ?_
      refine H_of_R (R_fld TF_82_3 H fun t33 H => ?_)
      refine vl_n ?_
      refine H_of_R (R_load1 T1_80 H fun _ t34 _ _ H => ?_)
      refine vl_n ?_
      refine H_of_R (R_nil H fun t35 H => ?_)
      refine vl_n ?_
      refine H_of_R (R_load1 T1_88 H fun _ t36 _ _ H => ?_)
      refine vl_n ?_
      refine H_of_R (R_move (v := t23) rfl ?_)
      refine vl_n ?_
      refine H_of_R (R_idx TE_88 H fun t38 H => ?_)
      refine vl_n ?_
      refine H_of_R (R_move (v := a2) rfl ?_)
      refine vl_n ?_
      refine H_of_R (R_move (v := a3) rfl ?_)
      refine vl_n ?_
      refine H_of_R (R_move (v := a4) rfl ?_)
      refine vl_n ?_
      refine H_call HB_69 H fun t42 h H => ?_
      refine vl_n ?_
      refine H_of_R (R_not H fun t43 H => ?_)
      refine vl_e ?_
      obtain ⟨b_3, hc_3, H1, H2⟩ := H
      refine WPc_cond hc_3 (fun hh => ?_) (fun hh => ?_)
      · have H := H1 hh; clear H1 H2
        refine WPc_seq' ?_
        refine W_region (by kernel_rfl) ?_
        refine vl_n ?_
        refine H_of_R (R_assign (v := (.bool false)) rfl ?_)
        refine vl_e ?_
        refine WPc_ret ?_
        refine resH_of rfl ?_
        exact H
      · have H := H2 hh; clear H1 H2
        refine WPc_skip ?_
        exact H
    · have H := H2 hh; clear H1 H2
      refine WPc_skip ?_
      exact H
  · have H := H2 hh; clear H1 H2
    refine WPc_skip ?_
    exact H
/-! ### (*pub/tidwallbtree.Map[string, struct{}]).ascend -/
def Map_su_ascend.j1 (s0 : Value) (s1 : Value) (s2 : Value) (s3 : Value) (h : Heap) (Q : Value → Heap → Prop) : Prop :=
    nilck s0 fun t15 =>
    fld 2 t15 fun t16 =>
    Map_su_nodeAscend.call #[s0, t16, s1, s2, s3] h fun t20 h =>
    Q (.tuple #[]) h
def Map_su_ascend.sh (a0 : Value) (a1 : Value) (a2 : Value) (a3 : Value) (h : Heap) (Q : Value → Heap → Prop) : Prop :=
    nilck a0 fun t9 =>
    fld 2 t9 fun t10 =>
    load1 t10 h fun t11 =>
    eqNilP t11 fun t12 =>
    ifV t12
    (Q (.tuple #[]) h)
    (Map_su_ascend.j1 a0 a1 a2 a3 h Q)
theorem Map_su_ascend.body (a0 : Value) (a1 : Value) (a2 : Value) (a3 : Value) (h : Heap) (Q : Value → Heap → Prop) (H : Map_su_ascend.sh a0 a1 a2 a3 h Q) : Map_su_ascend.call #[a0, a1, a2, a3] h Q := by
  refine callsH_of (args := [a0, a1, a2, a3]) Try.func64 rfl rfl ?_
  unfold Map_su_ascend.sh at H
  refine WPc_seq (fun e h => Map_su_ascend.j1 (e 0) (e 1) (e 2) (e 3) h Q) ?_ (fun e h H => ?_)
  rotate_left
  · unfold Map_su_ascend.j1 at H
    refine W_region (by kernel_rfl) ?_
    refine vl_n ?_
    refine H_of_R (R_move (v := (e 0)) rfl ?_)
    refine vl_n ?_
    refine H_of_R (R_move (v := (e 0)) rfl ?_)
    refine vl_n ?_
    refine H_of_R (R_nil H fun t15 H => ?_)
    refine vl_n ?_
    refine H_of_R (R_fld TF_63_2 H fun t16 H => ?_)
    refine vl_n ?_
    refine H_of_R (R_move (v := (e 1)) rfl ?_)
    refine vl_n ?_
    refine H_of_R (R_move (v := (e 2)) rfl ?_)
    refine vl_n ?_
    refine H_of_R (R_move (v := (e 3)) rfl ?_)
    refine vl_n ?_
    refine H_call HB_69 H fun t20 h H => ?_
    refine vl_e ?_
    refine resH_of rfl ?_
    exact H
  refine WPc_seq' ?_
  refine W_region (by kernel_rfl) ?_
  refine vl_n ?_
  refine H_of_R (R_move (v := a0) rfl ?_)
  refine vl_n ?_
  refine H_of_R (R_nil H fun t9 H => ?_)
  refine vl_n ?_
  refine H_of_R (R_fld TF_63_2 H fun t10 H => ?_)
  refine vl_n ?_
  refine H_of_R (R_load1 T1_58 H fun _ t11 _ _ H => ?_)
  refine vl_n ?_
  refine H_of_R (R_eqNilP Try.underlying58 rfl H fun t12 H => ?_)
  refine vl_e ?_
  obtain ⟨b, hc, H1, H2⟩ := H
  refine WPc_cond hc (fun hh => ?_) (fun hh => ?_)
  · have H := H1 hh; clear H1 H2
    refine WPc_ret ?_
    refine resH_of rfl ?_
    exact H
  · have H := H2 hh; clear H1 H2
    refine WPc_skip ?_
    exact H
/-! ### (*pub/tidwallbtree.Map[string, struct{}]).Ascend -/
def Map_su_Ascend.sh (a0 : Value) (a1 : Value) (a2 : Value) (h : Heap) (Q : Value → Heap → Prop) : Prop :=
    Map_su_ascend.call #[a0, a1, a2, (.bool false)] h fun t9 h =>
    Q (.tuple #[]) h
theorem Map_su_Ascend.body (a0 : Value) (a1 : Value) (a2 : Value) (h : Heap) (Q : Value → Heap → Prop) (H : Map_su_Ascend.sh a0 a1 a2 h Q) : Map_su_Ascend.call #[a0, a1, a2] h Q := by
  refine callsH_of (args := [a0, a1, a2]) Try.func47 rfl rfl ?_
  unfold Map_su_Ascend.sh at H
  refine W_region (by kernel_rfl) ?_
  refine vl_n ?_
  refine H_of_R (R_move (v := a0) rfl ?_)
  refine vl_n ?_
  refine H_of_R (R_move (v := a1) rfl ?_)
  refine vl_n ?_
  refine H_of_R (R_move (v := a2) rfl ?_)
  refine vl_n ?_
  refine H_call HB_64 H fun t9 h H => ?_
  refine vl_e ?_
  refine resH_of rfl ?_
  exact H
/-! ### (*pub/tidwallbtree.Set[string]).Ascend$1 -/
def Set_s_Ascend_c1.sh (a0 : Value) (a1 : Value) (f0 : Value) (h : Heap) (Q : Value → Heap → Prop) : Prop :=
    box 59 a1 h fun t4 h =>
    load1 f0 h fun t6 =>
    callV Try.prog t6 #[a0] h fun t8 h =>
    Q t8 h
theorem Set_s_Ascend_c1.body (a0 : Value) (a1 : Value) (f0 : Value) (h : Heap) (Q : Value → Heap → Prop) (H : Set_s_Ascend_c1.sh a0 a1 f0 h Q) : Set_s_Ascend_c1.call #[a0, a1, f0] h Q := by
  refine callsH_of (args := [a0, a1, f0]) Try.func48 rfl rfl ?_
  unfold Set_s_Ascend_c1.sh at H
  refine WPc_seq' ?_
  refine W_region (by kernel_rfl) ?_
  refine vl_n ?_
  refine H_box H fun t4 h H => ?_
  refine vl_n ?_
  refine H_of_R (R_assign (v := (.bool false)) rfl ?_)
  refine vl_e ?_
  refine WPc_seq' ?_
  refine W_region (by kernel_rfl) ?_
  refine vl_n ?_
  refine H_of_R (R_load1 T1_46 H fun _ t6 _ _ H => ?_)
  refine vl_n ?_
  refine H_of_R (R_move (v := a0) rfl ?_)
  refine vl_n ?_
  refine H_callV H fun t8 h H => ?_
  refine vl_n ?_
  refine H_of_R (R_assign (v := t8) rfl ?_)
  refine vl_e ?_
  refine WPc_ret ?_
  refine resH_of rfl ?_
  exact H
/-! ### (*pub/tidwallbtree.Set[string]).Ascend -/
def Set_s_Ascend.sh (a0 : Value) (a1 : Value) (a2 : Value) (h : Heap) (Q : Value → Heap → Prop) : Prop :=
    box 46 a2 h fun t5 h =>
    nilck a0 fun t7 =>
    fld 0 t7 fun t8 =>
    Map_su_Ascend.call #[t8, a1, (.func (.func 48) #[] #[t5])] h fun t11 h =>
    Q (.tuple #[]) h
theorem Set_s_Ascend.body (a0 : Value) (a1 : Value) (a2 : Value) (h : Heap) (Q : Value → Heap → Prop) (H : Set_s_Ascend.sh a0 a1 a2 h Q) : Set_s_Ascend.call #[a0, a1, a2] h Q := by
  refine callsH_of (args := [a0, a1, a2]) Try.func33 rfl rfl ?_
  unfold Set_s_Ascend.sh at H
  refine WPc_seq' ?_
  refine W_region (by kernel_rfl) ?_
  refine vl_n ?_
  refine H_box H fun t5 h H => ?_
  refine vl_e ?_
  refine W_region (by kernel_rfl) ?_
  refine vl_n ?_
  refine H_of_R (R_move (v := a0) rfl ?_)
  refine vl_n ?_
  refine H_of_R (R_nil H fun t7 H => ?_)
  refine vl_n ?_
  refine H_of_R (R_fld TF_65_0 H fun t8 H => ?_)
  refine vl_n ?_
  refine H_of_R (R_move (v := a1) rfl ?_)
  refine vl_n ?_
  refine H_of_R (R_mkFn (v := (.func (.func 48) #[] #[t5])) rfl ?_)
  refine vl_n ?_
  refine H_call HB_47 H fun t11 h H => ?_
  refine vl_e ?_
  refine resH_of rfl ?_
  exact H
/-! ### impl.taker[string]$1 -/
def i_taker_s_c1.sh (a0 : Value) (f0 : Value) (f1 : Value) (h : Heap) (Q : Value → Heap → Prop) : Prop :=
    load1 f0 h fun t5 =>
    load1 f0 h fun t6 =>
    nilck t6 fun t7 =>
    load1 t7 h fun t8 =>
    mkSl (if 1 * 1 = 0 then [] else zeros [(.string ⟨#[]⟩)] 1) 1 [(0 * 1, 1, a0)] 9 h fun t10 h =>
    still1 f0 t5 h ∧ still1 f0 t6 h ∧ still1 t7 t8 h ∧ app 9 1 16 [(.string ⟨#[]⟩)] t8 t10 h fun t11 h =>
    still1 f0 t5 h ∧ nilck t5 fun t12 =>
    store1 t12 t11 h fun h =>
    load1 f1 h fun t13 =>
    cmpI (fun a b => decide (a < b)) t13 (.int .i64 1) fun t14 =>
    br t14 false (load1 f0 h fun t16 =>
    nilck t16 fun t17 =>
    load1 t17 h fun t18 =>
    lenV t18 fun t19 =>
    load1 f1 h fun t20 =>
    cmpI (fun a b => decide (a < b)) t19 t20 fun t21 =>
    Q t21 h) (Q (.bool true) h)
theorem i_taker_s_c1.body (a0 : Value) (f0 : Value) (f1 : Value) (h : Heap) (Q : Value → Heap → Prop) (H : i_taker_s_c1.sh a0 f0 f1 h Q) : i_taker_s_c1.call #[a0, f0, f1] h Q := by
  refine callsH_of (args := [a0, f0, f1]) Try.func49 rfl rfl ?_
  unfold i_taker_s_c1.sh at H
  refine WPc_seq' ?_
  refine W_region (by kernel_rfl) ?_
  refine vl_n ?_
  refine H_of_R (R_assign (v := (.bool false)) rfl ?_)
  refine vl_e ?_
  refine WPc_seq' ?_
  refine W_drawn [0, 0, 2, 6, 0, 16, 62, 127, 255] (.take 0 (.take 1 (.take 2 (.take 3 (.take 4 (.alt 5 (.alt 6 (.take 7 (.alt 8 .done .none)) .none) .none)))))) mixed (by kernel_rfl) ?_
  refine tkL rfl ?_
  refine R_load1 T1_48 H fun at5 t5 hat5 _ H => ?_
  refine tkL rfl ?_
  refine R_load1 T1_48 H fun at6 t6 hat6 _ H => ?_
  refine tkP rfl ?_
  refine R_nil H fun t7 H => ⟨fun _ => trivial, ?_⟩
  refine tkL rfl ?_
  refine R_load1 T1_22 H fun at8 t8 hat8 _ H => ?_
  refine tkP rfl ?_
  refine R_move (v := a0) rfl ⟨fun _ => trivial, ?_⟩
  refine alt_n rfl ?_ vp_none
  refine H_mkSl TZ_22 (by decide) rfl H rfl fun t10 h ⟨S, S_2, S_3, H⟩ => ⟨(hcons rfl (still_1 S_3 hat8) (hcons rfl (still_1 S_2 hat6) (hcons rfl (still_1 S hat5) hnil))), ?_⟩
  refine alt_n rfl ?_ vp_none
  refine H_app TZ_22 TU_22 H fun t11 h ⟨S_4, H⟩ => ⟨(hskip rfl (hskip rfl (hcons rfl (still_1 S_4 hat5) hnil))), ?_⟩
  refine tkP rfl ?_
  refine R_nil H fun t12 H => ⟨fun _ => trivial, ?_⟩
  refine alt_n rfl ?_ vp_none
  refine H_store1 TS_22 H fun h H => ⟨(hskip rfl hnil), ?_⟩
  refine vp_done ?_
  refine WPc_seq' ?_
  refine W_drawn [0, 1, 3, 7, 15, 31, 63, 7, 255, 511, 1023] (.take 0 (.take 1 (.take 2 (.take 3 (.take 4 (.take 5 (.take 6 (.take 7 (.take 8 (.take 9 (.take 10 .done))))))))))) mixed (by kernel_rfl) ?_
  refine tkL rfl ?_
  refine R_load1 T1_3 H fun at13 t13 hat13 _ H => ?_
  refine tkP rfl ?_
  refine R_lss H fun t14 H => ⟨fun _ => trivial, ?_⟩
  refine tkP rfl ?_
  refine R_move (v := t14) rfl ⟨fun _ => trivial, ?_⟩
  obtain ⟨b, hb, H1, H2⟩ := H
  cases b
  · have H := H1 rfl; clear H1 H2
    refine tkLy rfl rfl hb ?_
    refine R_load1 T1_48 H fun at16 t16 hat16 _ H => ?_
    refine tkPy rfl rfl hb ?_
    refine R_nil H fun t17 H => ⟨fun _ => trivial, ?_⟩
    refine tkLy rfl rfl hb ?_
    refine R_load1 T1_22 H fun at18 t18 hat18 _ H => ?_
    refine tkPy rfl rfl hb ?_
    refine R_len Try.underlying22 H fun t19 H => ⟨fun _ => trivial, ?_⟩
    refine tkLy rfl rfl hb ?_
    refine R_load1 T1_3 H fun at20 t20 hat20 _ H => ?_
    refine tkPy rfl rfl hb ?_
    refine R_lss H fun t21 H => ⟨fun _ => trivial, ?_⟩
    refine tkP rfl ?_
    refine R_pickC (v := t21) false hb rfl ⟨fun _ => trivial, ?_⟩
    refine tkP rfl ?_
    refine R_assign (v := t21) rfl ⟨fun _ => trivial, ?_⟩
    refine vp_done ?_
    refine WPc_ret ?_
    refine resH_of rfl ?_
    exact H
  · have H := H2 rfl; clear H1 H2
    refine tk_s rfl rfl (nbF hb) ?_
    refine tk_s rfl rfl (nbF hb) ?_
    refine tk_s rfl rfl (nbF hb) ?_
    refine tk_s rfl rfl (nbF hb) ?_
    refine tk_s rfl rfl (nbF hb) ?_
    refine tk_s rfl rfl (nbF hb) ?_
    refine tkP rfl ?_
    refine R_pickC (v := (.bool true)) true hb rfl ⟨fun _ => trivial, ?_⟩
    refine tkP rfl ?_
    refine R_assign (v := (.bool true)) rfl ⟨fun _ => trivial, ?_⟩
    refine vp_done ?_
    refine WPc_ret ?_
    refine resH_of rfl ?_
    exact H
/-! ### impl.taker[string] -/
def i_taker_s.sh (a0 : Value) (a1 : Value) (h : Heap) (Q : Value → Heap → Prop) : Prop :=
    box 48 a0 h fun t2 h =>
    box 3 a1 h fun t3 h =>
    Q (.func (.func 49) #[] #[t2, t3]) h
theorem i_taker_s.body (a0 : Value) (a1 : Value) (h : Heap) (Q : Value → Heap → Prop) (H : i_taker_s.sh a0 a1 h Q) : i_taker_s.call #[a0, a1] h Q := by
  refine callsH_of (args := [a0, a1]) Try.func34 rfl rfl ?_
  unfold i_taker_s.sh at H
  refine WPc_seq' ?_
  refine W_region (by kernel_rfl) ?_
  refine vl_n ?_
  refine H_box H fun t2 h H => ?_
  refine vl_n ?_
  refine H_box H fun t3 h H => ?_
  refine vl_n ?_
  refine H_of_R (R_assign (v := .nilFunc) rfl ?_)
  refine vl_e ?_
  refine WPc_seq' ?_
  refine W_region (by kernel_rfl) ?_
  refine vl_n ?_
  refine H_of_R (R_mkFn (v := (.func (.func 49) #[] #[t2, t3])) rfl ?_)
  refine vl_n ?_
  refine H_of_R (R_assign (v := (.func (.func 49) #[] #[t2, t3])) rfl ?_)
  refine vl_e ?_
  refine WPc_ret ?_
  refine resH_of rfl ?_
  exact H
/-! ### impl.TAscend -/
def i_TAscend.sh (a0 : Value) (a1 : Value) (a2 : Value) (h : Heap) (Q : Value → Heap → Prop) : Prop :=
    alloc [(.slice none 0 0)] 22 h fun t7 h =>
    i_growTexts.call #[a0] h fun t9 h =>
    i_taker_s.call #[t7, a2] h fun t12 h =>
    Set_s_Ascend.call #[t9, a1, t12] h fun t13 h =>
    load1 t7 h fun t14 =>
    Q t14 h
theorem i_TAscend.body (a0 : Value) (a1 : Value) (a2 : Value) (h : Heap) (Q : Value → Heap → Prop) (H : i_TAscend.sh a0 a1 a2 h Q) : i_TAscend.call #[a0, a1, a2] h Q := by
  refine callsH_of (args := [a0, a1, a2]) Try.func18 rfl rfl ?_
  unfold i_TAscend.sh at H
  refine WPc_seq' ?_
  refine W_region (by kernel_rfl) ?_
  refine vl_n ?_
  refine H_of_R (R_assign (v := (.slice none 0 0)) rfl ?_)
  refine vl_e ?_
  refine WPc_seq' ?_
  refine W_region (by kernel_rfl) ?_
  refine vl_n ?_
  refine H_alloc TV_22 H fun t7 h H => ?_
  refine vl_e ?_
  refine WPc_seq' ?_
  refine W_region (by kernel_rfl) ?_
  refine vl_n ?_
  refine H_of_R (R_move (v := a0) rfl ?_)
  refine vl_n ?_
  refine H_call HB_24 H fun t9 h H => ?_
  refine vl_n ?_
  refine H_of_R (R_move (v := a1) rfl ?_)
  refine vl_n ?_
  refine H_of_R (R_move (v := a2) rfl ?_)
  refine vl_n ?_
  refine H_call HB_34 H fun t12 h H => ?_
  refine vl_n ?_
  refine H_call HB_33 H fun t13 h H => ?_
  refine vl_e ?_
  refine WPc_seq' ?_
  refine W_region (by kernel_rfl) ?_
  refine vl_n ?_
  refine H_of_R (R_load1 T1_22 H fun _ t14 _ _ H => ?_)
  refine vl_n ?_
  refine H_of_R (R_assign (v := t14) rfl ?_)
  refine vl_e ?_
  refine WPc_ret ?_
  refine resH_of rfl ?_
  exact H
/-! ### slices.Clone[[]string,string] -/
def sl_Clone_ss.j1 (s0 : Value) (h : Heap) (Q : Value → Heap → Prop) : Prop :=
    mkSl (if 0 * 1 = 0 then [] else zeros [(.string ⟨#[]⟩)] 0) 0 [] 9 h fun t5 h =>
    app 9 1 16 [(.string ⟨#[]⟩)] t5 s0 h fun t7 h =>
    Q t7 h
def sl_Clone_ss.sh (a0 : Value) (h : Heap) (Q : Value → Heap → Prop) : Prop :=
    eqNilS a0 fun t4 =>
    ifV t4
    (Q (.slice none 0 0) h)
    (sl_Clone_ss.j1 a0 h Q)
theorem sl_Clone_ss.body (a0 : Value) (h : Heap) (Q : Value → Heap → Prop) (H : sl_Clone_ss.sh a0 h Q) : sl_Clone_ss.call #[a0] h Q := by
  refine callsH_of (args := [a0]) Try.func38 rfl rfl ?_
  unfold sl_Clone_ss.sh at H
  refine WPc_seq' ?_
  refine W_region (by kernel_rfl) ?_
  refine vl_n ?_
  refine H_of_R (R_assign (v := (.slice none 0 0)) rfl ?_)
  refine vl_e ?_
  refine WPc_seq (fun e h => sl_Clone_ss.j1 (e 0) h Q) ?_ (fun e h H => ?_)
  rotate_left
  · unfold sl_Clone_ss.j1 at H
    refine WPc_seq' ?_
    refine W_region (by kernel_rfl) ?_
    refine vl_n ?_
    refine H_mkSl TZ_22 (by decide) rfl H rfl fun t5 h H => ?_
    refine vl_n ?_
    refine H_of_R (R_move (v := (e 0)) rfl ?_)
    refine vl_n ?_
    refine H_app TZ_22 TU_22 H fun t7 h H => ?_
    refine vl_n ?_
    refine H_of_R (R_assign (v := t7) rfl ?_)
    refine vl_e ?_
    refine WPc_ret ?_
    refine resH_of rfl ?_
    exact H
  refine WPc_seq' ?_
  refine W_region (by kernel_rfl) ?_
  refine vl_n ?_
  refine H_of_R (R_move (v := a0) rfl ?_)
  refine vl_n ?_
  refine H_of_R (R_eqNilS Try.underlying22 rfl H fun t4 H => ?_)
  refine vl_e ?_
  obtain ⟨b, hc, H1, H2⟩ := H
  refine WPc_cond hc (fun hh => ?_) (fun hh => ?_)
  · have H := H1 hh; clear H1 H2
    refine WPc_seq' ?_
    refine W_region (by kernel_rfl) ?_
    refine vl_n ?_
    refine H_of_R (R_assign (v := (.slice none 0 0)) rfl ?_)
    refine vl_e ?_
    refine WPc_ret ?_
    refine resH_of rfl ?_
    exact H
  · have H := H2 hh; clear H1 H2
    refine WPc_skip ?_
    exact H
/-! ### slices.Reverse[[]string,string] -/
def sl_Reverse_ss.j3 (s0 : Value) (s2 : Value) (s3 : Value) (h : Heap) (K1 : List Value → Heap → Prop) (Q : Value → Heap → Prop) : Prop :=
    arith (· + ·) s2 (.int .i64 1) fun t11 =>
    arith (· - ·) s3 (.int .i64 1) fun t13 =>
    K1 [t11, t13] h
def sl_Reverse_ss.j2 (s0 : Value) (s2 : Value) (s3 : Value) (h : Heap) (K1 : List Value → Heap → Prop) (Q : Value → Heap → Prop) : Prop :=
    idx 1 s0 s3 fun t20 =>
    load1 t20 h fun t21 =>
    idx 1 s0 s2 fun t24 =>
    load1 t24 h fun t25 =>
    idx 1 s0 s2 fun t26 =>
    store1 t26 t21 h fun h =>
    idx 1 s0 s3 fun t27 =>
    store1 t27 t25 h fun h =>
    sl_Reverse_ss.j3 s0 s2 s3 h K1 Q
def sl_Reverse_ss.l1.b (c0 : Value) (s2 : Value) (s3 : Value) (h : Heap) (K1 : List Value → Heap → Prop) (Q : Value → Heap → Prop) : Prop :=
    cmpI (fun a b => decide (a < b)) s2 s3 fun t9 =>
    ifV t9
    (sl_Reverse_ss.j2 c0 s2 s3 h K1 Q)
    (Q (.tuple #[]) h)
def sl_Reverse_ss.sh (a0 : Value) (h : Heap) (Q : Value → Heap → Prop) : Prop :=
    lenV a0 fun t5 =>
    arith (· - ·) t5 (.int .i64 1) fun t6 =>
    loopC (fun c s h K1 => sl_Reverse_ss.l1.b (c.getD 0 undef) (s.getD 0 undef) (s.getD 1 undef) h K1 Q) [a0] [(.int .i64 0), t6] h
theorem sl_Reverse_ss.body (a0 : Value) (h : Heap) (Q : Value → Heap → Prop) (H : sl_Reverse_ss.sh a0 h Q) : sl_Reverse_ss.call #[a0] h Q := by
  refine callsH_of (args := [a0]) Try.func39 rfl rfl ?_
  unfold sl_Reverse_ss.sh at H
  refine WPc_seq' ?_
  refine W_region (by kernel_rfl) ?_
  refine vl_n ?_
  refine H_of_R (R_move (v := a0) rfl ?_)
  refine vl_n ?_
  refine H_of_R (R_len Try.underlying22 H fun t5 H => ?_)
  refine vl_n ?_
  refine H_of_R (R_sub H fun t6 H => ?_)
  refine vl_n ?_
  refine H_of_R (R_assign (v := (.int .i64 0)) rfl ?_)
  refine vl_n ?_
  refine H_of_R (R_assign (v := t6) rfl ?_)
  refine vl_e ?_
  refine WPc_block ?_
  refine loop_at (fun e => [e 2, e 3]) (fun e => [e 0]) H rfl rfl ?_
  intro K1 e1 h H hin1
  replace H : sl_Reverse_ss.l1.b (e1 0) (e1 2) (e1 3) h K1 Q := H
  unfold sl_Reverse_ss.l1.b at H
  clear hin1
  refine WPc_seq (fun e h => sl_Reverse_ss.j2 (e 0) (e 2) (e 3) h K1 Q ∧ [e1 0] = [e 0]) ?_ (fun e h ⟨H, hq1⟩ => ?_)
  rotate_left
  · unfold sl_Reverse_ss.j2 at H
    refine WPc_seq (fun e h => sl_Reverse_ss.j3 (e 0) (e 2) (e 3) h K1 Q ∧ [e1 0] = [e 0]) ?_ (fun e h ⟨H, hq1⟩ => ?_)
    rotate_left
    · unfold sl_Reverse_ss.j3 at H
      refine W_region (by kernel_rfl) ?_
      refine vl_n ?_
      refine H_of_R (R_move (v := (e 2)) rfl ?_)
      refine vl_n ?_
      refine H_of_R (R_add H fun t11 H => ?_)
      refine vl_n ?_
      refine H_of_R (R_move (v := (e 3)) rfl ?_)
      refine vl_n ?_
      refine H_of_R (R_sub H fun t13 H => ?_)
      refine vl_n ?_
      refine H_of_R (R_assign (v := t11) rfl ?_)
      refine vl_n ?_
      refine H_of_R (R_assign (v := t13) rfl ?_)
      refine vl_e ?_
      exact ⟨H, hq1⟩
    refine WPc_block ?_
    refine W_drawn [0, 0, 0, 0, 0, 0, 48, 112, 0, 0, 768, 1792, 4083, 8179, 16383, 32767] (.take 0 (.take 1 (.take 2 (.take 3 (.take 4 (.take 5 (.take 6 (.take 7 (.take 8 (.take 9 (.take 10 (.take 11 (.take 12 (.alt 13 (.take 14 (.alt 15 .done .none)) .none)))))))))))))) mixed (by kernel_rfl) ?_
    refine tkP rfl ?_
    refine R_move (v := (e 0)) rfl ⟨fun _ => trivial, ?_⟩
    refine tkP rfl ?_
    refine R_move (v := (e 2)) rfl ⟨fun _ => trivial, ?_⟩
    refine tkP rfl ?_
    refine R_move (v := (e 0)) rfl ⟨fun _ => trivial, ?_⟩
    refine tkP rfl ?_
    refine R_move (v := (e 3)) rfl ⟨fun _ => trivial, ?_⟩
    refine tkP rfl ?_
    refine R_move (v := (e 0)) rfl ⟨fun _ => trivial, ?_⟩
    refine tkP rfl ?_
    refine R_move (v := (e 3)) rfl ⟨fun _ => trivial, ?_⟩
    refine tkP rfl ?_
    refine R_idx TE_22 H fun t20 H => ⟨fun _ => trivial, ?_⟩
    refine tkL rfl ?_
    refine R_load1 T1_9 H fun at21 t21 hat21 _ H => ?_
    refine tkP rfl ?_
    refine R_move (v := (e 0)) rfl ⟨fun _ => trivial, ?_⟩
    refine tkP rfl ?_
    refine R_move (v := (e 2)) rfl ⟨fun _ => trivial, ?_⟩
    refine tkP rfl ?_
    refine R_idx TE_22 H fun t24 H => ⟨fun _ => trivial, ?_⟩
    refine tkL rfl ?_
    refine R_load1 T1_9 H fun at25 t25 hat25 _ H => ?_
    refine tkP rfl ?_
    refine R_idx TE_22 H fun t26 H => ⟨fun _ => trivial, ?_⟩
    refine alt_n rfl ?_ vp_none
    refine H_store1 TS_9 H fun h H => ⟨(hskip rfl (hskip rfl hnil)), ?_⟩
    refine tkP rfl ?_
    refine R_idx TE_22 H fun t27 H => ⟨fun _ => trivial, ?_⟩
    refine alt_n rfl ?_ vp_none
    refine H_store1 TS_9 H fun h H => ⟨hnil, ?_⟩
    refine vp_done ?_
    exact ⟨H, hq1⟩
  refine WPc_seq' ?_
  refine W_region (by kernel_rfl) ?_
  refine vl_n ?_
  refine H_of_R (R_move (v := (e1 2)) rfl ?_)
  refine vl_n ?_
  refine H_of_R (R_move (v := (e1 3)) rfl ?_)
  refine vl_n ?_
  refine H_of_R (R_lss H fun t9 H => ?_)
  refine vl_e ?_
  obtain ⟨b, hc, H1, H2⟩ := H
  refine WPc_cond hc (fun hh => ?_) (fun hh => ?_)
  · have H := H1 hh; clear H1 H2
    refine WPc_skip ?_
    exact ⟨H, rfl⟩
  · have H := H2 hh; clear H1 H2
    refine WPc_exit ?_
    refine resH_of rfl ?_
    exact H
/-! ### laws.turned[string] -/
def l_turned_s.sh (a0 : Value) (h : Heap) (Q : Value → Heap → Prop) : Prop :=
    sl_Clone_ss.call #[a0] h fun t5 h =>
    sl_Reverse_ss.call #[t5] h fun t7 h =>
    Q t5 h
theorem l_turned_s.body (a0 : Value) (h : Heap) (Q : Value → Heap → Prop) (H : l_turned_s.sh a0 h Q) : l_turned_s.call #[a0] h Q := by
  refine callsH_of (args := [a0]) Try.func22 rfl rfl ?_
  unfold l_turned_s.sh at H
  refine WPc_seq' ?_
  refine W_region (by kernel_rfl) ?_
  refine vl_n ?_
  refine H_of_R (R_assign (v := (.slice none 0 0)) rfl ?_)
  refine vl_e ?_
  refine WPc_seq' ?_
  refine W_region (by kernel_rfl) ?_
  refine vl_n ?_
  refine H_of_R (R_move (v := a0) rfl ?_)
  refine vl_n ?_
  refine H_call HB_38 H fun t5 h H => ?_
  refine vl_n ?_
  refine H_of_R (R_assign (v := t5) rfl ?_)
  refine vl_e ?_
  refine WPc_seq' ?_
  refine W_region (by kernel_rfl) ?_
  refine vl_n ?_
  refine H_of_R (R_move (v := t5) rfl ?_)
  refine vl_n ?_
  refine H_call HB_39 H fun t7 h H => ?_
  refine vl_e ?_
  refine WPc_seq' ?_
  refine W_region (by kernel_rfl) ?_
  refine vl_n ?_
  refine H_of_R (R_move (v := t5) rfl ?_)
  refine vl_n ?_
  refine H_of_R (R_assign (v := t5) rfl ?_)
  refine vl_e ?_
  refine WPc_ret ?_
  refine resH_of rfl ?_
  exact H

end Go.Proofs.Ytfojeibloilneaa
