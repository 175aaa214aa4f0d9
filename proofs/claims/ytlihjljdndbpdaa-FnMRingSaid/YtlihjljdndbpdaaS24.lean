/-
  Shallow forms of the walked functions, and that each call comes to its form. Written by a program of this repo (gen.py). Conditions: none.
-/
import Derived.Test.YtlihjljdndbpdaaST
namespace Go.Proofs.Ytlihjljdndbpdaa
open Go.Hp
set_option maxRecDepth 100000
set_option maxHeartbeats 8000000
set_option linter.unusedVariables false
set_option linter.unusedSimpArgs false

/-! ### (*pub/tidwallbtree.Map[int, int]).nodeAscend -/
def Map_ii_nodeAscend.j2 (h : Heap) (Q : Value → Heap → Prop) : Prop :=
    Q (.bool true) h
def Map_ii_nodeAscend.j5 (s0 : Value) (s3 : Value) (s4 : Value) (s11 : Value) (s12 : Value) (h : Heap) (K1 : List Value → Heap → Prop) (Q : Value → Heap → Prop) : Prop :=
    arith (· + ·) s12 (.int .i64 1) fun t52 =>
    K1 [t52] h
def Map_ii_nodeAscend.j6 (s0 : Value) (s3 : Value) (s4 : Value) (s11 : Value) (s12 : Value) (h : Heap) (K1 : List Value → Heap → Prop) (Q : Value → Heap → Prop) : Prop :=
    mapNode_ii_leaf.call #[s11] h fun t73 h =>
    notV t73 fun t74 =>
    ifV t74
    (nilck s11 fun t77 =>
    fld 3 t77 fun t78 =>
    load1 t78 h fun t79 =>
    nilck t79 fun t80 =>
    load1 t80 h fun t81 =>
    arith (· + ·) s12 (.int .i64 1) fun t83 =>
    idx 1 t81 t83 fun t84 =>
    Map_ii_nodeScan.call #[s0, t84, s3, s4] h fun t87 h =>
    notV t87 fun t88 =>
    ifV t88
    (Q (.bool false) h)
    (Map_ii_nodeAscend.j5 s0 s3 s4 s11 s12 h K1 Q))
    (Map_ii_nodeAscend.j5 s0 s3 s4 s11 s12 h K1 Q)
def Map_ii_nodeAscend.j4 (s0 : Value) (s3 : Value) (s4 : Value) (s11 : Value) (s12 : Value) (h : Heap) (K1 : List Value → Heap → Prop) (Q : Value → Heap → Prop) : Prop :=
    nilck s11 fun t55 =>
    fld 2 t55 fun t56 =>
    load1 t56 h fun t57 =>
    idx 2 t57 s12 fun t59 =>
    fld 1 t59 fun t60 =>
    load1 t60 h fun t61 =>
    nilck s11 fun t63 =>
    fld 2 t63 fun t64 =>
    load1 t64 h fun t65 =>
    idx 2 t65 s12 fun t67 =>
    fld 0 t67 fun t68 =>
    load1 t68 h fun t69 =>
    callV Try.prog s3 #[t61, t69] h fun t70 h =>
    notV t70 fun t71 =>
    ifV t71
    (Q (.bool false) h)
    (Map_ii_nodeAscend.j6 s0 s3 s4 s11 s12 h K1 Q)
def Map_ii_nodeAscend.l3.b (c0 : Value) (c3 : Value) (c4 : Value) (c11 : Value) (s12 : Value) (h : Heap) (K1 : List Value → Heap → Prop) (Q : Value → Heap → Prop) : Prop :=
    nilck c11 fun t46 =>
    fld 2 t46 fun t47 =>
    load1 t47 h fun t48 =>
    lenV t48 fun t49 =>
    cmpI (fun a b => decide (a < b)) s12 t49 fun t50 =>
    ifV t50
    (Map_ii_nodeAscend.j4 c0 c3 c4 c11 s12 h K1 Q)
    (Map_ii_nodeAscend.j2 h Q)
def Map_ii_nodeAscend.j1 (s0 : Value) (s3 : Value) (s4 : Value) (s11 : Value) (s12 : Value) (h : Heap) (Q : Value → Heap → Prop) : Prop :=
    loopC (fun c s h K1 => Map_ii_nodeAscend.l3.b (c.getD 0 undef) (c.getD 1 undef) (c.getD 2 undef) (c.getD 3 undef) (s.getD 0 undef) h K1 Q) [s0, s3, s4, s11] [s12] h
def Map_ii_nodeAscend.sh (a0 : Value) (a1 : Value) (a2 : Value) (a3 : Value) (a4 : Value) (h : Heap) (Q : Value → Heap → Prop) : Prop :=
    Map_ii_isoLoad.call #[a0, a1, a4] h fun t17 h =>
    Map_ii_search.call #[a0, t17, a2] h fun t22 h =>
    extr 0 t22 fun t23 =>
    extr 1 t22 fun t24 =>
    notV t24 fun t26 =>
    ifV t26
    (mapNode_ii_leaf.call #[t17] h fun t28 h =>
    notV t28 fun t29 =>
    ifV t29
    (nilck t17 fun t32 =>
    fld 3 t32 fun t33 =>
    load1 t33 h fun t34 =>
    nilck t34 fun t35 =>
    load1 t35 h fun t36 =>
    idx 1 t36 t23 fun t38 =>
    Map_ii_nodeAscend.call #[a0, t38, a2, a3, a4] h fun t42 h =>
    notV t42 fun t43 =>
    ifV t43
    (Q (.bool false) h)
    (Map_ii_nodeAscend.j1 a0 a3 a4 t17 t23 h Q))
    (Map_ii_nodeAscend.j1 a0 a3 a4 t17 t23 h Q))
    (Map_ii_nodeAscend.j1 a0 a3 a4 t17 t23 h Q)
theorem Map_ii_nodeAscend.body (a0 : Value) (a1 : Value) (a2 : Value) (a3 : Value) (a4 : Value) (h : Heap) (Q : Value → Heap → Prop) (H : Map_ii_nodeAscend.sh a0 a1 a2 a3 a4 h Q) : Map_ii_nodeAscend.call #[a0, a1, a2, a3, a4] h Q := by
  refine callsH_of (args := [a0, a1, a2, a3, a4]) Try.func194 rfl rfl ?_
  unfold Map_ii_nodeAscend.sh at H
  refine WPc_seq' ?_
  refine W_region (by kernel_rfl) ?_
  refine vl_n ?_
  refine H_of_R (R_assign (v := (.bool false)) rfl ?_)
  refine vl_e ?_
  refine WPc_seq' ?_
  refine W_region (by kernel_rfl) ?_
  refine vl_n ?_
  refine H_of_R (R_move (v := a0) rfl ?_)
  refine vl_n ?_
  refine H_of_R (R_move (v := a1) rfl ?_)
  refine vl_n ?_
  refine H_of_R (R_move (v := a4) rfl ?_)
  refine vl_n ?_
  refine H_call HB_125 H fun t17 h H => ?_
  refine vl_n ?_
  refine H_of_R (R_assign (v := t17) rfl ?_)
  refine vl_e ?_
  refine WPc_seq' ?_
  refine W_region (by kernel_rfl) ?_
  refine vl_n ?_
  refine H_of_R (R_move (v := a0) rfl ?_)
  refine vl_n ?_
  refine H_of_R (R_move (v := t17) rfl ?_)
  refine vl_n ?_
  refine H_of_R (R_move (v := a2) rfl ?_)
  refine vl_n ?_
  refine H_call HB_156 H fun t22 h H => ?_
  refine vl_n ?_
  refine H_of_R (R_move (v := t22) rfl ?_)
  refine vl_n ?_
  refine H_of_R (R_ext H fun t23 H => ?_)
  refine vl_n ?_
  refine H_of_R (R_ext H fun t24 H => ?_)
  refine vl_n ?_
  refine H_of_R (R_assign (v := t23) rfl ?_)
  refine vl_n ?_
  refine H_of_R (R_assign (v := t24) rfl ?_)
  refine vl_e ?_
  refine WPc_seq (fun e h => Map_ii_nodeAscend.j1 (e 0) (e 3) (e 4) (e 11) (e 12) h Q) ?_ (fun e h H => ?_)
  rotate_left
  · unfold Map_ii_nodeAscend.j1 at H
    refine WPc_seq (fun e h => Map_ii_nodeAscend.j2 h Q) ?_ (fun e h H => ?_)
    rotate_left
    · unfold Map_ii_nodeAscend.j2 at H
      refine WPc_seq' ?_
      refine W_region (by kernel_rfl) ?_
      refine vl_n ?_
      refine H_of_R (R_assign (v := (.bool true)) rfl ?_)
      refine vl_e ?_
      refine WPc_ret ?_
      refine resH_of rfl ?_
      exact H
    refine WPc_block ?_
    refine loop_at (fun e => [e 12]) (fun e => [e 0, e 3, e 4, e 11]) H rfl rfl ?_
    intro K1 e1 h H hin1
    replace H : Map_ii_nodeAscend.l3.b (e1 0) (e1 3) (e1 4) (e1 11) (e1 12) h K1 Q := H
    unfold Map_ii_nodeAscend.l3.b at H
    clear hin1
    refine WPc_seq (fun e h => Map_ii_nodeAscend.j4 (e 0) (e 3) (e 4) (e 11) (e 12) h K1 Q ∧ [e1 0, e1 3, e1 4, e1 11] = [e 0, e 3, e 4, e 11]) ?_ (fun e h ⟨H, hq1⟩ => ?_)
    rotate_left
    · unfold Map_ii_nodeAscend.j4 at H
      refine WPc_seq (fun e h => Map_ii_nodeAscend.j5 (e 0) (e 3) (e 4) (e 11) (e 12) h K1 Q ∧ [e1 0, e1 3, e1 4, e1 11] = [e 0, e 3, e 4, e 11]) ?_ (fun e h ⟨H, hq1⟩ => ?_)
      rotate_left
      · unfold Map_ii_nodeAscend.j5 at H
        refine W_region (by kernel_rfl) ?_
        refine vl_n ?_
        refine H_of_R (R_move (v := (e 12)) rfl ?_)
        refine vl_n ?_
        refine H_of_R (R_add H fun t52 H => ?_)
        refine vl_n ?_
        refine H_of_R (R_assign (v := t52) rfl ?_)
        refine vl_e ?_
        exact ⟨H, hq1⟩
      refine WPc_block ?_
      refine WPc_seq (fun e h => Map_ii_nodeAscend.j6 (e 0) (e 3) (e 4) (e 11) (e 12) h K1 Q ∧ [e1 0, e1 3, e1 4, e1 11] = [e 0, e 3, e 4, e 11]) ?_ (fun e h ⟨H, hq1⟩ => ?_)
      rotate_left
      · unfold Map_ii_nodeAscend.j6 at H
        refine WPc_seq' ?_
        refine W_region (by kernel_rfl) ?_
        refine vl_n ?_
        refine H_of_R (R_move (v := (e 11)) rfl ?_)
        refine vl_n ?_
        refine H_call HB_126 H fun t73 h H => ?_
        refine vl_n ?_
        refine H_of_R (R_not H fun t74 H => ?_)
        refine vl_e ?_
        obtain ⟨b, hc, H1, H2⟩ := H
        refine WPc_cond hc (fun hh => ?_) (fun hh => ?_)
        · have H := H1 hh; clear H1 H2
          refine WPc_seq' ?_
          refine W_region (by kernel_rfl) ?_
          refine vl_n ?_
          refine H_of_R (R_move (v := (e 0)) rfl ?_)
          refine vl_n ?_
          refine H_of_R (R_move (v := (e 11)) rfl ?_)
          refine vl_n ?_
          refine H_of_R (R_nil H fun t77 H => ?_)
          refine vl_n ?_
          refine H_of_R (R_fld TF_188_3 H fun t78 H => ?_)
          refine vl_n ?_
          refine H_of_R (R_load1 T1_186 H fun _ t79 _ _ H => ?_)
          refine vl_n ?_
          refine H_of_R (R_nil H fun t80 H => ?_)
          refine vl_n ?_
          refine H_of_R (R_load1 T1_194 H fun _ t81 _ _ H => ?_)
          refine vl_n ?_
          refine H_of_R (R_move (v := (e 12)) rfl ?_)
          refine vl_n ?_
          refine H_of_R (R_add H fun t83 H => ?_)
          refine vl_n ?_
          refine H_of_R (R_idx TE_194 H fun t84 H => ?_)
          refine vl_n ?_
          refine H_of_R (R_move (v := (e 3)) rfl ?_)
          refine vl_n ?_
          refine H_of_R (R_move (v := (e 4)) rfl ?_)
          refine vl_n ?_
          refine H_call HB_169 H fun t87 h H => ?_
          refine vl_n ?_
          refine H_of_R (R_not H fun t88 H => ?_)
          refine vl_e ?_
          obtain ⟨b_2, hc_2, H1, H2⟩ := H
          refine WPc_cond hc_2 (fun hh => ?_) (fun hh => ?_)
          · have H := H1 hh; clear H1 H2
            refine WPc_seq' ?_
            refine W_region (by kernel_rfl) ?_
            refine vl_n ?_
            refine H_of_R (R_assign (v := (.bool false)) rfl ?_)
            refine vl_e ?_
            refine WPc_ret ?_
            refine resH_of rfl ?_
            exact H
          · have H := H2 hh; clear H1 H2
            refine WPc_skip ?_
            exact ⟨H, hq1⟩
        · have H := H2 hh; clear H1 H2
          refine WPc_skip ?_
          exact ⟨H, hq1⟩
      refine WPc_seq' ?_
      refine W_drawn [0, 0, 2, 6, 14, 0, 62, 126, 254, 0, 512, 1536, 3584, 0, 15872, 32256, 65024, 131071, 262143] (.take 0 (.take 1 (.take 2 (.take 3 (.take 4 (.take 5 (.take 6 (.take 7 (.take 8 (.take 9 (.take 10 (.take 11 (.take 12 (.take 13 (.take 14 (.take 15 (.take 16 (.alt 17 (.take 18 .done) .none)))))))))))))))))) mixed (by kernel_rfl) ?_
      refine tkP rfl ?_
      refine R_move (v := (e 3)) rfl ⟨fun _ => trivial, ?_⟩
      refine tkP rfl ?_
      refine R_move (v := (e 11)) rfl ⟨fun _ => trivial, ?_⟩
      refine tkP rfl ?_
      refine R_nil H fun t55 H => ⟨fun _ => trivial, ?_⟩
      refine tkP rfl ?_
      refine R_fld TF_188_2 H fun t56 H => ⟨fun _ => trivial, ?_⟩
      refine tkL rfl ?_
      refine R_load1 T1_185 H fun at57 t57 hat57 _ H => ?_
      refine tkP rfl ?_
      refine R_move (v := (e 12)) rfl ⟨fun _ => trivial, ?_⟩
      refine tkP rfl ?_
      refine R_idx TE_185 H fun t59 H => ⟨fun _ => trivial, ?_⟩
      refine tkP rfl ?_
      refine R_fld TF_178_1 H fun t60 H => ⟨fun _ => trivial, ?_⟩
      refine tkL rfl ?_
      refine R_load1 T1_3 H fun at61 t61 hat61 _ H => ?_
      refine tkP rfl ?_
      refine R_move (v := (e 11)) rfl ⟨fun _ => trivial, ?_⟩
      refine tkP rfl ?_
      refine R_nil H fun t63 H => ⟨fun _ => trivial, ?_⟩
      refine tkP rfl ?_
      refine R_fld TF_188_2 H fun t64 H => ⟨fun _ => trivial, ?_⟩
      refine tkL rfl ?_
      refine R_load1 T1_185 H fun at65 t65 hat65 _ H => ?_
      refine tkP rfl ?_
      refine R_move (v := (e 12)) rfl ⟨fun _ => trivial, ?_⟩
      refine tkP rfl ?_
      refine R_idx TE_185 H fun t67 H => ⟨fun _ => trivial, ?_⟩
      refine tkP rfl ?_
      refine R_fld TF_178_0 H fun t68 H => ⟨fun _ => trivial, ?_⟩
      refine tkL rfl ?_
      refine R_load1 T1_3 H fun at69 t69 hat69 _ H => ?_
      refine alt_n rfl ?_ vp_none
      refine H_callV H fun t70 h H => ⟨(hskip rfl (hskip rfl (hskip rfl (hskip rfl hnil)))), ?_⟩
      refine tkP rfl ?_
      refine R_not H fun t71 H => ⟨fun _ => trivial, ?_⟩
      refine vp_done ?_
      obtain ⟨b, hc, H1, H2⟩ := H
      refine WPc_cond hc (fun hh => ?_) (fun hh => ?_)
      · have H := H1 hh; clear H1 H2
        refine WPc_seq' ?_
        refine W_region (by kernel_rfl) ?_
        refine vl_n ?_
        refine H_of_R (R_assign (v := (.bool false)) rfl ?_)
        refine vl_e ?_
        refine WPc_ret ?_
        refine resH_of rfl ?_
        exact H
      · have H := H2 hh; clear H1 H2
        refine WPc_skip ?_
        exact ⟨H, hq1⟩
    refine WPc_seq' ?_
    refine W_region (by kernel_rfl) ?_
    refine vl_n ?_
    refine H_of_R (R_move (v := (e1 12)) rfl ?_)
    refine vl_n ?_
    refine H_of_R (R_move (v := (e1 11)) rfl ?_)
    refine vl_n ?_
    refine H_of_R (R_nil H fun t46 H => ?_)
    refine vl_n ?_
    refine H_of_R (R_fld TF_188_2 H fun t47 H => ?_)
    refine vl_n ?_
    refine H_of_R (R_load1 T1_185 H fun _ t48 _ _ H => ?_)
    refine vl_n ?_
    refine H_of_R (R_len Try.underlying185 H fun t49 H => ?_)
    refine vl_n ?_
    refine H_of_R (R_lss H fun t50 H => ?_)
    refine vl_e ?_
    obtain ⟨b, hc, H1, H2⟩ := H
    refine WPc_cond hc (fun hh => ?_) (fun hh => ?_)
    · have H := H1 hh; clear H1 H2
      refine WPc_skip ?_
      exact ⟨H, rfl⟩
    · have H := H2 hh; clear H1 H2
      refine WPc_exit ?_
      exact H
  refine WPc_seq' ?_
  refine W_region (by kernel_rfl) ?_
  refine vl_n ?_
  refine H_of_R (R_move (v := t24) rfl ?_)
  refine vl_n ?_
  refine H_of_R (R_not H fun t26 H => ?_)
  refine vl_e ?_
  obtain ⟨b, hc, H1, H2⟩ := H
  refine WPc_cond hc (fun hh => ?_) (fun hh => ?_)
  · have H := H1 hh; clear H1 H2
    refine WPc_seq' ?_
    refine W_region (by kernel_rfl) ?_
    refine vl_n ?_
    refine H_of_R (R_move (v := t17) rfl ?_)
    refine vl_n ?_
    refine H_call HB_126 H fun t28 h H => ?_
    refine vl_n ?_
    refine H_of_R (R_not H fun t29 H => ?_)
    refine vl_e ?_
    obtain ⟨b_2, hc_2, H1, H2⟩ := H
    refine WPc_cond hc_2 (fun hh => ?_) (fun hh => ?_)
    · have H := H1 hh; clear H1 H2
      refine WPc_seq' ?_
      refine W_region (by kernel_rfl) ?_
      refine vl_n ?_
      refine H_of_R (R_move (v := a0) rfl ?_)
      refine vl_n ?_
      refine H_of_R (R_move (v := t17) rfl ?_)
      refine vl_n ?_
      refine H_of_R (R_nil H fun t32 H => ?_)
      refine vl_n ?_
      refine H_of_R (R_fld TF_188_3 H fun t33 H => ?_)
      refine vl_n ?_
      refine H_of_R (R_load1 T1_186 H fun _ t34 _ _ H => ?_)
      refine vl_n ?_
      refine H_of_R (R_nil H fun t35 H => ?_)
      refine vl_n ?_
      refine H_of_R (R_load1 T1_194 H fun _ t36 _ _ H => ?_)
      refine vl_n ?_
      refine H_of_R (R_move (v := t23) rfl ?_)
      refine vl_n ?_
      refine H_of_R (R_idx TE_194 H fun t38 H => ?_)
      refine vl_n ?_
      refine H_of_R (R_move (v := a2) rfl ?_)
      refine vl_n ?_
      refine H_of_R (R_move (v := a3) rfl ?_)
      refine vl_n ?_
      refine H_of_R (R_move (v := a4) rfl ?_)
      refine vl_n ?_
      refine H_call HB_194 H fun t42 h H => ?_
      refine vl_n ?_
      refine H_of_R (R_not H fun t43 H => ?_)
      refine vl_e ?_
      obtain ⟨b_3, hc_3, H1, H2⟩ := H
      refine WPc_cond hc_3 (fun hh => ?_) (fun hh => ?_)
      · have H := H1 hh; clear H1 H2
        refine WPc_seq' ?_
        refine W_region (by kernel_rfl) ?_
        refine vl_n ?_
        refine H_of_R (R_assign (v := (.bool false)) rfl ?_)
        refine vl_e ?_
        refine WPc_ret ?_
        refine resH_of rfl ?_
        exact H
      · have H := H2 hh; clear H1 H2
        refine WPc_skip ?_
        exact H
    · have H := H2 hh; clear H1 H2
      refine WPc_skip ?_
      exact H
  · have H := H2 hh; clear H1 H2
    refine WPc_skip ?_
    exact H
/-! ### (*pub/tidwallbtree.Map[int, int]).ascend -/
def Map_ii_ascend.j1 (s0 : Value) (s1 : Value) (s2 : Value) (s3 : Value) (h : Heap) (Q : Value → Heap → Prop) : Prop :=
    nilck s0 fun t15 =>
    fld 2 t15 fun t16 =>
    Map_ii_nodeAscend.call #[s0, t16, s1, s2, s3] h fun t20 h =>
    Q (.tuple #[]) h
def Map_ii_ascend.sh (a0 : Value) (a1 : Value) (a2 : Value) (a3 : Value) (h : Heap) (Q : Value → Heap → Prop) : Prop :=
    nilck a0 fun t9 =>
    fld 2 t9 fun t10 =>
    load1 t10 h fun t11 =>
    eqNilP t11 fun t12 =>
    ifV t12
    (Q (.tuple #[]) h)
    (Map_ii_ascend.j1 a0 a1 a2 a3 h Q)
theorem Map_ii_ascend.body (a0 : Value) (a1 : Value) (a2 : Value) (a3 : Value) (h : Heap) (Q : Value → Heap → Prop) (H : Map_ii_ascend.sh a0 a1 a2 a3 h Q) : Map_ii_ascend.call #[a0, a1, a2, a3] h Q := by
  refine callsH_of (args := [a0, a1, a2, a3]) Try.func171 rfl rfl ?_
  unfold Map_ii_ascend.sh at H
  refine WPc_seq (fun e h => Map_ii_ascend.j1 (e 0) (e 1) (e 2) (e 3) h Q) ?_ (fun e h H => ?_)
  rotate_left
  · unfold Map_ii_ascend.j1 at H
    refine W_region (by kernel_rfl) ?_
    refine vl_n ?_
    refine H_of_R (R_move (v := (e 0)) rfl ?_)
    refine vl_n ?_
    refine H_of_R (R_move (v := (e 0)) rfl ?_)
    refine vl_n ?_
    refine H_of_R (R_nil H fun t15 H => ?_)
    refine vl_n ?_
    refine H_of_R (R_fld TF_182_2 H fun t16 H => ?_)
    refine vl_n ?_
    refine H_of_R (R_move (v := (e 1)) rfl ?_)
    refine vl_n ?_
    refine H_of_R (R_move (v := (e 2)) rfl ?_)
    refine vl_n ?_
    refine H_of_R (R_move (v := (e 3)) rfl ?_)
    refine vl_n ?_
    refine H_call HB_194 H fun t20 h H => ?_
    refine vl_e ?_
    refine resH_of rfl ?_
    exact H
  refine WPc_seq' ?_
  refine W_region (by kernel_rfl) ?_
  refine vl_n ?_
  refine H_of_R (R_move (v := a0) rfl ?_)
  refine vl_n ?_
  refine H_of_R (R_nil H fun t9 H => ?_)
  refine vl_n ?_
  refine H_of_R (R_fld TF_182_2 H fun t10 H => ?_)
  refine vl_n ?_
  refine H_of_R (R_load1 T1_173 H fun _ t11 _ _ H => ?_)
  refine vl_n ?_
  refine H_of_R (R_eqNilP Try.underlying173 rfl H fun t12 H => ?_)
  refine vl_e ?_
  obtain ⟨b, hc, H1, H2⟩ := H
  refine WPc_cond hc (fun hh => ?_) (fun hh => ?_)
  · have H := H1 hh; clear H1 H2
    refine WPc_ret ?_
    refine resH_of rfl ?_
    exact H
  · have H := H2 hh; clear H1 H2
    refine WPc_skip ?_
    exact H
/-! ### (*pub/tidwallbtree.Map[int, int]).Ascend -/
def Map_ii_Ascend.sh (a0 : Value) (a1 : Value) (a2 : Value) (h : Heap) (Q : Value → Heap → Prop) : Prop :=
    Map_ii_ascend.call #[a0, a1, a2, (.bool false)] h fun t9 h =>
    Q (.tuple #[]) h
theorem Map_ii_Ascend.body (a0 : Value) (a1 : Value) (a2 : Value) (h : Heap) (Q : Value → Heap → Prop) (H : Map_ii_Ascend.sh a0 a1 a2 h Q) : Map_ii_Ascend.call #[a0, a1, a2] h Q := by
  refine callsH_of (args := [a0, a1, a2]) Try.func132 rfl rfl ?_
  unfold Map_ii_Ascend.sh at H
  refine W_region (by kernel_rfl) ?_
  refine vl_n ?_
  refine H_of_R (R_move (v := a0) rfl ?_)
  refine vl_n ?_
  refine H_of_R (R_move (v := a1) rfl ?_)
  refine vl_n ?_
  refine H_of_R (R_move (v := a2) rfl ?_)
  refine vl_n ?_
  refine H_call HB_171 H fun t9 h H => ?_
  refine vl_e ?_
  refine resH_of rfl ?_
  exact H
/-! ### impl.MAscend -/
def i_MAscend.sh (a0 : Value) (a1 : Value) (a2 : Value) (a3 : Value) (h : Heap) (Q : Value → Heap → Prop) : Prop :=
    alloc [(.slice none 0 0)] 22 h fun t9 h =>
    i_growMap.call #[a0, a1] h fun t12 h =>
    i_pairs.call #[t9, a3] h fun t15 h =>
    Map_ii_Ascend.call #[t12, a2, t15] h fun t16 h =>
    load1 t9 h fun t17 =>
    Q t17 h
theorem i_MAscend.body (a0 : Value) (a1 : Value) (a2 : Value) (a3 : Value) (h : Heap) (Q : Value → Heap → Prop) (H : i_MAscend.sh a0 a1 a2 a3 h Q) : i_MAscend.call #[a0, a1, a2, a3] h Q := by
  refine callsH_of (args := [a0, a1, a2, a3]) Try.func79 rfl rfl ?_
  unfold i_MAscend.sh at H
  refine WPc_seq' ?_
  refine W_region (by kernel_rfl) ?_
  refine vl_n ?_
  refine H_of_R (R_assign (v := (.slice none 0 0)) rfl ?_)
  refine vl_e ?_
  refine WPc_seq' ?_
  refine W_region (by kernel_rfl) ?_
  refine vl_n ?_
  refine H_alloc TV_22 H fun t9 h H => ?_
  refine vl_e ?_
  refine WPc_seq' ?_
  refine W_region (by kernel_rfl) ?_
  refine vl_n ?_
  refine H_of_R (R_move (v := a0) rfl ?_)
  refine vl_n ?_
  refine H_of_R (R_move (v := a1) rfl ?_)
  refine vl_n ?_
  refine H_call HB_76 H fun t12 h H => ?_
  refine vl_n ?_
  refine H_of_R (R_move (v := a2) rfl ?_)
  refine vl_n ?_
  refine H_of_R (R_move (v := a3) rfl ?_)
  refine vl_n ?_
  refine H_call HB_78 H fun t15 h H => ?_
  refine vl_n ?_
  refine H_call HB_132 H fun t16 h H => ?_
  refine vl_e ?_
  refine WPc_seq' ?_
  refine W_region (by kernel_rfl) ?_
  refine vl_n ?_
  refine H_of_R (R_load1 T1_22 H fun _ t17 _ _ H => ?_)
  refine vl_n ?_
  refine H_of_R (R_assign (v := t17) rfl ?_)
  refine vl_e ?_
  refine WPc_ret ?_
  refine resH_of rfl ?_
  exact H
/-! ### (*pub/tidwallbtree.Map[int, int]).minMut -/
def Map_ii_minMut.j3 (s0 : Value) (s1 : Value) (s7 : Value) (h : Heap) (K1 : List Value → Heap → Prop) (Q : Value → Heap → Prop) : Prop :=
    nilck s7 fun t36 =>
    fld 3 t36 fun t37 =>
    load1 t37 h fun t38 =>
    nilck t38 fun t39 =>
    load1 t39 h fun t40 =>
    idx 1 t40 (.int .i64 0) fun t41 =>
    Map_ii_isoLoad.call #[s0, t41, s1] h fun t43 h =>
    K1 [t43] h
def Map_ii_minMut.l2.b (c0 : Value) (c1 : Value) (s7 : Value) (h : Heap) (K1 : List Value → Heap → Prop) (Q : Value → Heap → Prop) : Prop :=
    mapNode_ii_leaf.call #[s7] h fun t23 h =>
    ifV t23
    (nilck s7 fun t25 =>
    fld 2 t25 fun t26 =>
    load1 t26 h fun t27 =>
    idx 2 t27 (.int .i64 0) fun t28 =>
    loadN 2 t28 h fun t29 =>
    alloc [(.int .i64 0), (.int .i64 0)] 178 h fun t8 h =>
    storeN 2 t8 t29 h fun h =>
    fld 1 t8 fun t30 =>
    load1 t30 h fun t31 =>
    fld 0 t8 fun t32 =>
    load1 t32 h fun t33 =>
    Q (.tuple #[t31, t33, (.bool true)]) h)
    (Map_ii_minMut.j3 c0 c1 s7 h K1 Q)
def Map_ii_minMut.j1 (s0 : Value) (s1 : Value) (h : Heap) (Q : Value → Heap → Prop) : Prop :=
    nilck s0 fun t18 =>
    fld 2 t18 fun t19 =>
    Map_ii_isoLoad.call #[s0, t19, s1] h fun t21 h =>
    loopC (fun c s h K1 => Map_ii_minMut.l2.b (c.getD 0 undef) (c.getD 1 undef) (s.getD 0 undef) h K1 Q) [s0, s1] [t21] h
def Map_ii_minMut.sh (a0 : Value) (a1 : Value) (h : Heap) (Q : Value → Heap → Prop) : Prop :=
    nilck a0 fun t10 =>
    fld 2 t10 fun t11 =>
    load1 t11 h fun t12 =>
    eqNilP t12 fun t13 =>
    ifV t13
    (Q (.tuple #[(.int .i64 0), (.int .i64 0), (.bool false)]) h)
    (Map_ii_minMut.j1 a0 a1 h Q)
theorem Map_ii_minMut.body (a0 : Value) (a1 : Value) (h : Heap) (Q : Value → Heap → Prop) (H : Map_ii_minMut.sh a0 a1 h Q) : Map_ii_minMut.call #[a0, a1] h Q := by
  refine callsH_of (args := [a0, a1]) Try.func172 rfl rfl ?_
  unfold Map_ii_minMut.sh at H
  refine WPc_seq' ?_
  refine W_region (by kernel_rfl) ?_
  refine vl_n ?_
  refine H_of_R (R_assign (v := (.int .i64 0)) rfl ?_)
  refine vl_n ?_
  refine H_of_R (R_assign (v := (.int .i64 0)) rfl ?_)
  refine vl_n ?_
  refine H_of_R (R_assign (v := (.bool false)) rfl ?_)
  refine vl_e ?_
  refine WPc_seq (fun e h => Map_ii_minMut.j1 (e 0) (e 1) h Q) ?_ (fun e h H => ?_)
  rotate_left
  · unfold Map_ii_minMut.j1 at H
    refine WPc_seq' ?_
    refine W_region (by kernel_rfl) ?_
    refine vl_n ?_
    refine H_of_R (R_move (v := (e 0)) rfl ?_)
    refine vl_n ?_
    refine H_of_R (R_move (v := (e 0)) rfl ?_)
    refine vl_n ?_
    refine H_of_R (R_nil H fun t18 H => ?_)
    refine vl_n ?_
    refine H_of_R (R_fld TF_182_2 H fun t19 H => ?_)
    refine vl_n ?_
    refine H_of_R (R_move (v := (e 1)) rfl ?_)
    refine vl_n ?_
    refine H_call HB_125 H fun t21 h H => ?_
    refine vl_n ?_
    refine H_of_R (R_assign (v := t21) rfl ?_)
    refine vl_e ?_
    refine WPc_block ?_
    refine loop_at (fun e => [e 7]) (fun e => [e 0, e 1]) H rfl rfl ?_
    intro K1 e1 h H hin1
    replace H : Map_ii_minMut.l2.b (e1 0) (e1 1) (e1 7) h K1 Q := H
    unfold Map_ii_minMut.l2.b at H
    clear hin1
    refine WPc_block ?_
    refine WPc_seq (fun e h => Map_ii_minMut.j3 (e 0) (e 1) (e 7) h K1 Q ∧ [e1 0, e1 1] = [e 0, e 1]) ?_ (fun e h ⟨H, hq1⟩ => ?_)
    rotate_left
    · unfold Map_ii_minMut.j3 at H
      refine W_region (by kernel_rfl) ?_
      refine vl_n ?_
      refine H_of_R (R_move (v := (e 0)) rfl ?_)
      refine vl_n ?_
      refine H_of_R (R_move (v := (e 7)) rfl ?_)
      refine vl_n ?_
      refine H_of_R (R_nil H fun t36 H => ?_)
      refine vl_n ?_
      refine H_of_R (R_fld TF_188_3 H fun t37 H => ?_)
      refine vl_n ?_
      refine H_of_R (R_load1 T1_186 H fun _ t38 _ _ H => ?_)
      refine vl_n ?_
      refine H_of_R (R_nil H fun t39 H => ?_)
      refine vl_n ?_
      refine H_of_R (R_load1 T1_194 H fun _ t40 _ _ H => ?_)
      refine vl_n ?_
      refine H_of_R (R_idx TE_194 H fun t41 H => ?_)
      refine vl_n ?_
      refine H_of_R (R_move (v := (e 1)) rfl ?_)
      refine vl_n ?_
      refine H_call HB_125 H fun t43 h H => ?_
      refine vl_n ?_
      refine H_of_R (R_assign (v := t43) rfl ?_)
      refine vl_e ?_
      exact ⟨H, hq1⟩
    refine WPc_seq' ?_
    refine W_region (by kernel_rfl) ?_
    refine vl_n ?_
    refine H_of_R (R_move (v := (e1 7)) rfl ?_)
    refine vl_n ?_
    refine H_call HB_126 H fun t23 h H => ?_
    refine vl_e ?_
    obtain ⟨b, hc, H1, H2⟩ := H
    refine WPc_cond hc (fun hh => ?_) (fun hh => ?_)
    · have H := H1 hh; clear H1 H2
      refine WPc_seq' ?_
      refine W_region (by kernel_rfl) ?_
      refine vl_n ?_
      refine H_of_R (R_move (v := (e1 7)) rfl ?_)
      refine vl_n ?_
      refine H_of_R (R_nil H fun t25 H => ?_)
      refine vl_n ?_
      refine H_of_R (R_fld TF_188_2 H fun t26 H => ?_)
      refine vl_n ?_
      refine H_of_R (R_load1 T1_185 H fun _ t27 _ _ H => ?_)
      refine vl_n ?_
      refine H_of_R (R_idx TE_185 H fun t28 H => ?_)
      refine vl_n ?_
      refine H_of_R (R_loadN TN_178 H fun _ t29 _ _ H _ _ => ?_)
      refine vl_n ?_
      refine H_alloc TV_178 H fun t8 h H => ?_
      refine vl_n ?_
      refine H_storeN TS_178 H fun h H => ?_
      refine vl_e ?_
      refine WPc_seq' ?_
      refine W_drawn [0, 1, 0, 4, 3, 31, 63] (.take 0 (.take 1 (.take 2 (.take 3 (.take 4 (.take 5 (.take 6 .done))))))) mixed (by kernel_rfl) ?_
      refine tkP rfl ?_
      refine R_fld TF_178_1 H fun t30 H => ⟨fun _ => trivial, ?_⟩
      refine tkL rfl ?_
      refine R_load1 T1_3 H fun at31 t31 hat31 _ H => ?_
      refine tkP rfl ?_
      refine R_fld TF_178_0 H fun t32 H => ⟨fun _ => trivial, ?_⟩
      refine tkL rfl ?_
      refine R_load1 T1_3 H fun at33 t33 hat33 _ H => ?_
      refine tkP rfl ?_
      refine R_assign (v := t31) rfl ⟨fun _ => trivial, ?_⟩
      refine tkP rfl ?_
      refine R_assign (v := t33) rfl ⟨fun _ => trivial, ?_⟩
      refine tkP rfl ?_
      refine R_assign (v := (.bool true)) rfl ⟨fun _ => trivial, ?_⟩
      refine vp_done ?_
      refine WPc_ret ?_
      refine resH_of rfl ?_
      exact H
    · have H := H2 hh; clear H1 H2
      refine WPc_skip ?_
      exact ⟨H, rfl⟩
  refine WPc_seq' ?_
  refine W_region (by kernel_rfl) ?_
  refine vl_n ?_
  refine H_of_R (R_move (v := a0) rfl ?_)
  refine vl_n ?_
  refine H_of_R (R_nil H fun t10 H => ?_)
  refine vl_n ?_
  refine H_of_R (R_fld TF_182_2 H fun t11 H => ?_)
  refine vl_n ?_
  refine H_of_R (R_load1 T1_173 H fun _ t12 _ _ H => ?_)
  refine vl_n ?_
  refine H_of_R (R_eqNilP Try.underlying173 rfl H fun t13 H => ?_)
  refine vl_e ?_
  obtain ⟨b, hc, H1, H2⟩ := H
  refine WPc_cond hc (fun hh => ?_) (fun hh => ?_)
  · have H := H1 hh; clear H1 H2
    refine WPc_seq' ?_
    refine W_region (by kernel_rfl) ?_
    refine vl_n ?_
    refine H_of_R (R_move (v := (.int .i64 0)) rfl ?_)
    refine vl_n ?_
    refine H_of_R (R_move (v := (.int .i64 0)) rfl ?_)
    refine vl_n ?_
    refine H_of_R (R_assign (v := (.int .i64 0)) rfl ?_)
    refine vl_n ?_
    refine H_of_R (R_assign (v := (.int .i64 0)) rfl ?_)
    refine vl_n ?_
    refine H_of_R (R_assign (v := (.bool false)) rfl ?_)
    refine vl_e ?_
    refine WPc_ret ?_
    refine resH_of rfl ?_
    exact H
  · have H := H2 hh; clear H1 H2
    refine WPc_skip ?_
    exact H
/-! ### (*pub/tidwallbtree.Map[int, int]).Min -/
def Map_ii_Min.sh (a0 : Value) (h : Heap) (Q : Value → Heap → Prop) : Prop :=
    Map_ii_minMut.call #[a0, (.bool false)] h fun t6 h =>
    extr 0 t6 fun t7 =>
    extr 1 t6 fun t8 =>
    extr 2 t6 fun t9 =>
    Q (.tuple #[t7, t8, t9]) h
theorem Map_ii_Min.body (a0 : Value) (h : Heap) (Q : Value → Heap → Prop) (H : Map_ii_Min.sh a0 h Q) : Map_ii_Min.call #[a0] h Q := by
  refine callsH_of (args := [a0]) Try.func133 rfl rfl ?_
  unfold Map_ii_Min.sh at H
  refine WPc_seq' ?_
  refine W_region (by kernel_rfl) ?_
  refine vl_n ?_
  refine H_of_R (R_assign (v := (.int .i64 0)) rfl ?_)
  refine vl_n ?_
  refine H_of_R (R_assign (v := (.int .i64 0)) rfl ?_)
  refine vl_n ?_
  refine H_of_R (R_assign (v := (.bool false)) rfl ?_)
  refine vl_e ?_
  refine WPc_seq' ?_
  refine W_region (by kernel_rfl) ?_
  refine vl_n ?_
  refine H_of_R (R_move (v := a0) rfl ?_)
  refine vl_n ?_
  refine H_call HB_172 H fun t6 h H => ?_
  refine vl_n ?_
  refine H_of_R (R_ext H fun t7 H => ?_)
  refine vl_n ?_
  refine H_of_R (R_ext H fun t8 H => ?_)
  refine vl_n ?_
  refine H_of_R (R_ext H fun t9 H => ?_)
  refine vl_n ?_
  refine H_of_R (R_assign (v := t7) rfl ?_)
  refine vl_n ?_
  refine H_of_R (R_assign (v := t8) rfl ?_)
  refine vl_n ?_
  refine H_of_R (R_assign (v := t9) rfl ?_)
  refine vl_e ?_
  refine WPc_ret ?_
  refine resH_of rfl ?_
  exact H
/-! ### impl.MMin -/
def i_MMin.sh (a0 : Value) (a1 : Value) (h : Heap) (Q : Value → Heap → Prop) : Prop :=
    alloc [(.int .i64 0), (.int .i64 0), (.bool false)] 32 h fun t4 h =>
    i_growMap.call #[a0, a1] h fun t7 h =>
    Map_ii_Min.call #[t7] h fun t8 h =>
    extr 0 t8 fun t9 =>
    extr 1 t8 fun t10 =>
    extr 2 t8 fun t11 =>
    i_pair.call #[t9, t10, t11] h fun t12 h =>
    storeN 3 t4 t12 h fun h =>
    loadN 3 t4 h fun r4 =>
    Q r4 h
theorem i_MMin.body (a0 : Value) (a1 : Value) (h : Heap) (Q : Value → Heap → Prop) (H : i_MMin.sh a0 a1 h Q) : i_MMin.call #[a0, a1] h Q := by
  refine callsH_of (args := [a0, a1]) Try.func80 rfl rfl ?_
  unfold i_MMin.sh at H
  refine WPc_seq' ?_
  refine W_region (by kernel_rfl) ?_
  refine vl_n ?_
  refine H_alloc TV_32 H fun t4 h H => ?_
  refine vl_e ?_
  refine WPc_seq' ?_
  refine W_region (by kernel_rfl) ?_
  refine vl_n ?_
  refine H_of_R (R_move (v := a0) rfl ?_)
  refine vl_n ?_
  refine H_of_R (R_move (v := a1) rfl ?_)
  refine vl_n ?_
  refine H_call HB_76 H fun t7 h H => ?_
  refine vl_n ?_
  refine H_call HB_133 H fun t8 h H => ?_
  refine vl_n ?_
  refine H_of_R (R_ext H fun t9 H => ?_)
  refine vl_n ?_
  refine H_of_R (R_ext H fun t10 H => ?_)
  refine vl_n ?_
  refine H_of_R (R_ext H fun t11 H => ?_)
  refine vl_n ?_
  refine H_call HB_60 H fun t12 h H => ?_
  refine vl_n ?_
  refine H_storeN TS_32 H fun h H => ?_
  refine vl_e ?_
  refine WPc_ret ?_
  refine resH_of rfl ?_
  refine resL_N TN_32 ?_
  refine loadN_imp H fun r4 H => ?_
  exact H
/-! ### laws.owner -/
def l_owner.j2 (h : Heap) (Q : Value → Heap → Prop) : Prop :=
    Q (.int .i64 (-1)) h
def l_owner.j1 (s0 : Value) (s1 : Value) (h : Heap) (Q : Value → Heap → Prop) : Prop :=
    i_MMin.call #[s0, s1] h fun t22 h =>
    alloc [(.int .i64 0), (.int .i64 0), (.bool false)] 32 h fun t8 h =>
    storeN 3 t8 t22 h fun h =>
    fld 2 t8 fun t23 =>
    load1 t23 h fun t24 =>
    ifV t24
    (fld 0 t8 fun t25 =>
    fld 1 t25 fun t26 =>
    load1 t26 h fun t27 =>
    Q t27 h)
    (l_owner.j2 h Q)
def l_owner.sh (a0 : Value) (a1 : Value) (a2 : Value) (h : Heap) (Q : Value → Heap → Prop) : Prop :=
    i_MAscend.call #[a0, a1, a2, (.int .i64 1)] h fun t12 h =>
    lenV t12 fun t14 =>
    cmpI (fun a b => decide (a > b)) t14 (.int .i64 0) fun t15 =>
    ifV t15
    (idx 2 t12 (.int .i64 0) fun t17 =>
    fld 1 t17 fun t18 =>
    load1 t18 h fun t19 =>
    Q t19 h)
    (l_owner.j1 a0 a1 h Q)
theorem l_owner.body (a0 : Value) (a1 : Value) (a2 : Value) (h : Heap) (Q : Value → Heap → Prop) (H : l_owner.sh a0 a1 a2 h Q) : l_owner.call #[a0, a1, a2] h Q := by
  refine callsH_of (args := [a0, a1, a2]) Try.func29 rfl rfl ?_
  unfold l_owner.sh at H
  refine WPc_seq' ?_
  refine W_region (by kernel_rfl) ?_
  refine vl_n ?_
  refine H_of_R (R_assign (v := (.int .i64 0)) rfl ?_)
  refine vl_e ?_
  refine WPc_seq (fun e h => l_owner.j1 (e 0) (e 1) h Q) ?_ (fun e h H => ?_)
  rotate_left
  · unfold l_owner.j1 at H
    refine WPc_seq (fun e h => l_owner.j2 h Q) ?_ (fun e h H => ?_)
    rotate_left
    · unfold l_owner.j2 at H
      refine WPc_seq' ?_
      refine W_region (by kernel_rfl) ?_
      refine vl_n ?_
      refine H_of_R (R_assign (v := (.int .i64 (-1))) rfl ?_)
      refine vl_e ?_
      refine WPc_ret ?_
      refine resH_of rfl ?_
      exact H
    refine WPc_seq' ?_
    refine W_region (by kernel_rfl) ?_
    refine vl_n ?_
    refine H_of_R (R_move (v := (e 0)) rfl ?_)
    refine vl_n ?_
    refine H_of_R (R_move (v := (e 1)) rfl ?_)
    refine vl_n ?_
    refine H_call HB_80 H fun t22 h H => ?_
    refine vl_n ?_
    refine H_alloc TV_32 H fun t8 h H => ?_
    refine vl_n ?_
    refine H_storeN TS_32 H fun h H => ?_
    refine vl_e ?_
    refine WPc_seq' ?_
    refine W_region (by kernel_rfl) ?_
    refine vl_n ?_
    refine H_of_R (R_fld TF_32_1 H fun t23 H => ?_)
    refine vl_n ?_
    refine H_of_R (R_load1 T1_4 H fun _ t24 _ _ H => ?_)
    refine vl_e ?_
    obtain ⟨b, hc, H1, H2⟩ := H
    refine WPc_cond hc (fun hh => ?_) (fun hh => ?_)
    · have H := H1 hh; clear H1 H2
      refine WPc_seq' ?_
      refine W_region (by kernel_rfl) ?_
      refine vl_n ?_
      refine H_of_R (R_fld TF_32_0 H fun t25 H => ?_)
      refine vl_n ?_
      refine H_of_R (R_fld TF_27_1 H fun t26 H => ?_)
      refine vl_n ?_
      refine H_of_R (R_load1 T1_3 H fun _ t27 _ _ H => ?_)
      refine vl_n ?_
      refine H_of_R (R_assign (v := t27) rfl ?_)
      refine vl_e ?_
      refine WPc_ret ?_
      refine resH_of rfl ?_
      exact H
    · have H := H2 hh; clear H1 H2
      refine WPc_skip ?_
      exact H
  refine WPc_seq' ?_
  refine W_region (by kernel_rfl) ?_
  refine vl_n ?_
  refine H_of_R (R_move (v := a0) rfl ?_)
  refine vl_n ?_
  refine H_of_R (R_move (v := a1) rfl ?_)
  refine vl_n ?_
  refine H_of_R (R_move (v := a2) rfl ?_)
  refine vl_n ?_
  refine H_call HB_79 H fun t12 h H => ?_
  refine vl_n ?_
  refine H_of_R (R_assign (v := t12) rfl ?_)
  refine vl_e ?_
  refine WPc_seq' ?_
  refine W_region (by kernel_rfl) ?_
  refine vl_n ?_
  refine H_of_R (R_move (v := t12) rfl ?_)
  refine vl_n ?_
  refine H_of_R (R_len Try.underlying22 H fun t14 H => ?_)
  refine vl_n ?_
  refine H_of_R (R_gtr H fun t15 H => ?_)
  refine vl_e ?_
  obtain ⟨b, hc, H1, H2⟩ := H
  refine WPc_cond hc (fun hh => ?_) (fun hh => ?_)
  · have H := H1 hh; clear H1 H2
    refine WPc_seq' ?_
    refine W_region (by kernel_rfl) ?_
    refine vl_n ?_
    refine H_of_R (R_move (v := t12) rfl ?_)
    refine vl_n ?_
    refine H_of_R (R_idx TE_22 H fun t17 H => ?_)
    refine vl_n ?_
    refine H_of_R (R_fld TF_27_1 H fun t18 H => ?_)
    refine vl_n ?_
    refine H_of_R (R_load1 T1_3 H fun _ t19 _ _ H => ?_)
    refine vl_n ?_
    refine H_of_R (R_assign (v := t19) rfl ?_)
    refine vl_e ?_
    refine WPc_ret ?_
    refine resH_of rfl ?_
    exact H
  · have H := H2 hh; clear H1 H2
    refine WPc_skip ?_
    exact H

end Go.Proofs.Ytlihjljdndbpdaa
