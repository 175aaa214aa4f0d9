/-
  Shallow forms of the walked functions, and that each call comes to its form. Written by a program of this repo (gen.py). Conditions: none.
-/
import Derived.Test.YtfojeibloilneaaST
namespace Go.Proofs.Ytfojeibloilneaa
open Go.Hp
set_option maxRecDepth 100000
set_option maxHeartbeats 8000000
set_option linter.unusedVariables false
set_option linter.unusedSimpArgs false

/-! ### (*pub/tidwallbtree.Map[string, struct{}]).Load -/
def Map_su_Load.j3 (s0 : Value) (s6 : Value) (s8 : Value) (h : Heap) (Q : Value → Heap → Prop) : Prop :=
    fld 0 s8 fun t135 =>
    load1 t135 h fun t136 =>
    fldZ Try.prog 0 s8 h fun t137 =>
    loadN 0 t137 h fun t138 =>
    Map_su_Set.call #[s0, t136, t138] h fun t139 h =>
    extr 0 t139 fun t140 =>
    extr 1 t139 fun t141 =>
    storeN 0 s6 t140 h fun h =>
    loadN 0 s6 h fun r6 =>
    Q (.tuple #[r6, t141]) h
def Map_su_Load.j5 (s0 : Value) (s6 : Value) (s8 : Value) (s9 : Value) (h : Heap) (K1 : List Value → Heap → Prop) (Q : Value → Heap → Prop) : Prop :=
    nilck s9 fun t119 =>
    fld 3 t119 fun t120 =>
    load1 t120 h fun t121 =>
    nilck t121 fun t122 =>
    load1 t122 h fun t123 =>
    nilck s9 fun t125 =>
    fld 3 t125 fun t126 =>
    load1 t126 h fun t127 =>
    nilck t127 fun t128 =>
    load1 t128 h fun t129 =>
    lenV t129 fun t130 =>
    arith (· - ·) t130 (.int .i64 1) fun t131 =>
    idx 1 t123 t131 fun t132 =>
    load1 t132 h fun t133 =>
    K1 [t133] h
def Map_su_Load.l4.b (c0 : Value) (c6 : Value) (c8 : Value) (s9 : Value) (h : Heap) (K1 : List Value → Heap → Prop) (Q : Value → Heap → Prop) : Prop :=
    nilck s9 fun t110 =>
    fld 1 t110 fun t111 =>
    load1 t111 h fun t112 =>
    arith (· - ·) t112 (.int .i64 1) fun t113 =>
    nilck s9 fun t114 =>
    fld 1 t114 fun t115 =>
    store1 t115 t113 h fun h =>
    mapNode_su_leaf.call #[s9] h fun t117 h =>
    ifV t117
    (Map_su_Load.j3 c0 c6 c8 h Q)
    (Map_su_Load.j5 c0 c6 c8 s9 h K1 Q)
def Map_su_Load.j2 (s0 : Value) (s6 : Value) (s8 : Value) (h : Heap) (Q : Value → Heap → Prop) : Prop :=
    nilck s0 fun t106 =>
    fld 2 t106 fun t107 =>
    load1 t107 h fun t108 =>
    loopC (fun c s h K1 => Map_su_Load.l4.b (c.getD 0 undef) (c.getD 1 undef) (c.getD 2 undef) (s.getD 0 undef) h K1 Q) [s0, s6, s8] [t108] h
def Map_su_Load.j7 (s0 : Value) (s6 : Value) (s8 : Value) (s9 : Value) (h : Heap) (K1 : List Value → Heap → Prop) (Q : Value → Heap → Prop) : Prop :=
    nilck s9 fun t90 =>
    fld 3 t90 fun t91 =>
    load1 t91 h fun t92 =>
    nilck t92 fun t93 =>
    load1 t93 h fun t94 =>
    nilck s9 fun t96 =>
    fld 3 t96 fun t97 =>
    load1 t97 h fun t98 =>
    nilck t98 fun t99 =>
    load1 t99 h fun t100 =>
    lenV t100 fun t101 =>
    arith (· - ·) t101 (.int .i64 1) fun t102 =>
    idx 1 t94 t102 fun t103 =>
    Map_su_isoLoad.call #[s0, t103, (.bool true)] h fun t104 h =>
    K1 [t104] h
def Map_su_Load.j8 (s0 : Value) (s6 : Value) (s8 : Value) (h : Heap) (K1 : List Value → Heap → Prop) (Q : Value → Heap → Prop) : Prop :=
    Map_su_Load.j2 s0 s6 s8 h Q
def Map_su_Load.l6.b (c0 : Value) (c6 : Value) (c8 : Value) (s9 : Value) (h : Heap) (K1 : List Value → Heap → Prop) (Q : Value → Heap → Prop) : Prop :=
    nilck s9 fun t32 =>
    fld 1 t32 fun t33 =>
    load1 t33 h fun t34 =>
    arith (· + ·) t34 (.int .i64 1) fun t35 =>
    nilck s9 fun t36 =>
    fld 1 t36 fun t37 =>
    store1 t37 t35 h fun h =>
    mapNode_su_leaf.call #[s9] h fun t39 h =>
    ifV t39
    (nilck s9 fun t41 =>
    fld 2 t41 fun t42 =>
    load1 t42 h fun t43 =>
    lenV t43 fun t44 =>
    nilck c0 fun t46 =>
    fld 6 t46 fun t47 =>
    load1 t47 h fun t48 =>
    cmpI (fun a b => decide (a < b)) t44 t48 fun t49 =>
    ifV t49
    (nilck s9 fun t51 =>
    fld 2 t51 fun t52 =>
    load1 t52 h fun t53 =>
    nilck s9 fun t55 =>
    fld 2 t55 fun t56 =>
    load1 t56 h fun t57 =>
    lenV t57 fun t58 =>
    arith (· - ·) t58 (.int .i64 1) fun t59 =>
    idx 1 t53 t59 fun t60 =>
    fld 0 t60 fun t61 =>
    load1 t61 h fun t62 =>
    fld 0 c8 fun t63 =>
    load1 t63 h fun t64 =>
    cmpS (fun lt _ => lt) t62 t64 fun t65 =>
    ifV t65
    (nilck s9 fun t68 =>
    fld 2 t68 fun t69 =>
    load1 t69 h fun t70 =>
    loadN 1 c8 h fun t71 =>
    mkSl (if 1 * 1 = 0 then [] else zeros [(.string ⟨#[]⟩)] 1) 1 [(0 * 1, 1, t71)] 61 h fun t72 h =>
    still1 t69 t70 h ∧ app 61 1 16 [(.string ⟨#[]⟩)] t70 t72 h fun t73 h =>
    nilck s9 fun t74 =>
    fld 2 t74 fun t75 =>
    store1 t75 t73 h fun h =>
    nilck c0 fun t77 =>
    fld 3 t77 fun t78 =>
    load1 t78 h fun t79 =>
    arith (· + ·) t79 (.int .i64 1) fun t80 =>
    nilck c0 fun t81 =>
    fld 3 t81 fun t82 =>
    store1 t82 t80 h fun h =>
    nilck c0 fun t84 =>
    fld 4 t84 fun t85 =>
    fldZ Try.prog 0 t85 h fun t86 =>
    loadN 0 t86 h fun t87 =>
    storeN 0 c6 t87 h fun h =>
    loadN 0 c6 h fun r6 =>
    Q (.tuple #[r6, (.bool false)]) h)
    (Map_su_Load.j8 c0 c6 c8 h K1 Q))
    (Map_su_Load.j8 c0 c6 c8 h K1 Q))
    (Map_su_Load.j7 c0 c6 c8 s9 h K1 Q)
def Map_su_Load.j1 (s0 : Value) (s6 : Value) (s8 : Value) (h : Heap) (Q : Value → Heap → Prop) : Prop :=
    nilck s0 fun t28 =>
    fld 2 t28 fun t29 =>
    Map_su_isoLoad.call #[s0, t29, (.bool true)] h fun t30 h =>
    loopC (fun c s h K1 => Map_su_Load.l6.b (c.getD 0 undef) (c.getD 1 undef) (c.getD 2 undef) (s.getD 0 undef) h K1 Q) [s0, s6, s8] [t30] h
def Map_su_Load.sh (a0 : Value) (a1 : Value) (a2 : Value) (h : Heap) (Q : Value → Heap → Prop) : Prop :=
    box 59 a2 h fun t5 h =>
    alloc [] 59 h fun t6 h =>
    loadN 0 t5 h fun t11 =>
    buildV [(.string ⟨#[]⟩)] [(0, 1, a1), (0, 0, t11)] fun t12 =>
    alloc [(.string ⟨#[]⟩)] 61 h fun t8 h =>
    storeN 1 t8 t12 h fun h =>
    nilck a0 fun t14 =>
    fld 2 t14 fun t15 =>
    load1 t15 h fun t16 =>
    eqNilP t16 fun t17 =>
    ifV t17
    (fld 0 t8 fun t19 =>
    load1 t19 h fun t20 =>
    fldZ Try.prog 0 t8 h fun t21 =>
    loadN 0 t21 h fun t22 =>
    Map_su_Set.call #[a0, t20, t22] h fun t23 h =>
    extr 0 t23 fun t24 =>
    extr 1 t23 fun t25 =>
    storeN 0 t6 t24 h fun h =>
    loadN 0 t6 h fun r6 =>
    Q (.tuple #[r6, t25]) h)
    (Map_su_Load.j1 a0 t6 t8 h Q)
theorem Map_su_Load.body (a0 : Value) (a1 : Value) (a2 : Value) (h : Heap) (Q : Value → Heap → Prop) (H : Map_su_Load.sh a0 a1 a2 h Q) : Map_su_Load.call #[a0, a1, a2] h Q := by
  refine callsH_of (args := [a0, a1, a2]) Try.func46 rfl rfl ?_
  unfold Map_su_Load.sh at H
  refine WPc_seq' ?_
  refine W_region (by kernel_rfl) ?_
  refine vl_n ?_
  refine H_box H fun t5 h H => ?_
  refine vl_n ?_
  refine H_alloc TV_59 H fun t6 h H => ?_
  refine vl_n ?_
  refine H_of_R (R_assign (v := (.bool false)) rfl ?_)
  refine vl_e ?_
  refine WPc_seq' ?_
  refine W_region (by kernel_rfl) ?_
  refine vl_n ?_
  refine H_of_R (R_move (v := a1) rfl ?_)
  refine vl_n ?_
  refine H_of_R (R_loadN TN_59 H fun _ t11 _ _ H _ _ => ?_)
  refine vl_n ?_
  refine H_of_R (R_build TB_61 rfl (by decide) H fun t12 H => ?_)
  refine vl_n ?_
  refine H_alloc TV_61 H fun t8 h H => ?_
  refine vl_n ?_
  refine H_storeN TS_61 H fun h H => ?_
  refine vl_e ?_
  refine WPc_seq (fun e h => Map_su_Load.j1 (e 0) (e 6) (e 8) h Q) ?_ (fun e h H => ?_)
  rotate_left
  · unfold Map_su_Load.j1 at H
    refine WPc_seq' ?_
    refine W_region (by kernel_rfl) ?_
    refine vl_n ?_
    refine H_of_R (R_move (v := (e 0)) rfl ?_)
    refine vl_n ?_
    refine H_of_R (R_move (v := (e 0)) rfl ?_)
    refine vl_n ?_
    refine H_of_R (R_nil H fun t28 H => ?_)
    refine vl_n ?_
    refine H_of_R (R_fld TF_63_2 H fun t29 H => ?_)
    refine vl_n ?_
    refine H_call HB_62 H fun t30 h H => ?_
    refine vl_n ?_
    refine H_of_R (R_assign (v := t30) rfl ?_)
    refine vl_e ?_
    refine WPc_seq (fun e h => Map_su_Load.j2 (e 0) (e 6) (e 8) h Q) ?_ (fun e h H => ?_)
    rotate_left
    · unfold Map_su_Load.j2 at H
      refine WPc_seq' ?_
      refine W_region (by kernel_rfl) ?_
      refine vl_n ?_
      refine H_of_R (R_move (v := (e 0)) rfl ?_)
      refine vl_n ?_
      refine H_of_R (R_nil H fun t106 H => ?_)
      refine vl_n ?_
      refine H_of_R (R_fld TF_63_2 H fun t107 H => ?_)
      refine vl_n ?_
      refine H_of_R (R_load1 T1_58 H fun _ t108 _ _ H => ?_)
      refine vl_n ?_
      refine H_of_R (R_assign (v := t108) rfl ?_)
      refine vl_e ?_
      refine WPc_seq (fun e h => Map_su_Load.j3 (e 0) (e 6) (e 8) h Q) ?_ (fun e h H => ?_)
      rotate_left
      · unfold Map_su_Load.j3 at H
        refine WPc_seq' ?_
        refine W_region (by kernel_rfl) ?_
        refine vl_n ?_
        refine H_of_R (R_move (v := (e 0)) rfl ?_)
        refine vl_n ?_
        refine H_of_R (R_fld TF_61_1 H fun t135 H => ?_)
        refine vl_n ?_
        refine H_of_R (R_load1 T1_9 H fun _ t136 _ _ H => ?_)
        refine vl_n ?_
        refine H_of_R (R_fldZ TFZ_61_0 H fun t137 H _ => ?_)
        refine vl_n ?_
        refine H_of_R (R_loadN TN_59 H fun _ t138 _ _ H _ _ => ?_)
        refine vl_n ?_
        refine H_call HB_43 H fun t139 h H => ?_
        refine vl_n ?_
        refine H_of_R (R_ext H fun t140 H => ?_)
        refine vl_n ?_
        refine H_of_R (R_ext H fun t141 H => ?_)
        refine vl_n ?_
        refine H_storeN TS_59 H fun h H => ?_
        refine vl_n ?_
        refine H_of_R (R_assign (v := t141) rfl ?_)
        refine vl_e ?_
        refine WPc_ret ?_
        refine resH_of rfl ?_
        refine resL_N TN_59 ?_
        refine loadN_imp H fun r6 H => ?_
        refine resL_t ?_
        exact H
      refine WPc_block ?_
      refine loop_at (fun e => [e 9]) (fun e => [e 0, e 6, e 8]) H rfl rfl ?_
      intro K1 e1 h H hin1
      replace H : Map_su_Load.l4.b (e1 0) (e1 6) (e1 8) (e1 9) h K1 Q := H
      unfold Map_su_Load.l4.b at H
      clear hin1
      refine WPc_block ?_
      refine WPc_seq' ?_
      refine W_region (by kernel_rfl) ?_
      refine vl_n ?_
      refine H_of_R (R_move (v := (e1 9)) rfl ?_)
      refine vl_n ?_
      refine H_of_R (R_nil H fun t110 H => ?_)
      refine vl_n ?_
      refine H_of_R (R_fld TF_82_1 H fun t111 H => ?_)
      refine vl_n ?_
      refine H_of_R (R_load1 T1_3 H fun _ t112 _ _ H => ?_)
      refine vl_n ?_
      refine H_of_R (R_sub H fun t113 H => ?_)
      refine vl_n ?_
      refine H_of_R (R_nil H fun t114 H => ?_)
      refine vl_n ?_
      refine H_of_R (R_fld TF_82_1 H fun t115 H => ?_)
      refine vl_n ?_
      refine H_store1 TS_3 H fun h H => ?_
      refine vl_e ?_
      refine WPc_seq (fun e h => Map_su_Load.j5 (e 0) (e 6) (e 8) (e 9) h K1 Q ∧ [e1 0, e1 6, e1 8] = [e 0, e 6, e 8]) ?_ (fun e h ⟨H, hq1⟩ => ?_)
      rotate_left
      · unfold Map_su_Load.j5 at H
        refine W_drawn [0, 1, 3, 7, 15, 31, 0, 64, 192, 448, 960, 1984, 4032, 8128, 16383, 32767, 65535] (.take 0 (.take 1 (.take 2 (.take 3 (.take 4 (.take 5 (.take 6 (.take 7 (.take 8 (.take 9 (.take 10 (.take 11 (.take 12 (.take 13 (.take 14 (.take 15 (.take 16 .done))))))))))))))))) mixed (by kernel_rfl) ?_
        refine tkP rfl ?_
        refine R_move (v := (e 9)) rfl ⟨fun _ => trivial, ?_⟩
        refine tkP rfl ?_
        refine R_nil H fun t119 H => ⟨fun _ => trivial, ?_⟩
        refine tkP rfl ?_
        refine R_fld TF_82_3 H fun t120 H => ⟨fun _ => trivial, ?_⟩
        refine tkL rfl ?_
        refine R_load1 T1_80 H fun at121 t121 hat121 _ H => ?_
        refine tkP rfl ?_
        refine R_nil H fun t122 H => ⟨fun _ => trivial, ?_⟩
        refine tkL rfl ?_
        refine R_load1 T1_88 H fun at123 t123 hat123 _ H => ?_
        refine tkP rfl ?_
        refine R_move (v := (e 9)) rfl ⟨fun _ => trivial, ?_⟩
        refine tkP rfl ?_
        refine R_nil H fun t125 H => ⟨fun _ => trivial, ?_⟩
        refine tkP rfl ?_
        refine R_fld TF_82_3 H fun t126 H => ⟨fun _ => trivial, ?_⟩
        refine tkL rfl ?_
        refine R_load1 T1_80 H fun at127 t127 hat127 _ H => ?_
        refine tkP rfl ?_
        refine R_nil H fun t128 H => ⟨fun _ => trivial, ?_⟩
        refine tkL rfl ?_
        refine R_load1 T1_88 H fun at129 t129 hat129 _ H => ?_
        refine tkP rfl ?_
        refine R_len Try.underlying88 H fun t130 H => ⟨fun _ => trivial, ?_⟩
        refine tkP rfl ?_
        refine R_sub H fun t131 H => ⟨fun _ => trivial, ?_⟩
        refine tkP rfl ?_
        refine R_idx TE_88 H fun t132 H => ⟨fun _ => trivial, ?_⟩
        refine tkL rfl ?_
        refine R_load1 T1_58 H fun at133 t133 hat133 _ H => ?_
        refine tkP rfl ?_
        refine R_assign (v := t133) rfl ⟨fun _ => trivial, ?_⟩
        refine vp_done ?_
        exact ⟨H, hq1⟩
      refine WPc_seq' ?_
      refine W_region (by kernel_rfl) ?_
      refine vl_n ?_
      refine H_of_R (R_move (v := (e1 9)) rfl ?_)
      refine vl_n ?_
      refine H_call HB_63 H fun t117 h H => ?_
      refine vl_e ?_
      obtain ⟨b, hc, H1, H2⟩ := H
      refine WPc_cond hc (fun hh => ?_) (fun hh => ?_)
      · have H := H1 hh; clear H1 H2
        refine WPc_exit ?_
        exact H
      · have H := H2 hh; clear H1 H2
        refine WPc_skip ?_
        exact ⟨H, rfl⟩
    refine WPc_block ?_
    refine loop_at (fun e => [e 9]) (fun e => [e 0, e 6, e 8]) H rfl rfl ?_
    intro K1 e1 h H hin1
    replace H : Map_su_Load.l6.b (e1 0) (e1 6) (e1 8) (e1 9) h K1 Q := H
    unfold Map_su_Load.l6.b at H
    clear hin1
    refine WPc_block ?_
    refine WPc_seq' ?_
    refine W_region (by kernel_rfl) ?_
    refine vl_n ?_
    refine H_of_R (R_move (v := (e1 9)) rfl ?_)
    refine vl_n ?_
    refine H_of_R (R_nil H fun t32 H => ?_)
    refine vl_n ?_
    refine H_of_R (R_fld TF_82_1 H fun t33 H => ?_)
    refine vl_n ?_
    refine H_of_R (R_load1 T1_3 H fun _ t34 _ _ H => ?_)
    refine vl_n ?_
    refine H_of_R (R_add H fun t35 H => ?_)
    refine vl_n ?_
    refine H_of_R (R_nil H fun t36 H => ?_)
    refine vl_n ?_
    refine H_of_R (R_fld TF_82_1 H fun t37 H => ?_)
    refine vl_n ?_
    refine H_store1 TS_3 H fun h H => ?_
    refine vl_e ?_
    refine WPc_seq (fun e h => Map_su_Load.j7 (e 0) (e 6) (e 8) (e 9) h K1 Q ∧ [e1 0, e1 6, e1 8] = [e 0, e 6, e 8]) ?_ (fun e h ⟨H, hq1⟩ => ?_)
    rotate_left
    · unfold Map_su_Load.j7 at H
      refine W_drawn [0, 0, 2, 6, 14, 30, 62, 0, 128, 384, 896, 1920, 3968, 8064, 16256, 32766, 65535, 131071] (.take 0 (.take 1 (.take 2 (.take 3 (.take 4 (.take 5 (.take 6 (.take 7 (.take 8 (.take 9 (.take 10 (.take 11 (.take 12 (.take 13 (.take 14 (.take 15 (.alt 16 (.take 17 .done) .none))))))))))))))))) mixed (by kernel_rfl) ?_
      refine tkP rfl ?_
      refine R_move (v := (e 0)) rfl ⟨fun _ => trivial, ?_⟩
      refine tkP rfl ?_
      refine R_move (v := (e 9)) rfl ⟨fun _ => trivial, ?_⟩
      refine tkP rfl ?_
      refine R_nil H fun t90 H => ⟨fun _ => trivial, ?_⟩
      refine tkP rfl ?_
      refine R_fld TF_82_3 H fun t91 H => ⟨fun _ => trivial, ?_⟩
      refine tkL rfl ?_
      refine R_load1 T1_80 H fun at92 t92 hat92 _ H => ?_
      refine tkP rfl ?_
      refine R_nil H fun t93 H => ⟨fun _ => trivial, ?_⟩
      refine tkL rfl ?_
      refine R_load1 T1_88 H fun at94 t94 hat94 _ H => ?_
      refine tkP rfl ?_
      refine R_move (v := (e 9)) rfl ⟨fun _ => trivial, ?_⟩
      refine tkP rfl ?_
      refine R_nil H fun t96 H => ⟨fun _ => trivial, ?_⟩
      refine tkP rfl ?_
      refine R_fld TF_82_3 H fun t97 H => ⟨fun _ => trivial, ?_⟩
      refine tkL rfl ?_
      refine R_load1 T1_80 H fun at98 t98 hat98 _ H => ?_
      refine tkP rfl ?_
      refine R_nil H fun t99 H => ⟨fun _ => trivial, ?_⟩
      refine tkL rfl ?_
      refine R_load1 T1_88 H fun at100 t100 hat100 _ H => ?_
      refine tkP rfl ?_
      refine R_len Try.underlying88 H fun t101 H => ⟨fun _ => trivial, ?_⟩
      refine tkP rfl ?_
      refine R_sub H fun t102 H => ⟨fun _ => trivial, ?_⟩
      refine tkP rfl ?_
      refine R_idx TE_88 H fun t103 H => ⟨fun _ => trivial, ?_⟩
      refine alt_n rfl ?_ vp_none
      refine H_call HB_62 H fun t104 h H => ⟨(hskip rfl (hskip rfl (hskip rfl (hskip rfl hnil)))), ?_⟩
      refine tkP rfl ?_
      refine R_assign (v := t104) rfl ⟨fun _ => trivial, ?_⟩
      refine vp_done ?_
      exact ⟨H, hq1⟩
    refine WPc_seq' ?_
    refine W_region (by kernel_rfl) ?_
    refine vl_n ?_
    refine H_of_R (R_move (v := (e1 9)) rfl ?_)
    refine vl_n ?_
    refine H_call HB_63 H fun t39 h H => ?_
    refine vl_e ?_
    obtain ⟨b, hc, H1, H2⟩ := H
    refine WPc_cond hc (fun hh => ?_) (fun hh => ?_)
    · have H := H1 hh; clear H1 H2
      refine WPc_seq (fun e h => Map_su_Load.j8 (e 0) (e 6) (e 8) h K1 Q ∧ [e1 0, e1 6, e1 8] = [e 0, e 6, e 8]) ?_ (fun e h ⟨H, hq1⟩ => ?_)
      rotate_left
      · unfold Map_su_Load.j8 at H
        refine WPc_exit ?_
        exact H
      refine WPc_seq' ?_
      refine W_drawn [0, 1, 3, 7, 15, 0, 32, 96, 224, 511] (.take 0 (.take 1 (.take 2 (.take 3 (.take 4 (.take 5 (.take 6 (.take 7 (.take 8 (.take 9 .done)))))))))) mixed (by kernel_rfl) ?_
      refine tkP rfl ?_
      refine R_move (v := (e1 9)) rfl ⟨fun _ => trivial, ?_⟩
      refine tkP rfl ?_
      refine R_nil H fun t41 H => ⟨fun _ => trivial, ?_⟩
      refine tkP rfl ?_
      refine R_fld TF_82_2 H fun t42 H => ⟨fun _ => trivial, ?_⟩
      refine tkL rfl ?_
      refine R_load1 T1_79 H fun at43 t43 hat43 _ H => ?_
      refine tkP rfl ?_
      refine R_len Try.underlying79 H fun t44 H => ⟨fun _ => trivial, ?_⟩
      refine tkP rfl ?_
      refine R_move (v := (e1 0)) rfl ⟨fun _ => trivial, ?_⟩
      refine tkP rfl ?_
      refine R_nil H fun t46 H => ⟨fun _ => trivial, ?_⟩
      refine tkP rfl ?_
      refine R_fld TF_63_6 H fun t47 H => ⟨fun _ => trivial, ?_⟩
      refine tkL rfl ?_
      refine R_load1 T1_3 H fun at48 t48 hat48 _ H => ?_
      refine tkP rfl ?_
      refine R_lss H fun t49 H => ⟨fun _ => trivial, ?_⟩
      refine vp_done ?_
      obtain ⟨b_2, hc_2, H1, H2⟩ := H
      refine WPc_cond hc_2 (fun hh => ?_) (fun hh => ?_)
      · have H := H1 hh; clear H1 H2
        refine WPc_seq' ?_
        refine W_drawn [0, 1, 3, 7, 0, 16, 48, 112, 240, 496, 1023, 2047, 4095, 0, 8192, 32767] (.take 0 (.take 1 (.take 2 (.take 3 (.take 4 (.take 5 (.take 6 (.take 7 (.take 8 (.take 9 (.take 10 (.take 11 (.take 12 (.take 13 (.take 14 (.take 15 .done)))))))))))))))) mixed (by kernel_rfl) ?_
        refine tkP rfl ?_
        refine R_move (v := (e1 9)) rfl ⟨fun _ => trivial, ?_⟩
        refine tkP rfl ?_
        refine R_nil H fun t51 H => ⟨fun _ => trivial, ?_⟩
        refine tkP rfl ?_
        refine R_fld TF_82_2 H fun t52 H => ⟨fun _ => trivial, ?_⟩
        refine tkL rfl ?_
        refine R_load1 T1_79 H fun at53 t53 hat53 _ H => ?_
        refine tkP rfl ?_
        refine R_move (v := (e1 9)) rfl ⟨fun _ => trivial, ?_⟩
        refine tkP rfl ?_
        refine R_nil H fun t55 H => ⟨fun _ => trivial, ?_⟩
        refine tkP rfl ?_
        refine R_fld TF_82_2 H fun t56 H => ⟨fun _ => trivial, ?_⟩
        refine tkL rfl ?_
        refine R_load1 T1_79 H fun at57 t57 hat57 _ H => ?_
        refine tkP rfl ?_
        refine R_len Try.underlying79 H fun t58 H => ⟨fun _ => trivial, ?_⟩
        refine tkP rfl ?_
        refine R_sub H fun t59 H => ⟨fun _ => trivial, ?_⟩
        refine tkP rfl ?_
        refine R_idx TE_79 H fun t60 H => ⟨fun _ => trivial, ?_⟩
        refine tkP rfl ?_
        refine R_fld TF_61_1 H fun t61 H => ⟨fun _ => trivial, ?_⟩
        refine tkL rfl ?_
        refine R_load1 T1_9 H fun at62 t62 hat62 _ H => ?_
        refine tkP rfl ?_
        refine R_fld TF_61_1 H fun t63 H => ⟨fun _ => trivial, ?_⟩
        refine tkL rfl ?_
        refine R_load1 T1_9 H fun at64 t64 hat64 _ H => ?_
        refine tkP rfl ?_
        refine R_lssS H fun t65 H => ⟨fun _ => trivial, ?_⟩
        refine vp_done ?_
        obtain ⟨b_3, hc_3, H1, H2⟩ := H
        refine WPc_cond hc_3 (fun hh => ?_) (fun hh => ?_)
        · have H := H1 hh; clear H1 H2
          refine WPc_seq' ?_
          refine W_drawn [0, 0, 2, 6, 14, 0, 32, 126, 255, 511, 1023] (.take 0 (.take 1 (.take 2 (.take 3 (.take 4 (.take 5 (.alt 6 (.alt 7 (.take 8 (.take 9 (.alt 10 .done .none))) .none) .none))))))) mixed (by kernel_rfl) ?_
          refine tkP rfl ?_
          refine R_move (v := (e1 9)) rfl ⟨fun _ => trivial, ?_⟩
          refine tkP rfl ?_
          refine R_move (v := (e1 9)) rfl ⟨fun _ => trivial, ?_⟩
          refine tkP rfl ?_
          refine R_nil H fun t68 H => ⟨fun _ => trivial, ?_⟩
          refine tkP rfl ?_
          refine R_fld TF_82_2 H fun t69 H => ⟨fun _ => trivial, ?_⟩
          refine tkL rfl ?_
          refine R_load1 T1_79 H fun at70 t70 hat70 _ H => ?_
          refine tkL rfl ?_
          refine R_loadN TN_61 H fun at71 xt71 hat71 _ H St71 hSt71 => ?_
          refine alt_n rfl ?_ vp_none
          refine H_mkSl TZ_79 (by decide) rfl H rfl fun t72 h ⟨S, H⟩ => ⟨(hskip rfl (hcons rfl (still_1 S hat70) hnil)), ?_⟩
          refine alt_n rfl ?_ vp_none
          refine H_app TZ_79 TU_79 H fun t73 h H => ⟨(hskip rfl hnil), ?_⟩
          refine tkP rfl ?_
          refine R_nil H fun t74 H => ⟨fun _ => trivial, ?_⟩
          refine tkP rfl ?_
          refine R_fld TF_82_2 H fun t75 H => ⟨fun _ => trivial, ?_⟩
          refine alt_n rfl ?_ vp_none
          refine H_store1 TS_79 H fun h H => ⟨hnil, ?_⟩
          refine vp_done ?_
          refine WPc_seq' ?_
          refine W_region (by kernel_rfl) ?_
          refine vl_n ?_
          refine H_of_R (R_move (v := (e1 0)) rfl ?_)
          refine vl_n ?_
          refine H_of_R (R_nil H fun t77 H => ?_)
          refine vl_n ?_
          refine H_of_R (R_fld TF_63_3 H fun t78 H => ?_)
          refine vl_n ?_
          refine H_of_R (R_load1 T1_3 H fun _ t79 _ _ H => ?_)
          refine vl_n ?_
          refine H_of_R (R_add H fun t80 H => ?_)
          refine vl_n ?_
          refine H_of_R (R_nil H fun t81 H => ?_)
          refine vl_n ?_
          refine H_of_R (R_fld TF_63_3 H fun t82 H => ?_)
          refine vl_n ?_
          refine H_store1 TS_3 H fun h H => ?_
          refine vl_e ?_
          refine WPc_seq' ?_
          refine W_region (by kernel_rfl) ?_
          refine vl_n ?_
          refine H_of_R (R_move (v := (e1 0)) rfl ?_)
          refine vl_n ?_
          refine H_of_R (R_nil H fun t84 H => ?_)
          refine vl_n ?_
          refine H_of_R (R_fld TF_63_4 H fun t85 H => ?_)
          refine vl_n ?_
          refine H_of_R (R_fldZ TFZ_61_0 H fun t86 H _ => ?_)
          refine vl_n ?_
          refine H_of_R (R_loadN TN_59 H fun _ t87 _ _ H _ _ => ?_)
          refine vl_n ?_
          refine H_storeN TS_59 H fun h H => ?_
          refine vl_n ?_
          refine H_of_R (R_assign (v := (.bool false)) rfl ?_)
          refine vl_e ?_
          refine WPc_ret ?_
          refine resH_of rfl ?_
          refine resL_N TN_59 ?_
          refine loadN_imp H fun r6 H => ?_
          refine resL_t ?_
          exact H
        · have H := H2 hh; clear H1 H2
          refine WPc_skip ?_
          exact ⟨H, rfl⟩
      · have H := H2 hh; clear H1 H2
        refine WPc_skip ?_
        exact ⟨H, rfl⟩
    · have H := H2 hh; clear H1 H2
      refine WPc_skip ?_
      exact ⟨H, rfl⟩
  refine WPc_seq' ?_
  refine W_region (by kernel_rfl) ?_
  refine vl_n ?_
  refine H_of_R (R_move (v := a0) rfl ?_)
  refine vl_n ?_
  refine H_of_R (R_nil H fun t14 H => ?_)
  refine vl_n ?_
  refine H_of_R (R_fld TF_63_2 H fun t15 H => ?_)
  refine vl_n ?_
  refine H_of_R (R_load1 T1_58 H fun _ t16 _ _ H => ?_)
  refine vl_n ?_
  refine H_of_R (R_eqNilP Try.underlying58 rfl H fun t17 H => ?_)
  refine vl_e ?_
  obtain ⟨b, hc, H1, H2⟩ := H
  refine WPc_cond hc (fun hh => ?_) (fun hh => ?_)
  · have H := H1 hh; clear H1 H2
    refine WPc_seq' ?_
    refine W_region (by kernel_rfl) ?_
    refine vl_n ?_
    refine H_of_R (R_move (v := a0) rfl ?_)
    refine vl_n ?_
    refine H_of_R (R_fld TF_61_1 H fun t19 H => ?_)
    refine vl_n ?_
    refine H_of_R (R_load1 T1_9 H fun _ t20 _ _ H => ?_)
    refine vl_n ?_
    refine H_of_R (R_fldZ TFZ_61_0 H fun t21 H _ => ?_)
    refine vl_n ?_
    refine H_of_R (R_loadN TN_59 H fun _ t22 _ _ H _ _ => ?_)
    refine vl_n ?_
    refine H_call HB_43 H fun t23 h H => ?_
    refine vl_n ?_
    refine H_of_R (R_ext H fun t24 H => ?_)
    refine vl_n ?_
    refine H_of_R (R_ext H fun t25 H => ?_)
    refine vl_n ?_
    refine H_storeN TS_59 H fun h H => ?_
    refine vl_n ?_
    refine H_of_R (R_assign (v := t25) rfl ?_)
    refine vl_e ?_
    refine WPc_ret ?_
    refine resH_of rfl ?_
    refine resL_N TN_59 ?_
    refine loadN_imp H fun r6 H => ?_
    refine resL_t ?_
    exact H
  · have H := H2 hh; clear H1 H2
    refine WPc_skip ?_
    exact H
/-! ### (*pub/tidwallbtree.Set[string]).Load -/
def Set_s_Load.sh (a0 : Value) (a1 : Value) (h : Heap) (Q : Value → Heap → Prop) : Prop :=
    nilck a0 fun t5 =>
    fld 0 t5 fun t6 =>
    buildV [] [] fun t8 =>
    Map_su_Load.call #[t6, a1, t8] h fun t9 h =>
    Q (.tuple #[]) h
theorem Set_s_Load.body (a0 : Value) (a1 : Value) (h : Heap) (Q : Value → Heap → Prop) (H : Set_s_Load.sh a0 a1 h Q) : Set_s_Load.call #[a0, a1] h Q := by
  refine callsH_of (args := [a0, a1]) Try.func32 rfl rfl ?_
  unfold Set_s_Load.sh at H
  refine W_region (by kernel_rfl) ?_
  refine vl_n ?_
  refine H_of_R (R_move (v := a0) rfl ?_)
  refine vl_n ?_
  refine H_of_R (R_nil H fun t5 H => ?_)
  refine vl_n ?_
  refine H_of_R (R_fld TF_65_0 H fun t6 H => ?_)
  refine vl_n ?_
  refine H_of_R (R_move (v := a1) rfl ?_)
  refine vl_n ?_
  refine H_of_R (R_build TB_59 rfl (by decide) H fun t8 H => ?_)
  refine vl_n ?_
  refine H_call HB_46 H fun t9 h H => ?_
  refine vl_e ?_
  refine resH_of rfl ?_
  exact H
/-! ### impl.TLoad -/
def i_TLoad.j1 (s3 : Value) (h : Heap) (Q : Value → Heap → Prop) : Prop :=
    Set_s_Keys.call #[s3] h fun t18 h =>
    Q t18 h
def i_TLoad.j4 (s3 : Value) (s7 : Value) (s8 : Value) (s9 : Value) (h : Heap) (K1 : List Value → Heap → Prop) (Q : Value → Heap → Prop) : Prop :=
    arith (· + ·) s9 (.int .i64 1) fun t16 =>
    K1 [t16] h
def i_TLoad.j3 (s3 : Value) (s7 : Value) (s8 : Value) (s9 : Value) (h : Heap) (K1 : List Value → Heap → Prop) (Q : Value → Heap → Prop) : Prop :=
    idx 1 s7 s9 fun t11 =>
    load1 t11 h fun t12 =>
    Set_s_Load.call #[s3, t12] h fun t15 h =>
    i_TLoad.j4 s3 s7 s8 s9 h K1 Q
def i_TLoad.l2.b (c3 : Value) (c7 : Value) (c8 : Value) (s9 : Value) (h : Heap) (K1 : List Value → Heap → Prop) (Q : Value → Heap → Prop) : Prop :=
    cmpI (fun a b => decide (a < b)) s9 c8 fun t10 =>
    ifV t10
    (i_TLoad.j3 c3 c7 c8 s9 h K1 Q)
    (i_TLoad.j1 c3 h Q)
def i_TLoad.sh (a0 : Value) (h : Heap) (Q : Value → Heap → Prop) : Prop :=
    i_growTexts.call #[(.slice none 0 0)] h fun t6 h =>
    lenV a0 fun t8 =>
    loopC (fun c s h K1 => i_TLoad.l2.b (c.getD 0 undef) (c.getD 1 undef) (c.getD 2 undef) (s.getD 0 undef) h K1 Q) [t6, a0, t8] [(.int .i64 0)] h
theorem i_TLoad.body (a0 : Value) (h : Heap) (Q : Value → Heap → Prop) (H : i_TLoad.sh a0 h Q) : i_TLoad.call #[a0] h Q := by
  refine callsH_of (args := [a0]) Try.func17 rfl rfl ?_
  unfold i_TLoad.sh at H
  refine WPc_seq' ?_
  refine W_region (by kernel_rfl) ?_
  refine vl_n ?_
  refine H_of_R (R_assign (v := (.slice none 0 0)) rfl ?_)
  refine vl_e ?_
  refine WPc_seq' ?_
  refine W_region (by kernel_rfl) ?_
  refine vl_n ?_
  refine H_call HB_24 H fun t6 h H => ?_
  refine vl_n ?_
  refine H_of_R (R_assign (v := t6) rfl ?_)
  refine vl_e ?_
  refine WPc_seq (fun e h => i_TLoad.j1 (e 3) h Q) ?_ (fun e h H => ?_)
  rotate_left
  · unfold i_TLoad.j1 at H
    refine WPc_seq' ?_
    refine W_region (by kernel_rfl) ?_
    refine vl_n ?_
    refine H_of_R (R_move (v := (e 3)) rfl ?_)
    refine vl_n ?_
    refine H_call HB_28 H fun t18 h H => ?_
    refine vl_n ?_
    refine H_of_R (R_assign (v := t18) rfl ?_)
    refine vl_e ?_
    refine WPc_ret ?_
    refine resH_of rfl ?_
    exact H
  refine WPc_seq' ?_
  refine W_region (by kernel_rfl) ?_
  refine vl_n ?_
  refine H_of_R (R_move (v := a0) rfl ?_)
  refine vl_n ?_
  refine H_of_R (R_len Try.underlying22 H fun t8 H => ?_)
  refine vl_n ?_
  refine H_of_R (R_move (v := (.int .i64 0)) rfl ?_)
  refine vl_e ?_
  refine WPc_block ?_
  refine loop_at (fun e => [e 9]) (fun e => [e 3, e 7, e 8]) H rfl rfl ?_
  intro K1 e1 h H hin1
  replace H : i_TLoad.l2.b (e1 3) (e1 7) (e1 8) (e1 9) h K1 Q := H
  unfold i_TLoad.l2.b at H
  clear hin1
  refine WPc_seq' ?_
  refine W_region (by kernel_rfl) ?_
  refine vl_n ?_
  refine H_of_R (R_lss H fun t10 H => ?_)
  refine vl_e ?_
  refine WPc_seq (fun e h => i_TLoad.j3 (e 3) (e 7) (e 8) (e 9) h K1 Q ∧ [e1 3, e1 7, e1 8] = [e 3, e 7, e 8]) ?_ (fun e h ⟨H, hq1⟩ => ?_)
  rotate_left
  · unfold i_TLoad.j3 at H
    refine WPc_seq (fun e h => i_TLoad.j4 (e 3) (e 7) (e 8) (e 9) h K1 Q ∧ [e1 3, e1 7, e1 8] = [e 3, e 7, e 8]) ?_ (fun e h ⟨H, hq1⟩ => ?_)
    rotate_left
    · unfold i_TLoad.j4 at H
      refine W_region (by kernel_rfl) ?_
      refine vl_n ?_
      refine H_of_R (R_add H fun t16 H => ?_)
      refine vl_n ?_
      refine H_of_R (R_move (v := t16) rfl ?_)
      refine vl_e ?_
      exact ⟨H, hq1⟩
    refine WPc_block ?_
    refine WPc_seq' ?_
    refine W_region (by kernel_rfl) ?_
    refine vl_n ?_
    refine H_of_R (R_idx TE_22 H fun t11 H => ?_)
    refine vl_n ?_
    refine H_of_R (R_load1 T1_9 H fun _ t12 _ _ H => ?_)
    refine vl_n ?_
    refine H_of_R (R_assign (v := t12) rfl ?_)
    refine vl_e ?_
    refine W_region (by kernel_rfl) ?_
    refine vl_n ?_
    refine H_of_R (R_move (v := (e 3)) rfl ?_)
    refine vl_n ?_
    refine H_of_R (R_move (v := t12) rfl ?_)
    refine vl_n ?_
    refine H_call HB_32 H fun t15 h H => ?_
    refine vl_e ?_
    exact ⟨H, hq1⟩
  obtain ⟨b, hc, H1, H2⟩ := H
  refine WPc_cond hc (fun hh => ?_) (fun hh => ?_)
  · have H := H1 hh; clear H1 H2
    refine WPc_skip ?_
    exact ⟨H, rfl⟩
  · have H := H2 hh; clear H1 H2
    refine WPc_exit ?_
    exact H
/-! ### laws.FnExactTLoad -/
def l_FnExactTLoad.j1 (s0 : Value) (h : Heap) (Q : Value → Heap → Prop) : Prop :=
    l_rises.call #[s0] h fun t7 h =>
    notV t7 fun t8 =>
    br t8 false (i_TLoad.call #[s0] h fun t11 h =>
    s_TKeys.call #[s0] h fun t13 h =>
    sl_Equal_ss.call #[t11, t13] h fun t14 h =>
    br t14 true (l_aliveT.call #[] h fun t17 h =>
    Q t17 h) (Q (.bool false) h)) (l_aliveT.call #[] h fun t17_2 h =>
    Q t17_2 h)
def l_FnExactTLoad.sh (a0 : Value) (h : Heap) (Q : Value → Heap → Prop) : Prop :=
    l_zzFits13.call #[a0] h fun t4 h =>
    notV t4 fun t5 =>
    ifV t5
    (Q (.bool true) h)
    (l_FnExactTLoad.j1 a0 h Q)
theorem l_FnExactTLoad.body (a0 : Value) (h : Heap) (Q : Value → Heap → Prop) (H : l_FnExactTLoad.sh a0 h Q) : l_FnExactTLoad.call #[a0] h Q := by
  refine callsH_of (args := [a0]) Try.func5 rfl rfl ?_
  unfold l_FnExactTLoad.sh at H
  refine WPc_seq' ?_
  refine W_region (by kernel_rfl) ?_
  refine vl_n ?_
  refine H_of_R (R_assign (v := (.bool false)) rfl ?_)
  refine vl_e ?_
  refine WPc_seq (fun e h => l_FnExactTLoad.j1 (e 0) h Q) ?_ (fun e h H => ?_)
  rotate_left
  · unfold l_FnExactTLoad.j1 at H
    refine WPc_seq' ?_
    refine W_region (by kernel_rfl) ?_
    refine vl_n ?_
    refine H_of_R (R_move (v := (e 0)) rfl ?_)
    refine vl_n ?_
    refine H_call HB_16 H fun t7 h H => ?_
    refine vl_n ?_
    refine H_of_R (R_not H fun t8 H => ?_)
    refine vl_n ?_
    refine H_of_R (R_move (v := t8) rfl ?_)
    obtain ⟨b, hb, H1, H2⟩ := H
    cases b
    · have H := H1 rfl; clear H1 H2
      refine vl_y rfl hb ?_
      refine H_of_R (R_move (v := (e 0)) rfl ?_)
      refine vl_y rfl hb ?_
      refine H_call HB_17 H fun t11 h H => ?_
      refine vl_y rfl hb ?_
      refine H_of_R (R_move (v := (e 0)) rfl ?_)
      refine vl_y rfl hb ?_
      refine H_call HB_14 H fun t13 h H => ?_
      refine vl_y rfl hb ?_
      refine H_call HB_12 H fun t14 h H => ?_
      refine vl_n ?_
      refine H_of_R (R_pickC (v := t14) false hb rfl ?_)
      refine vl_n ?_
      refine H_of_R (R_move (v := t14) rfl ?_)
      obtain ⟨b_2, hb_2, H1, H2⟩ := H
      cases b_2
      · have H := H2 rfl; clear H1 H2
        refine vl_s rfl (nbT hb_2) ?_
        refine vl_n ?_
        refine H_of_R (R_pickC (v := (.bool false)) false hb_2 rfl ?_)
        refine vl_n ?_
        refine H_of_R (R_assign (v := (.bool false)) rfl ?_)
        refine vl_e ?_
        refine WPc_ret ?_
        refine resH_of rfl ?_
        exact H
      · have H := H1 rfl; clear H1 H2
        refine vl_y rfl hb_2 ?_
        refine H_call HB_13 H fun t17 h H => ?_
        refine vl_n ?_
        refine H_of_R (R_pickC (v := t17) true hb_2 rfl ?_)
        refine vl_n ?_
        refine H_of_R (R_assign (v := t17) rfl ?_)
        refine vl_e ?_
        refine WPc_ret ?_
        refine resH_of rfl ?_
        exact H
    · have H := H2 rfl; clear H1 H2
      refine vl_s rfl (nbF hb) ?_
      refine vl_s rfl (nbF hb) ?_
      refine vl_s rfl (nbF hb) ?_
      refine vl_s rfl (nbF hb) ?_
      refine vl_s rfl (nbF hb) ?_
      refine vl_n ?_
      refine H_of_R (R_pickC (v := (.bool true)) true hb rfl ?_)
      refine vl_n ?_
      refine H_of_R (R_move (v := (.bool true)) rfl ?_)
      refine vl_y rfl rfl ?_
      refine H_call HB_13 H fun t17_2 h H => ?_
      refine vl_n ?_
      refine H_of_R (R_pickC (v := t17_2) true rfl rfl ?_)
      refine vl_n ?_
      refine H_of_R (R_assign (v := t17_2) rfl ?_)
      refine vl_e ?_
      refine WPc_ret ?_
      refine resH_of rfl ?_
      exact H
  refine WPc_seq' ?_
  refine W_region (by kernel_rfl) ?_
  refine vl_n ?_
  refine H_of_R (R_move (v := a0) rfl ?_)
  refine vl_n ?_
  refine H_call HB_9 H fun t4 h H => ?_
  refine vl_n ?_
  refine H_of_R (R_not H fun t5 H => ?_)
  refine vl_e ?_
  obtain ⟨b, hc, H1, H2⟩ := H
  refine WPc_cond hc (fun hh => ?_) (fun hh => ?_)
  · have H := H1 hh; clear H1 H2
    refine WPc_seq' ?_
    refine W_region (by kernel_rfl) ?_
    refine vl_n ?_
    refine H_of_R (R_assign (v := (.bool true)) rfl ?_)
    refine vl_e ?_
    refine WPc_ret ?_
    refine resH_of rfl ?_
    exact H
  · have H := H2 hh; clear H1 H2
    refine WPc_skip ?_
    exact H

end Go.Proofs.Ytfojeibloilneaa
