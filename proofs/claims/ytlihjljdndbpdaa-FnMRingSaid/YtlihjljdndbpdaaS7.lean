/-
  Shallow forms of the walked functions, and that each call comes to its form. Written by a program of this repo (gen.py). Conditions: none.
-/
import Derived.Test.YtlihjljdndbpdaaST
namespace Go.Proofs.Ytlihjljdndbpdaa
open Go.Hp
set_option maxRecDepth 100000
set_option maxHeartbeats 8000000
set_option linter.unusedVariables false
set_option linter.unusedSimpArgs false

/-! ### (*pub/tidwallbtree.Map[int, int]).Set -/
def Map_ii_Set.j3 (s0 : Value) (h : Heap) (Q : Value → Heap → Prop) : Prop :=
    nilck s0 fun t133 =>
    fld 3 t133 fun t134 =>
    load1 t134 h fun t135 =>
    arith (· + ·) t135 (.int .i64 1) fun t136 =>
    nilck s0 fun t137 =>
    fld 3 t137 fun t138 =>
    store1 t138 t136 h fun h =>
    nilck s0 fun t140 =>
    fld 4 t140 fun t141 =>
    fld 0 t141 fun t142 =>
    load1 t142 h fun t143 =>
    Q (.tuple #[t143, (.bool false)]) h
def Map_ii_Set.j2 (s0 : Value) (s9 : Value) (s10 : Value) (h : Heap) (Q : Value → Heap → Prop) : Prop :=
    ifV s10
    (Q (.tuple #[s9, (.bool true)]) h)
    (Map_ii_Set.j3 s0 h Q)
def Map_ii_Set.j1 (s0 : Value) (s8 : Value) (h : Heap) (Q : Value → Heap → Prop) : Prop :=
    nilck s0 fun t57 =>
    fld 2 t57 fun t58 =>
    loadN 2 s8 h fun t59 =>
    Map_ii_nodeSet.call #[s0, t58, t59] h fun t60 h =>
    extr 0 t60 fun t61 =>
    extr 1 t60 fun t62 =>
    extr 2 t60 fun t63 =>
    ifV t63
    (nilck s0 fun t66 =>
    fld 2 t66 fun t67 =>
    load1 t67 h fun t68 =>
    Map_ii_nodeSplit.call #[s0, t68] h fun t72 h =>
    extr 0 t72 fun t73 =>
    extr 1 t72 fun t74 =>
    alloc [(.int .i64 0), (.int .i64 0)] 178 h fun t14 h =>
    storeN 2 t14 t74 h fun h =>
    Map_ii_newNode.call #[s0, (.bool false)] h fun t77 h =>
    nilck s0 fun t78 =>
    fld 2 t78 fun t79 =>
    store1 t79 t77 h fun h =>
    nilck s0 fun t81 =>
    fld 2 t81 fun t82 =>
    load1 t82 h fun t83 =>
    nilck t83 fun t84 =>
    fld 3 t84 fun t85 =>
    load1 t85 h fun t86 =>
    nilck s0 fun t88 =>
    fld 7 t88 fun t89 =>
    load1 t89 h fun t90 =>
    arith (· + ·) t90 (.int .i64 1) fun t91 =>
    mks 173 1 8 [(.pointer none)] (.int .i64 0) t91 h fun t92 h =>
    still1 t82 t83 h ∧ still1 t85 t86 h ∧ nilck t86 fun t93 =>
    store1 t93 t92 h fun h =>
    nilck s0 fun t95 =>
    fld 2 t95 fun t96 =>
    load1 t96 h fun t97 =>
    nilck t97 fun t98 =>
    fld 3 t98 fun t99 =>
    load1 t99 h fun t100 =>
    (mkSl (if 0 * 1 = 0 then [] else zeros [(.pointer none)] 0) 0 [] 173 h fun t101 h =>
    still1 t96 t97 h ∧ still1 t99 t100 h ∧ mkSl (if 2 * 1 = 0 then [] else zeros [(.pointer none)] 2) 2 [(0 * 1, 1, t68), (1 * 1, 1, t73)] 173 h fun t104 h =>
    still1 t96 t97 h ∧ still1 t99 t100 h ∧ app 173 1 8 [(.pointer none)] t101 t104 h fun t105 h =>
    still1 t96 t97 h ∧ still1 t99 t100 h ∧ nilck t100 fun t106 =>
    store1 t106 t105 h fun h =>
    nilck s0 fun t108 =>
    fld 2 t108 fun t109 =>
    load1 t109 h fun t110 =>
    loadN 2 t14 h fun t112 =>
    (mkSl (if 0 * 2 = 0 then [] else zeros [(.int .i64 0), (.int .i64 0)] 0) 0 [] 178 h fun t111 h =>
    still1 t109 t110 h ∧ stillN 2 t14 t112 h ∧ mkSl (if 1 * 2 = 0 then [] else zeros [(.int .i64 0), (.int .i64 0)] 1) 1 [(0 * 2, 2, t112)] 178 h fun t113 h =>
    still1 t109 t110 h ∧ app 178 2 16 [(.int .i64 0), (.int .i64 0)] t111 t113 h fun t114 h =>
    still1 t109 t110 h ∧ nilck t110 fun t115 =>
    fld 2 t115 fun t116 =>
    store1 t116 t114 h fun h =>
    nilck s0 fun t118 =>
    fld 2 t118 fun t119 =>
    load1 t119 h fun t120 =>
    mapNode_ii_updateCount.call #[t120] h fun t121 h =>
    fld 1 s8 fun t123 =>
    load1 t123 h fun t124 =>
    fld 0 s8 fun t125 =>
    load1 t125 h fun t126 =>
    Map_ii_Set.call #[s0, t124, t126] h fun t127 h =>
    extr 0 t127 fun t128 =>
    extr 1 t127 fun t129 =>
    Q (.tuple #[t128, t129]) h) ∧
    (mkSl (if 1 * 2 = 0 then [] else zeros [(.int .i64 0), (.int .i64 0)] 1) 1 [(0 * 2, 2, t112)] 178 h fun t113_2 h =>
    still1 t109 t110 h ∧ mkSl (if 0 * 2 = 0 then [] else zeros [(.int .i64 0), (.int .i64 0)] 0) 0 [] 178 h fun t111_2 h =>
    still1 t109 t110 h ∧ app 178 2 16 [(.int .i64 0), (.int .i64 0)] t111_2 t113_2 h fun t114_2 h =>
    still1 t109 t110 h ∧ nilck t110 fun t115_2 =>
    fld 2 t115_2 fun t116_2 =>
    store1 t116_2 t114_2 h fun h =>
    nilck s0 fun t118_2 =>
    fld 2 t118_2 fun t119_2 =>
    load1 t119_2 h fun t120_2 =>
    mapNode_ii_updateCount.call #[t120_2] h fun t121_2 h =>
    fld 1 s8 fun t123_2 =>
    load1 t123_2 h fun t124_2 =>
    fld 0 s8 fun t125_2 =>
    load1 t125_2 h fun t126_2 =>
    Map_ii_Set.call #[s0, t124_2, t126_2] h fun t127_2 h =>
    extr 0 t127_2 fun t128_2 =>
    extr 1 t127_2 fun t129_2 =>
    Q (.tuple #[t128_2, t129_2]) h)) ∧
    (mkSl (if 2 * 1 = 0 then [] else zeros [(.pointer none)] 2) 2 [(0 * 1, 1, t68), (1 * 1, 1, t73)] 173 h fun t104_2 h =>
    still1 t96 t97 h ∧ still1 t99 t100 h ∧ mkSl (if 0 * 1 = 0 then [] else zeros [(.pointer none)] 0) 0 [] 173 h fun t101_2 h =>
    still1 t96 t97 h ∧ still1 t99 t100 h ∧ app 173 1 8 [(.pointer none)] t101_2 t104_2 h fun t105_2 h =>
    still1 t96 t97 h ∧ still1 t99 t100 h ∧ nilck t100 fun t106_2 =>
    store1 t106_2 t105_2 h fun h =>
    nilck s0 fun t108_2 =>
    fld 2 t108_2 fun t109_2 =>
    load1 t109_2 h fun t110_2 =>
    loadN 2 t14 h fun t112_2 =>
    (mkSl (if 0 * 2 = 0 then [] else zeros [(.int .i64 0), (.int .i64 0)] 0) 0 [] 178 h fun t111_3 h =>
    still1 t109_2 t110_2 h ∧ stillN 2 t14 t112_2 h ∧ mkSl (if 1 * 2 = 0 then [] else zeros [(.int .i64 0), (.int .i64 0)] 1) 1 [(0 * 2, 2, t112_2)] 178 h fun t113_3 h =>
    still1 t109_2 t110_2 h ∧ app 178 2 16 [(.int .i64 0), (.int .i64 0)] t111_3 t113_3 h fun t114_3 h =>
    still1 t109_2 t110_2 h ∧ nilck t110_2 fun t115_3 =>
    fld 2 t115_3 fun t116_3 =>
    store1 t116_3 t114_3 h fun h =>
    nilck s0 fun t118_3 =>
    fld 2 t118_3 fun t119_3 =>
    load1 t119_3 h fun t120_3 =>
    mapNode_ii_updateCount.call #[t120_3] h fun t121_3 h =>
    fld 1 s8 fun t123_3 =>
    load1 t123_3 h fun t124_3 =>
    fld 0 s8 fun t125_3 =>
    load1 t125_3 h fun t126_3 =>
    Map_ii_Set.call #[s0, t124_3, t126_3] h fun t127_3 h =>
    extr 0 t127_3 fun t128_3 =>
    extr 1 t127_3 fun t129_3 =>
    Q (.tuple #[t128_3, t129_3]) h) ∧
    (mkSl (if 1 * 2 = 0 then [] else zeros [(.int .i64 0), (.int .i64 0)] 1) 1 [(0 * 2, 2, t112_2)] 178 h fun t113_4 h =>
    still1 t109_2 t110_2 h ∧ mkSl (if 0 * 2 = 0 then [] else zeros [(.int .i64 0), (.int .i64 0)] 0) 0 [] 178 h fun t111_4 h =>
    still1 t109_2 t110_2 h ∧ app 178 2 16 [(.int .i64 0), (.int .i64 0)] t111_4 t113_4 h fun t114_4 h =>
    still1 t109_2 t110_2 h ∧ nilck t110_2 fun t115_4 =>
    fld 2 t115_4 fun t116_4 =>
    store1 t116_4 t114_4 h fun h =>
    nilck s0 fun t118_4 =>
    fld 2 t118_4 fun t119_4 =>
    load1 t119_4 h fun t120_4 =>
    mapNode_ii_updateCount.call #[t120_4] h fun t121_4 h =>
    fld 1 s8 fun t123_4 =>
    load1 t123_4 h fun t124_4 =>
    fld 0 s8 fun t125_4 =>
    load1 t125_4 h fun t126_4 =>
    Map_ii_Set.call #[s0, t124_4, t126_4] h fun t127_4 h =>
    extr 0 t127_4 fun t128_4 =>
    extr 1 t127_4 fun t129_4 =>
    Q (.tuple #[t128_4, t129_4]) h)))
    (Map_ii_Set.j2 s0 t61 t62 h Q)
def Map_ii_Set.sh (a0 : Value) (a1 : Value) (a2 : Value) (h : Heap) (Q : Value → Heap → Prop) : Prop :=
    buildV [(.int .i64 0), (.int .i64 0)] [(1, 1, a1), (0, 1, a2)] fun t17 =>
    alloc [(.int .i64 0), (.int .i64 0)] 178 h fun t8 h =>
    storeN 2 t8 t17 h fun h =>
    nilck a0 fun t19 =>
    fld 2 t19 fun t20 =>
    load1 t20 h fun t21 =>
    eqNilP t21 fun t22 =>
    ifV t22
    (Map_ii_init.call #[a0, (.int .i64 0)] h fun t24 h =>
    Map_ii_newNode.call #[a0, (.bool true)] h fun t27 h =>
    nilck a0 fun t28 =>
    fld 2 t28 fun t29 =>
    store1 t29 t27 h fun h =>
    nilck a0 fun t31 =>
    fld 2 t31 fun t32 =>
    load1 t32 h fun t33 =>
    loadN 2 t8 h fun t35 =>
    (mkSl (if 0 * 2 = 0 then [] else zeros [(.int .i64 0), (.int .i64 0)] 0) 0 [] 178 h fun t34 h =>
    still1 t32 t33 h ∧ stillN 2 t8 t35 h ∧ mkSl (if 1 * 2 = 0 then [] else zeros [(.int .i64 0), (.int .i64 0)] 1) 1 [(0 * 2, 2, t35)] 178 h fun t36 h =>
    still1 t32 t33 h ∧ app 178 2 16 [(.int .i64 0), (.int .i64 0)] t34 t36 h fun t37 h =>
    still1 t32 t33 h ∧ nilck t33 fun t38 =>
    fld 2 t38 fun t39 =>
    store1 t39 t37 h fun h =>
    nilck a0 fun t41 =>
    fld 2 t41 fun t42 =>
    load1 t42 h fun t43 =>
    nilck t43 fun t44 =>
    fld 1 t44 fun t45 =>
    store1 t45 (.int .i64 1) h fun h =>
    nilck a0 fun t47 =>
    fld 3 t47 fun t48 =>
    store1 t48 (.int .i64 1) h fun h =>
    nilck a0 fun t50 =>
    fld 4 t50 fun t51 =>
    fld 0 t51 fun t52 =>
    load1 t52 h fun t53 =>
    Q (.tuple #[t53, (.bool false)]) h) ∧
    (mkSl (if 1 * 2 = 0 then [] else zeros [(.int .i64 0), (.int .i64 0)] 1) 1 [(0 * 2, 2, t35)] 178 h fun t36_2 h =>
    still1 t32 t33 h ∧ mkSl (if 0 * 2 = 0 then [] else zeros [(.int .i64 0), (.int .i64 0)] 0) 0 [] 178 h fun t34_2 h =>
    still1 t32 t33 h ∧ app 178 2 16 [(.int .i64 0), (.int .i64 0)] t34_2 t36_2 h fun t37_2 h =>
    still1 t32 t33 h ∧ nilck t33 fun t38_2 =>
    fld 2 t38_2 fun t39_2 =>
    store1 t39_2 t37_2 h fun h =>
    nilck a0 fun t41_2 =>
    fld 2 t41_2 fun t42_2 =>
    load1 t42_2 h fun t43_2 =>
    nilck t43_2 fun t44_2 =>
    fld 1 t44_2 fun t45_2 =>
    store1 t45_2 (.int .i64 1) h fun h =>
    nilck a0 fun t47_2 =>
    fld 3 t47_2 fun t48_2 =>
    store1 t48_2 (.int .i64 1) h fun h =>
    nilck a0 fun t50_2 =>
    fld 4 t50_2 fun t51_2 =>
    fld 0 t51_2 fun t52_2 =>
    load1 t52_2 h fun t53_2 =>
    Q (.tuple #[t53_2, (.bool false)]) h))
    (Map_ii_Set.j1 a0 t8 h Q)
theorem Map_ii_Set.body (a0 : Value) (a1 : Value) (a2 : Value) (h : Heap) (Q : Value → Heap → Prop) (H : Map_ii_Set.sh a0 a1 a2 h Q) : Map_ii_Set.call #[a0, a1, a2] h Q := by
  refine callsH_of (args := [a0, a1, a2]) Try.func59 rfl rfl ?_
  unfold Map_ii_Set.sh at H
  refine WPc_seq' ?_
  refine W_region (by kernel_rfl) ?_
  refine vl_n ?_
  refine H_of_R (R_assign (v := (.int .i64 0)) rfl ?_)
  refine vl_n ?_
  refine H_of_R (R_assign (v := (.bool false)) rfl ?_)
  refine vl_e ?_
  refine WPc_seq' ?_
  refine W_region (by kernel_rfl) ?_
  refine vl_n ?_
  refine H_of_R (R_move (v := a1) rfl ?_)
  refine vl_n ?_
  refine H_of_R (R_move (v := a2) rfl ?_)
  refine vl_n ?_
  refine H_of_R (R_build TB_178 rfl (by decide) H fun t17 H => ?_)
  refine vl_n ?_
  refine H_alloc TV_178 H fun t8 h H => ?_
  refine vl_n ?_
  refine H_storeN TS_178 H fun h H => ?_
  refine vl_e ?_
  refine WPc_seq (fun e h => Map_ii_Set.j1 (e 0) (e 8) h Q) ?_ (fun e h H => ?_)
  rotate_left
  · unfold Map_ii_Set.j1 at H
    refine WPc_seq' ?_
    refine W_drawn [0, 0, 2, 6, 0, 31, 63, 127, 127, 127, 255, 1535, 4095] (.take 0 (.take 1 (.take 2 (.take 3 (.take 4 (.alt 5 (.take 6 (.take 7 (.take 8 (.take 9 (.take 10 (.take 11 (.take 12 .done))))))) .none)))))) mixed (by kernel_rfl) ?_
    refine tkP rfl ?_
    refine R_move (v := (e 0)) rfl ⟨fun _ => trivial, ?_⟩
    refine tkP rfl ?_
    refine R_move (v := (e 0)) rfl ⟨fun _ => trivial, ?_⟩
    refine tkP rfl ?_
    refine R_nil H fun t57 H => ⟨fun _ => trivial, ?_⟩
    refine tkP rfl ?_
    refine R_fld TF_182_2 H fun t58 H => ⟨fun _ => trivial, ?_⟩
    refine tkL rfl ?_
    refine R_loadN TN_178 H fun at59 xt59 hat59 _ H St59 hSt59 => ?_
    refine alt_n rfl ?_ vp_none
    refine H_call HB_113 H fun t60 h H => ⟨(hskip rfl hnil), ?_⟩
    refine tkP rfl ?_
    refine R_move (v := t60) rfl ⟨fun _ => trivial, ?_⟩
    refine tkP rfl ?_
    refine R_ext H fun t61 H => ⟨fun _ => trivial, ?_⟩
    refine tkP rfl ?_
    refine R_ext H fun t62 H => ⟨fun _ => trivial, ?_⟩
    refine tkP rfl ?_
    refine R_ext H fun t63 H => ⟨fun _ => trivial, ?_⟩
    refine tkP rfl ?_
    refine R_assign (v := t61) rfl ⟨fun _ => trivial, ?_⟩
    refine tkP rfl ?_
    refine R_assign (v := t62) rfl ⟨fun _ => trivial, ?_⟩
    refine tkP rfl ?_
    refine R_assign (v := t63) rfl ⟨fun _ => trivial, ?_⟩
    refine vp_done ?_
    refine WPc_seq (fun e h => Map_ii_Set.j2 (e 0) (e 9) (e 10) h Q) ?_ (fun e h H => ?_)
    rotate_left
    · unfold Map_ii_Set.j2 at H
      refine WPc_seq (fun e h => Map_ii_Set.j3 (e 0) h Q) ?_ (fun e h H => ?_)
      rotate_left
      · unfold Map_ii_Set.j3 at H
        refine WPc_seq' ?_
        refine W_region (by kernel_rfl) ?_
        refine vl_n ?_
        refine H_of_R (R_move (v := (e 0)) rfl ?_)
        refine vl_n ?_
        refine H_of_R (R_nil H fun t133 H => ?_)
        refine vl_n ?_
        refine H_of_R (R_fld TF_182_3 H fun t134 H => ?_)
        refine vl_n ?_
        refine H_of_R (R_load1 T1_3 H fun _ t135 _ _ H => ?_)
        refine vl_n ?_
        refine H_of_R (R_add H fun t136 H => ?_)
        refine vl_n ?_
        refine H_of_R (R_nil H fun t137 H => ?_)
        refine vl_n ?_
        refine H_of_R (R_fld TF_182_3 H fun t138 H => ?_)
        refine vl_n ?_
        refine H_store1 TS_3 H fun h H => ?_
        refine vl_e ?_
        refine WPc_seq' ?_
        refine W_region (by kernel_rfl) ?_
        refine vl_n ?_
        refine H_of_R (R_move (v := (e 0)) rfl ?_)
        refine vl_n ?_
        refine H_of_R (R_nil H fun t140 H => ?_)
        refine vl_n ?_
        refine H_of_R (R_fld TF_182_4 H fun t141 H => ?_)
        refine vl_n ?_
        refine H_of_R (R_fld TF_178_0 H fun t142 H => ?_)
        refine vl_n ?_
        refine H_of_R (R_load1 T1_3 H fun _ t143 _ _ H => ?_)
        refine vl_n ?_
        refine H_of_R (R_assign (v := t143) rfl ?_)
        refine vl_n ?_
        refine H_of_R (R_assign (v := (.bool false)) rfl ?_)
        refine vl_e ?_
        refine WPc_ret ?_
        refine resH_of rfl ?_
        exact H
      refine WPc_seq' ?_
      refine W_region (by kernel_rfl) ?_
      refine vl_n ?_
      refine H_of_R (R_move (v := (e 10)) rfl ?_)
      refine vl_e ?_
      obtain ⟨b, hc, H1, H2⟩ := H
      refine WPc_cond hc (fun hh => ?_) (fun hh => ?_)
      · have H := H1 hh; clear H1 H2
        refine WPc_seq' ?_
        refine W_region (by kernel_rfl) ?_
        refine vl_n ?_
        refine H_of_R (R_move (v := (e 9)) rfl ?_)
        refine vl_n ?_
        refine H_of_R (R_assign (v := (e 9)) rfl ?_)
        refine vl_n ?_
        refine H_of_R (R_assign (v := (.bool true)) rfl ?_)
        refine vl_e ?_
        refine WPc_ret ?_
        refine resH_of rfl ?_
        exact H
      · have H := H2 hh; clear H1 H2
        refine WPc_skip ?_
        exact H
    refine WPc_seq' ?_
    refine W_region (by kernel_rfl) ?_
    refine vl_n ?_
    refine H_of_R (R_move (v := t63) rfl ?_)
    refine vl_e ?_
    obtain ⟨b, hc, H1, H2⟩ := H
    refine WPc_cond hc (fun hh => ?_) (fun hh => ?_)
    · have H := H1 hh; clear H1 H2
      refine WPc_seq' ?_
      refine W_region (by kernel_rfl) ?_
      refine vl_n ?_
      refine H_of_R (R_move (v := (e 0)) rfl ?_)
      refine vl_n ?_
      refine H_of_R (R_nil H fun t66 H => ?_)
      refine vl_n ?_
      refine H_of_R (R_fld TF_182_2 H fun t67 H => ?_)
      refine vl_n ?_
      refine H_of_R (R_load1 T1_173 H fun _ t68 _ _ H => ?_)
      refine vl_n ?_
      refine H_of_R (R_assign (v := t68) rfl ?_)
      refine vl_e ?_
      refine WPc_seq' ?_
      refine W_region (by kernel_rfl) ?_
      refine vl_n ?_
      refine H_of_R (R_move (v := (e 0)) rfl ?_)
      refine vl_n ?_
      refine H_of_R (R_move (v := t68) rfl ?_)
      refine vl_n ?_
      refine H_call HB_114 H fun t72 h H => ?_
      refine vl_n ?_
      refine H_of_R (R_move (v := t72) rfl ?_)
      refine vl_n ?_
      refine H_of_R (R_ext H fun t73 H => ?_)
      refine vl_n ?_
      refine H_of_R (R_ext H fun t74 H => ?_)
      refine vl_n ?_
      refine H_alloc TV_178 H fun t14 h H => ?_
      refine vl_n ?_
      refine H_of_R (R_assign (v := t73) rfl ?_)
      refine vl_n ?_
      refine H_storeN TS_178 H fun h H => ?_
      refine vl_e ?_
      refine WPc_seq' ?_
      refine W_region (by kernel_rfl) ?_
      refine vl_n ?_
      refine H_of_R (R_move (v := (e 0)) rfl ?_)
      refine vl_n ?_
      refine H_of_R (R_move (v := (e 0)) rfl ?_)
      refine vl_n ?_
      refine H_call HB_112 H fun t77 h H => ?_
      refine vl_n ?_
      refine H_of_R (R_nil H fun t78 H => ?_)
      refine vl_n ?_
      refine H_of_R (R_fld TF_182_2 H fun t79 H => ?_)
      refine vl_n ?_
      refine H_store1 TS_173 H fun h H => ?_
      refine vl_e ?_
      refine WPc_seq' ?_
      refine W_drawn [0, 1, 3, 7, 15, 31, 63, 0, 128, 384, 896, 1920, 3968, 8191, 16383] (.take 0 (.take 1 (.take 2 (.take 3 (.take 4 (.take 5 (.take 6 (.take 7 (.take 8 (.take 9 (.take 10 (.take 11 (.alt 12 (.take 13 (.alt 14 .done .none)) .none))))))))))))) mixed (by kernel_rfl) ?_
      refine tkP rfl ?_
      refine R_move (v := (e 0)) rfl ⟨fun _ => trivial, ?_⟩
      refine tkP rfl ?_
      refine R_nil H fun t81 H => ⟨fun _ => trivial, ?_⟩
      refine tkP rfl ?_
      refine R_fld TF_182_2 H fun t82 H => ⟨fun _ => trivial, ?_⟩
      refine tkL rfl ?_
      refine R_load1 T1_173 H fun at83 t83 hat83 _ H => ?_
      refine tkP rfl ?_
      refine R_nil H fun t84 H => ⟨fun _ => trivial, ?_⟩
      refine tkP rfl ?_
      refine R_fld TF_188_3 H fun t85 H => ⟨fun _ => trivial, ?_⟩
      refine tkL rfl ?_
      refine R_load1 T1_186 H fun at86 t86 hat86 _ H => ?_
      refine tkP rfl ?_
      refine R_move (v := (e 0)) rfl ⟨fun _ => trivial, ?_⟩
      refine tkP rfl ?_
      refine R_nil H fun t88 H => ⟨fun _ => trivial, ?_⟩
      refine tkP rfl ?_
      refine R_fld TF_182_6 H fun t89 H => ⟨fun _ => trivial, ?_⟩
      refine tkL rfl ?_
      refine R_load1 T1_3 H fun at90 t90 hat90 _ H => ?_
      refine tkP rfl ?_
      refine R_add H fun t91 H => ⟨fun _ => trivial, ?_⟩
      refine alt_n rfl ?_ vp_none
      refine H_mks TZ_194 rfl H fun t92 h ⟨S, S_2, H⟩ => ⟨(hskip rfl (hcons rfl (still_1 S_2 hat86) (hcons rfl (still_1 S hat83) hnil))), ?_⟩
      refine tkP rfl ?_
      refine R_nil H fun t93 H => ⟨fun _ => trivial, ?_⟩
      refine alt_n rfl ?_ vp_none
      refine H_store1 TS_194 H fun h H => ⟨(hskip rfl (hskip rfl hnil)), ?_⟩
      refine vp_done ?_
      refine WPc_seq' ?_
      refine W_drawn [0, 1, 3, 7, 15, 31, 63, 0, 0, 0, 768, 1920, 4095, 8191] (.take 0 (.take 1 (.take 2 (.take 3 (.take 4 (.take 5 (.take 6 (.take 8 (.take 9 (.alt 7 (.alt 10 (.alt 11 (.take 12 (.alt 13 .done .none)) .none) .none) (.alt 10 (.alt 7 (.alt 11 (.take 12 (.alt 13 .done .none)) .none) .none) .none))))))))))) mixed (by kernel_rfl) ?_
      refine tkP rfl ?_
      refine R_move (v := (e 0)) rfl ⟨fun _ => trivial, ?_⟩
      refine tkP rfl ?_
      refine R_nil H fun t95 H => ⟨fun _ => trivial, ?_⟩
      refine tkP rfl ?_
      refine R_fld TF_182_2 H fun t96 H => ⟨fun _ => trivial, ?_⟩
      refine tkL rfl ?_
      refine R_load1 T1_173 H fun at97 t97 hat97 _ H => ?_
      refine tkP rfl ?_
      refine R_nil H fun t98 H => ⟨fun _ => trivial, ?_⟩
      refine tkP rfl ?_
      refine R_fld TF_188_3 H fun t99 H => ⟨fun _ => trivial, ?_⟩
      refine tkL rfl ?_
      refine R_load1 T1_186 H fun at100 t100 hat100 _ H => ?_
      refine tkP rfl ?_
      refine R_move (v := t68) rfl ⟨fun _ => trivial, ?_⟩
      refine tkP rfl ?_
      refine R_move (v := t73) rfl ⟨fun _ => trivial, ?_⟩
      obtain ⟨HA0, HA1⟩ := H
      refine alt_n rfl ?_ ?_
      · have H := HA0; clear HA0 HA1
        refine H_mkSl TZ_194 (by decide) rfl H rfl fun t101 h ⟨S_3, S_4, H⟩ => ⟨(hcons rfl (still_1 S_4 hat100) (hcons rfl (still_1 S_3 hat97) hnil)), ?_⟩
        refine alt_n rfl ?_ vp_none
        refine H_mkSl TZ_194 (by decide) rfl H rfl fun t104 h ⟨S_5, S_6, H⟩ => ⟨(hcons rfl (still_1 S_6 hat100) (hcons rfl (still_1 S_5 hat97) hnil)), ?_⟩
        refine alt_n rfl ?_ vp_none
        refine H_app TZ_194 TU_194 H fun t105 h ⟨S_7, S_8, H⟩ => ⟨(hcons rfl (still_1 S_8 hat100) (hcons rfl (still_1 S_7 hat97) hnil)), ?_⟩
        refine tkP rfl ?_
        refine R_nil H fun t106 H => ⟨fun _ => trivial, ?_⟩
        refine alt_n rfl ?_ vp_none
        refine H_store1 TS_194 H fun h H => ⟨(hskip rfl (hskip rfl hnil)), ?_⟩
        refine vp_done ?_
        refine WPc_seq' ?_
        refine W_drawn [0, 1, 3, 7, 0, 0, 32, 112, 255, 511, 1023] (.take 0 (.take 1 (.take 2 (.take 3 (.take 5 (.alt 4 (.alt 6 (.alt 7 (.take 8 (.take 9 (.alt 10 .done .none))) .none) .none) (.alt 6 (.alt 4 (.alt 7 (.take 8 (.take 9 (.alt 10 .done .none))) .none) .none) .none))))))) mixed (by kernel_rfl) ?_
        refine tkP rfl ?_
        refine R_move (v := (e 0)) rfl ⟨fun _ => trivial, ?_⟩
        refine tkP rfl ?_
        refine R_nil H fun t108 H => ⟨fun _ => trivial, ?_⟩
        refine tkP rfl ?_
        refine R_fld TF_182_2 H fun t109 H => ⟨fun _ => trivial, ?_⟩
        refine tkL rfl ?_
        refine R_load1 T1_173 H fun at110 t110 hat110 _ H => ?_
        refine tkL rfl ?_
        refine R_loadN TN_178 H fun at112 xt112 hat112 _ H St112 hSt112 => ?_
        obtain ⟨HA0, HA1⟩ := H
        refine alt_n rfl ?_ ?_
        · have H := HA0; clear HA0 HA1
          refine H_mkSl TZ_185 (by decide) rfl H rfl fun t111 h ⟨S_9, S_10, H⟩ => ⟨(hcons rfl (hSt112 _ (still_N S_10 hat112 rfl)) (hcons rfl (still_1 S_9 hat110) hnil)), ?_⟩
          refine alt_n rfl ?_ vp_none
          refine H_mkSl TZ_185 (by decide) rfl H rfl fun t113 h ⟨S_11, H⟩ => ⟨(hskip rfl (hcons rfl (still_1 S_11 hat110) hnil)), ?_⟩
          refine alt_n rfl ?_ vp_none
          refine H_app TZ_185 TU_185 H fun t114 h ⟨S_12, H⟩ => ⟨(hcons rfl (still_1 S_12 hat110) hnil), ?_⟩
          refine tkP rfl ?_
          refine R_nil H fun t115 H => ⟨fun _ => trivial, ?_⟩
          refine tkP rfl ?_
          refine R_fld TF_188_2 H fun t116 H => ⟨fun _ => trivial, ?_⟩
          refine alt_n rfl ?_ vp_none
          refine H_store1 TS_185 H fun h H => ⟨(hskip rfl hnil), ?_⟩
          refine vp_done ?_
          refine WPc_seq' ?_
          refine W_region (by kernel_rfl) ?_
          refine vl_n ?_
          refine H_of_R (R_move (v := (e 0)) rfl ?_)
          refine vl_n ?_
          refine H_of_R (R_nil H fun t118 H => ?_)
          refine vl_n ?_
          refine H_of_R (R_fld TF_182_2 H fun t119 H => ?_)
          refine vl_n ?_
          refine H_of_R (R_load1 T1_173 H fun _ t120 _ _ H => ?_)
          refine vl_n ?_
          refine H_call HB_115 H fun t121 h H => ?_
          refine vl_e ?_
          refine WPc_seq' ?_
          refine W_region (by kernel_rfl) ?_
          refine vl_n ?_
          refine H_of_R (R_move (v := (e 0)) rfl ?_)
          refine vl_n ?_
          refine H_of_R (R_fld TF_178_1 H fun t123 H => ?_)
          refine vl_n ?_
          refine H_of_R (R_load1 T1_3 H fun _ t124 _ _ H => ?_)
          refine vl_n ?_
          refine H_of_R (R_fld TF_178_0 H fun t125 H => ?_)
          refine vl_n ?_
          refine H_of_R (R_load1 T1_3 H fun _ t126 _ _ H => ?_)
          refine vl_n ?_
          refine H_call HB_59 H fun t127 h H => ?_
          refine vl_n ?_
          refine H_of_R (R_ext H fun t128 H => ?_)
          refine vl_n ?_
          refine H_of_R (R_ext H fun t129 H => ?_)
          refine vl_n ?_
          refine H_of_R (R_assign (v := t128) rfl ?_)
          refine vl_n ?_
          refine H_of_R (R_assign (v := t129) rfl ?_)
          refine vl_e ?_
          refine WPc_ret ?_
          refine resH_of rfl ?_
          exact H
        refine alt_n rfl ?_ vp_none
        have H := HA1; clear HA0 HA1
        refine H_mkSl TZ_185 (by decide) rfl H rfl fun t113_2 h ⟨S_13, H⟩ => ⟨(hskip rfl (hcons rfl (still_1 S_13 hat110) hnil)), ?_⟩
        refine alt_n rfl ?_ vp_none
        refine H_mkSl TZ_185 (by decide) rfl H rfl fun t111_2 h ⟨S_14, H⟩ => ⟨(hcons rfl (still_1 S_14 hat110) hnil), ?_⟩
        refine alt_n rfl ?_ vp_none
        refine H_app TZ_185 TU_185 H fun t114_2 h ⟨S_15, H⟩ => ⟨(hcons rfl (still_1 S_15 hat110) hnil), ?_⟩
        refine tkP rfl ?_
        refine R_nil H fun t115_2 H => ⟨fun _ => trivial, ?_⟩
        refine tkP rfl ?_
        refine R_fld TF_188_2 H fun t116_2 H => ⟨fun _ => trivial, ?_⟩
        refine alt_n rfl ?_ vp_none
        refine H_store1 TS_185 H fun h H => ⟨(hskip rfl hnil), ?_⟩
        refine vp_done ?_
        refine WPc_seq' ?_
        refine W_region (by kernel_rfl) ?_
        refine vl_n ?_
        refine H_of_R (R_move (v := (e 0)) rfl ?_)
        refine vl_n ?_
        refine H_of_R (R_nil H fun t118_2 H => ?_)
        refine vl_n ?_
        refine H_of_R (R_fld TF_182_2 H fun t119_2 H => ?_)
        refine vl_n ?_
        refine H_of_R (R_load1 T1_173 H fun _ t120_2 _ _ H => ?_)
        refine vl_n ?_
        refine H_call HB_115 H fun t121_2 h H => ?_
        refine vl_e ?_
        refine WPc_seq' ?_
        refine W_region (by kernel_rfl) ?_
        refine vl_n ?_
        refine H_of_R (R_move (v := (e 0)) rfl ?_)
        refine vl_n ?_
        refine H_of_R (R_fld TF_178_1 H fun t123_2 H => ?_)
        refine vl_n ?_
        refine H_of_R (R_load1 T1_3 H fun _ t124_2 _ _ H => ?_)
        refine vl_n ?_
        refine H_of_R (R_fld TF_178_0 H fun t125_2 H => ?_)
        refine vl_n ?_
        refine H_of_R (R_load1 T1_3 H fun _ t126_2 _ _ H => ?_)
        refine vl_n ?_
        refine H_call HB_59 H fun t127_2 h H => ?_
        refine vl_n ?_
        refine H_of_R (R_ext H fun t128_2 H => ?_)
        refine vl_n ?_
        refine H_of_R (R_ext H fun t129_2 H => ?_)
        refine vl_n ?_
        refine H_of_R (R_assign (v := t128_2) rfl ?_)
        refine vl_n ?_
        refine H_of_R (R_assign (v := t129_2) rfl ?_)
        refine vl_e ?_
        refine WPc_ret ?_
        refine resH_of rfl ?_
        exact H
      refine alt_n rfl ?_ vp_none
      have H := HA1; clear HA0 HA1
      refine H_mkSl TZ_194 (by decide) rfl H rfl fun t104_2 h ⟨S_16, S_17, H⟩ => ⟨(hcons rfl (still_1 S_17 hat100) (hcons rfl (still_1 S_16 hat97) hnil)), ?_⟩
      refine alt_n rfl ?_ vp_none
      refine H_mkSl TZ_194 (by decide) rfl H rfl fun t101_2 h ⟨S_18, S_19, H⟩ => ⟨(hcons rfl (still_1 S_19 hat100) (hcons rfl (still_1 S_18 hat97) hnil)), ?_⟩
      refine alt_n rfl ?_ vp_none
      refine H_app TZ_194 TU_194 H fun t105_2 h ⟨S_20, S_21, H⟩ => ⟨(hcons rfl (still_1 S_21 hat100) (hcons rfl (still_1 S_20 hat97) hnil)), ?_⟩
      refine tkP rfl ?_
      refine R_nil H fun t106_2 H => ⟨fun _ => trivial, ?_⟩
      refine alt_n rfl ?_ vp_none
      refine H_store1 TS_194 H fun h H => ⟨(hskip rfl (hskip rfl hnil)), ?_⟩
      refine vp_done ?_
      refine WPc_seq' ?_
      refine W_drawn [0, 1, 3, 7, 0, 0, 32, 112, 255, 511, 1023] (.take 0 (.take 1 (.take 2 (.take 3 (.take 5 (.alt 4 (.alt 6 (.alt 7 (.take 8 (.take 9 (.alt 10 .done .none))) .none) .none) (.alt 6 (.alt 4 (.alt 7 (.take 8 (.take 9 (.alt 10 .done .none))) .none) .none) .none))))))) mixed (by kernel_rfl) ?_
      refine tkP rfl ?_
      refine R_move (v := (e 0)) rfl ⟨fun _ => trivial, ?_⟩
      refine tkP rfl ?_
      refine R_nil H fun t108_2 H => ⟨fun _ => trivial, ?_⟩
      refine tkP rfl ?_
      refine R_fld TF_182_2 H fun t109_2 H => ⟨fun _ => trivial, ?_⟩
      refine tkL rfl ?_
      refine R_load1 T1_173 H fun at110_2 t110_2 hat110_2 _ H => ?_
      refine tkL rfl ?_
      refine R_loadN TN_178 H fun at112_2 xt112_2 hat112_2 _ H St112_2 hSt112_2 => ?_
      obtain ⟨HA0, HA1⟩ := H
      refine alt_n rfl ?_ ?_
      · have H := HA0; clear HA0 HA1
        refine H_mkSl TZ_185 (by decide) rfl H rfl fun t111_3 h ⟨S_22, S_23, H⟩ => ⟨(hcons rfl (hSt112_2 _ (still_N S_23 hat112_2 rfl)) (hcons rfl (still_1 S_22 hat110_2) hnil)), ?_⟩
        refine alt_n rfl ?_ vp_none
        refine H_mkSl TZ_185 (by decide) rfl H rfl fun t113_3 h ⟨S_24, H⟩ => ⟨(hskip rfl (hcons rfl (still_1 S_24 hat110_2) hnil)), ?_⟩
        refine alt_n rfl ?_ vp_none
        refine H_app TZ_185 TU_185 H fun t114_3 h ⟨S_25, H⟩ => ⟨(hcons rfl (still_1 S_25 hat110_2) hnil), ?_⟩
        refine tkP rfl ?_
        refine R_nil H fun t115_3 H => ⟨fun _ => trivial, ?_⟩
        refine tkP rfl ?_
        refine R_fld TF_188_2 H fun t116_3 H => ⟨fun _ => trivial, ?_⟩
        refine alt_n rfl ?_ vp_none
        refine H_store1 TS_185 H fun h H => ⟨(hskip rfl hnil), ?_⟩
        refine vp_done ?_
        refine WPc_seq' ?_
        refine W_region (by kernel_rfl) ?_
        refine vl_n ?_
        refine H_of_R (R_move (v := (e 0)) rfl ?_)
        refine vl_n ?_
        refine H_of_R (R_nil H fun t118_3 H => ?_)
        refine vl_n ?_
        refine H_of_R (R_fld TF_182_2 H fun t119_3 H => ?_)
        refine vl_n ?_
        refine H_of_R (R_load1 T1_173 H fun _ t120_3 _ _ H => ?_)
        refine vl_n ?_
        refine H_call HB_115 H fun t121_3 h H => ?_
        refine vl_e ?_
        refine WPc_seq' ?_
        refine W_region (by kernel_rfl) ?_
        refine vl_n ?_
        refine H_of_R (R_move (v := (e 0)) rfl ?_)
        refine vl_n ?_
        refine H_of_R (R_fld TF_178_1 H fun t123_3 H => ?_)
        refine vl_n ?_
        refine H_of_R (R_load1 T1_3 H fun _ t124_3 _ _ H => ?_)
        refine vl_n ?_
        refine H_of_R (R_fld TF_178_0 H fun t125_3 H => ?_)
        refine vl_n ?_
        refine H_of_R (R_load1 T1_3 H fun _ t126_3 _ _ H => ?_)
        refine vl_n ?_
        refine H_call HB_59 H fun t127_3 h H => ?_
        refine vl_n ?_
        refine H_of_R (R_ext H fun t128_3 H => ?_)
        refine vl_n ?_
        refine H_of_R (R_ext H fun t129_3 H => ?_)
        refine vl_n ?_
        refine H_of_R (R_assign (v := t128_3) rfl ?_)
        refine vl_n ?_
        refine H_of_R (R_assign (v := t129_3) rfl ?_)
        refine vl_e ?_
        refine WPc_ret ?_
        refine resH_of rfl ?_
        exact H
      refine alt_n rfl ?_ vp_none
      have H := HA1; clear HA0 HA1
      refine H_mkSl TZ_185 (by decide) rfl H rfl fun t113_4 h ⟨S_26, H⟩ => ⟨(hskip rfl (hcons rfl (still_1 S_26 hat110_2) hnil)), ?_⟩
      refine alt_n rfl ?_ vp_none
      refine H_mkSl TZ_185 (by decide) rfl H rfl fun t111_4 h ⟨S_27, H⟩ => ⟨(hcons rfl (still_1 S_27 hat110_2) hnil), ?_⟩
      refine alt_n rfl ?_ vp_none
      refine H_app TZ_185 TU_185 H fun t114_4 h ⟨S_28, H⟩ => ⟨(hcons rfl (still_1 S_28 hat110_2) hnil), ?_⟩
      refine tkP rfl ?_
      refine R_nil H fun t115_4 H => ⟨fun _ => trivial, ?_⟩
      refine tkP rfl ?_
      refine R_fld TF_188_2 H fun t116_4 H => ⟨fun _ => trivial, ?_⟩
      refine alt_n rfl ?_ vp_none
      refine H_store1 TS_185 H fun h H => ⟨(hskip rfl hnil), ?_⟩
      refine vp_done ?_
      refine WPc_seq' ?_
      refine W_region (by kernel_rfl) ?_
      refine vl_n ?_
      refine H_of_R (R_move (v := (e 0)) rfl ?_)
      refine vl_n ?_
      refine H_of_R (R_nil H fun t118_4 H => ?_)
      refine vl_n ?_
      refine H_of_R (R_fld TF_182_2 H fun t119_4 H => ?_)
      refine vl_n ?_
      refine H_of_R (R_load1 T1_173 H fun _ t120_4 _ _ H => ?_)
      refine vl_n ?_
      refine H_call HB_115 H fun t121_4 h H => ?_
      refine vl_e ?_
      refine WPc_seq' ?_
      refine W_region (by kernel_rfl) ?_
      refine vl_n ?_
      refine H_of_R (R_move (v := (e 0)) rfl ?_)
      refine vl_n ?_
      refine H_of_R (R_fld TF_178_1 H fun t123_4 H => ?_)
      refine vl_n ?_
      refine H_of_R (R_load1 T1_3 H fun _ t124_4 _ _ H => ?_)
      refine vl_n ?_
      refine H_of_R (R_fld TF_178_0 H fun t125_4 H => ?_)
      refine vl_n ?_
      refine H_of_R (R_load1 T1_3 H fun _ t126_4 _ _ H => ?_)
      refine vl_n ?_
      refine H_call HB_59 H fun t127_4 h H => ?_
      refine vl_n ?_
      refine H_of_R (R_ext H fun t128_4 H => ?_)
      refine vl_n ?_
      refine H_of_R (R_ext H fun t129_4 H => ?_)
      refine vl_n ?_
      refine H_of_R (R_assign (v := t128_4) rfl ?_)
      refine vl_n ?_
      refine H_of_R (R_assign (v := t129_4) rfl ?_)
      refine vl_e ?_
      refine WPc_ret ?_
      refine resH_of rfl ?_
      exact H
    · have H := H2 hh; clear H1 H2
      refine WPc_skip ?_
      exact H
  refine WPc_seq' ?_
  refine W_region (by kernel_rfl) ?_
  refine vl_n ?_
  refine H_of_R (R_move (v := a0) rfl ?_)
  refine vl_n ?_
  refine H_of_R (R_nil H fun t19 H => ?_)
  refine vl_n ?_
  refine H_of_R (R_fld TF_182_2 H fun t20 H => ?_)
  refine vl_n ?_
  refine H_of_R (R_load1 T1_173 H fun _ t21 _ _ H => ?_)
  refine vl_n ?_
  refine H_of_R (R_eqNilP Try.underlying173 rfl H fun t22 H => ?_)
  refine vl_e ?_
  obtain ⟨b, hc, H1, H2⟩ := H
  refine WPc_cond hc (fun hh => ?_) (fun hh => ?_)
  · have H := H1 hh; clear H1 H2
    refine WPc_seq' ?_
    refine W_region (by kernel_rfl) ?_
    refine vl_n ?_
    refine H_of_R (R_move (v := a0) rfl ?_)
    refine vl_n ?_
    refine H_call HB_111 H fun t24 h H => ?_
    refine vl_e ?_
    refine WPc_seq' ?_
    refine W_region (by kernel_rfl) ?_
    refine vl_n ?_
    refine H_of_R (R_move (v := a0) rfl ?_)
    refine vl_n ?_
    refine H_of_R (R_move (v := a0) rfl ?_)
    refine vl_n ?_
    refine H_call HB_112 H fun t27 h H => ?_
    refine vl_n ?_
    refine H_of_R (R_nil H fun t28 H => ?_)
    refine vl_n ?_
    refine H_of_R (R_fld TF_182_2 H fun t29 H => ?_)
    refine vl_n ?_
    refine H_store1 TS_173 H fun h H => ?_
    refine vl_e ?_
    refine WPc_seq' ?_
    refine W_drawn [0, 1, 3, 7, 0, 0, 32, 112, 255, 511, 1023] (.take 0 (.take 1 (.take 2 (.take 3 (.take 5 (.alt 4 (.alt 6 (.alt 7 (.take 8 (.take 9 (.alt 10 .done .none))) .none) .none) (.alt 6 (.alt 4 (.alt 7 (.take 8 (.take 9 (.alt 10 .done .none))) .none) .none) .none))))))) mixed (by kernel_rfl) ?_
    refine tkP rfl ?_
    refine R_move (v := a0) rfl ⟨fun _ => trivial, ?_⟩
    refine tkP rfl ?_
    refine R_nil H fun t31 H => ⟨fun _ => trivial, ?_⟩
    refine tkP rfl ?_
    refine R_fld TF_182_2 H fun t32 H => ⟨fun _ => trivial, ?_⟩
    refine tkL rfl ?_
    refine R_load1 T1_173 H fun at33 t33 hat33 _ H => ?_
    refine tkL rfl ?_
    refine R_loadN TN_178 H fun at35 xt35 hat35 _ H St35 hSt35 => ?_
    obtain ⟨HA0, HA1⟩ := H
    refine alt_n rfl ?_ ?_
    · have H := HA0; clear HA0 HA1
      refine H_mkSl TZ_185 (by decide) rfl H rfl fun t34 h ⟨S, S_2, H⟩ => ⟨(hcons rfl (hSt35 _ (still_N S_2 hat35 rfl)) (hcons rfl (still_1 S hat33) hnil)), ?_⟩
      refine alt_n rfl ?_ vp_none
      refine H_mkSl TZ_185 (by decide) rfl H rfl fun t36 h ⟨S_3, H⟩ => ⟨(hskip rfl (hcons rfl (still_1 S_3 hat33) hnil)), ?_⟩
      refine alt_n rfl ?_ vp_none
      refine H_app TZ_185 TU_185 H fun t37 h ⟨S_4, H⟩ => ⟨(hcons rfl (still_1 S_4 hat33) hnil), ?_⟩
      refine tkP rfl ?_
      refine R_nil H fun t38 H => ⟨fun _ => trivial, ?_⟩
      refine tkP rfl ?_
      refine R_fld TF_188_2 H fun t39 H => ⟨fun _ => trivial, ?_⟩
      refine alt_n rfl ?_ vp_none
      refine H_store1 TS_185 H fun h H => ⟨(hskip rfl hnil), ?_⟩
      refine vp_done ?_
      refine WPc_seq' ?_
      refine W_region (by kernel_rfl) ?_
      refine vl_n ?_
      refine H_of_R (R_move (v := a0) rfl ?_)
      refine vl_n ?_
      refine H_of_R (R_nil H fun t41 H => ?_)
      refine vl_n ?_
      refine H_of_R (R_fld TF_182_2 H fun t42 H => ?_)
      refine vl_n ?_
      refine H_of_R (R_load1 T1_173 H fun _ t43 _ _ H => ?_)
      refine vl_n ?_
      refine H_of_R (R_nil H fun t44 H => ?_)
      refine vl_n ?_
      refine H_of_R (R_fld TF_188_1 H fun t45 H => ?_)
      refine vl_n ?_
      refine H_store1 TS_3 H fun h H => ?_
      refine vl_e ?_
      refine WPc_seq' ?_
      refine W_region (by kernel_rfl) ?_
      refine vl_n ?_
      refine H_of_R (R_move (v := a0) rfl ?_)
      refine vl_n ?_
      refine H_of_R (R_nil H fun t47 H => ?_)
      refine vl_n ?_
      refine H_of_R (R_fld TF_182_3 H fun t48 H => ?_)
      refine vl_n ?_
      refine H_store1 TS_3 H fun h H => ?_
      refine vl_e ?_
      refine WPc_seq' ?_
      refine W_region (by kernel_rfl) ?_
      refine vl_n ?_
      refine H_of_R (R_move (v := a0) rfl ?_)
      refine vl_n ?_
      refine H_of_R (R_nil H fun t50 H => ?_)
      refine vl_n ?_
      refine H_of_R (R_fld TF_182_4 H fun t51 H => ?_)
      refine vl_n ?_
      refine H_of_R (R_fld TF_178_0 H fun t52 H => ?_)
      refine vl_n ?_
      refine H_of_R (R_load1 T1_3 H fun _ t53 _ _ H => ?_)
      refine vl_n ?_
      refine H_of_R (R_assign (v := t53) rfl ?_)
      refine vl_n ?_
      refine H_of_R (R_assign (v := (.bool false)) rfl ?_)
      refine vl_e ?_
      refine WPc_ret ?_
      refine resH_of rfl ?_
      exact H
    refine alt_n rfl ?_ vp_none
    have H := HA1; clear HA0 HA1
    refine H_mkSl TZ_185 (by decide) rfl H rfl fun t36_2 h ⟨S_5, H⟩ => ⟨(hskip rfl (hcons rfl (still_1 S_5 hat33) hnil)), ?_⟩
    refine alt_n rfl ?_ vp_none
    refine H_mkSl TZ_185 (by decide) rfl H rfl fun t34_2 h ⟨S_6, H⟩ => ⟨(hcons rfl (still_1 S_6 hat33) hnil), ?_⟩
    refine alt_n rfl ?_ vp_none
    refine H_app TZ_185 TU_185 H fun t37_2 h ⟨S_7, H⟩ => ⟨(hcons rfl (still_1 S_7 hat33) hnil), ?_⟩
    refine tkP rfl ?_
    refine R_nil H fun t38_2 H => ⟨fun _ => trivial, ?_⟩
    refine tkP rfl ?_
    refine R_fld TF_188_2 H fun t39_2 H => ⟨fun _ => trivial, ?_⟩
    refine alt_n rfl ?_ vp_none
    refine H_store1 TS_185 H fun h H => ⟨(hskip rfl hnil), ?_⟩
    refine vp_done ?_
    refine WPc_seq' ?_
    refine W_region (by kernel_rfl) ?_
    refine vl_n ?_
    refine H_of_R (R_move (v := a0) rfl ?_)
    refine vl_n ?_
    refine H_of_R (R_nil H fun t41_2 H => ?_)
    refine vl_n ?_
    refine H_of_R (R_fld TF_182_2 H fun t42_2 H => ?_)
    refine vl_n ?_
    refine H_of_R (R_load1 T1_173 H fun _ t43_2 _ _ H => ?_)
    refine vl_n ?_
    refine H_of_R (R_nil H fun t44_2 H => ?_)
    refine vl_n ?_
    refine H_of_R (R_fld TF_188_1 H fun t45_2 H => ?_)
    refine vl_n ?_
    refine H_store1 TS_3 H fun h H => ?_
    refine vl_e ?_
    refine WPc_seq' ?_
    refine W_region (by kernel_rfl) ?_
    refine vl_n ?_
    refine H_of_R (R_move (v := a0) rfl ?_)
    refine vl_n ?_
    refine H_of_R (R_nil H fun t47_2 H => ?_)
    refine vl_n ?_
    refine H_of_R (R_fld TF_182_3 H fun t48_2 H => ?_)
    refine vl_n ?_
    refine H_store1 TS_3 H fun h H => ?_
    refine vl_e ?_
    refine WPc_seq' ?_
    refine W_region (by kernel_rfl) ?_
    refine vl_n ?_
    refine H_of_R (R_move (v := a0) rfl ?_)
    refine vl_n ?_
    refine H_of_R (R_nil H fun t50_2 H => ?_)
    refine vl_n ?_
    refine H_of_R (R_fld TF_182_4 H fun t51_2 H => ?_)
    refine vl_n ?_
    refine H_of_R (R_fld TF_178_0 H fun t52_2 H => ?_)
    refine vl_n ?_
    refine H_of_R (R_load1 T1_3 H fun _ t53_2 _ _ H => ?_)
    refine vl_n ?_
    refine H_of_R (R_assign (v := t53_2) rfl ?_)
    refine vl_n ?_
    refine H_of_R (R_assign (v := (.bool false)) rfl ?_)
    refine vl_e ?_
    refine WPc_ret ?_
    refine resH_of rfl ?_
    exact H
  · have H := H2 hh; clear H1 H2
    refine WPc_skip ?_
    exact H

end Go.Proofs.Ytlihjljdndbpdaa
