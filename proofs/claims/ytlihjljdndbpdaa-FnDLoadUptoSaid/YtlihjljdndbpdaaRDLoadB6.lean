/-
  Texts of this claim, laid together: S14 S15 Mf S16 Dd KlIi Mb De Df S17 Dg LBulk.
  Conditions: as each of them tells.
-/
import Derived.Test.YtlihjljdndbpdaaRDLoadB5
import Derived.Test.YtlihjljdndbpdaaRows
import Derived.JoinedCond
section
namespace Go.Proofs.Ytlihjljdndbpdaa
open Go.Hp
set_option maxRecDepth 100000
set_option maxHeartbeats 8000000
set_option linter.unusedVariables false
set_option linter.unusedSimpArgs false

/-! ### spec.Put -/
def s_Put.j1 (s1 : Value) (s7 : Value) (s8 : Value) (s10 : Value) (h : Heap) (Q : Value → Heap → Prop) : Prop :=
    slc 2 s1 (some s8) none none fun t42 =>
    app 27 2 16 [(.int .i64 0), (.int .i64 0)] s10 t42 h fun t43 h =>
    buildV [(.int .i64 0), (.int .i64 0), (.bool false)] [] fun t44 =>
    storeN 3 s7 t44 h fun h =>
    loadN 3 s7 h fun r7 =>
    Q (.tuple #[t43, r7]) h
def s_Put.sh (a0 : Value) (a1 : Value) (a2 : Value) (h : Heap) (Q : Value → Heap → Prop) : Prop :=
    box 27 a2 h fun t5 h =>
    alloc [(.int .i64 0), (.int .i64 0), (.bool false)] 32 h fun t7 h =>
    loadN 2 t5 h fun t14 =>
    s_Place.call #[a0, a1, t14] h fun t15 h =>
    extr 0 t15 fun t16 =>
    extr 1 t15 fun t17 =>
    mkSl (if 0 * 2 = 0 then [] else zeros [(.int .i64 0), (.int .i64 0)] 0) 0 [] 27 h fun t18 h =>
    slc 2 a1 none (some t16) none fun t21 =>
    app 27 2 16 [(.int .i64 0), (.int .i64 0)] t18 t21 h fun t22 h =>
    loadN 2 t5 h fun t24 =>
    mkSl (if 1 * 2 = 0 then [] else zeros [(.int .i64 0), (.int .i64 0)] 1) 1 [(0 * 2, 2, t24)] 27 h fun t25 h =>
    app 27 2 16 [(.int .i64 0), (.int .i64 0)] t22 t25 h fun t26 h =>
    ifV t17
    (arith (· + ·) t16 (.int .i64 1) fun t31 =>
    slc 2 a1 (some t31) none none fun t32 =>
    idx 2 a1 t16 fun t36 =>
    loadN 2 t36 h fun t37 =>
    buildV [(.int .i64 0), (.int .i64 0), (.bool false)] [(0, 2, t37), (2, 1, (.bool true))] fun t38 =>
    app 27 2 16 [(.int .i64 0), (.int .i64 0)] t26 t32 h fun t33 h =>
    stillN 2 t36 t37 h ∧ storeN 3 t7 t38 h fun h =>
    loadN 3 t7 h fun r7 =>
    Q (.tuple #[t33, r7]) h)
    (s_Put.j1 a1 t7 t16 t26 h Q)
theorem s_Put.body (a0 : Value) (a1 : Value) (a2 : Value) (h : Heap) (Q : Value → Heap → Prop) (H : s_Put.sh a0 a1 a2 h Q) : s_Put.call #[a0, a1, a2] h Q := by
  refine callsH_of (args := [a0, a1, a2]) Try.func18 rfl rfl ?_
  unfold s_Put.sh at H
  refine WPc_seq' ?_
  refine W_region (by kernel_rfl) ?_
  refine vl_n ?_
  refine H_box H fun t5 h H => ?_
  refine vl_n ?_
  refine H_of_R (R_assign (v := (.slice none 0 0)) rfl ?_)
  refine vl_n ?_
  refine H_alloc TV_32 H fun t7 h H => ?_
  refine vl_e ?_
  refine WPc_seq' ?_
  refine W_region (by kernel_rfl) ?_
  refine vl_n ?_
  refine H_of_R (R_move (v := a0) rfl ?_)
  refine vl_n ?_
  refine H_of_R (R_move (v := a1) rfl ?_)
  refine vl_n ?_
  refine H_of_R (R_loadN TN_27 H fun _ t14 _ _ H _ _ => ?_)
  refine vl_n ?_
  refine H_call HB_67 H fun t15 h H => ?_
  refine vl_n ?_
  refine H_of_R (R_move (v := t15) rfl ?_)
  refine vl_n ?_
  refine H_of_R (R_ext H fun t16 H => ?_)
  refine vl_n ?_
  refine H_of_R (R_ext H fun t17 H => ?_)
  refine vl_n ?_
  refine H_of_R (R_assign (v := t16) rfl ?_)
  refine vl_n ?_
  refine H_of_R (R_assign (v := t17) rfl ?_)
  refine vl_e ?_
  refine WPc_seq' ?_
  refine W_region (by kernel_rfl) ?_
  refine vl_n ?_
  refine H_mkSl TZ_22 (by decide) rfl H rfl fun t18 h H => ?_
  refine vl_n ?_
  refine H_of_R (R_move (v := a1) rfl ?_)
  refine vl_n ?_
  refine H_of_R (R_move (v := t16) rfl ?_)
  refine vl_n ?_
  refine H_of_R (R_slice TE_22 (by decide) H fun t21 H => ?_)
  refine vl_n ?_
  refine H_app TZ_22 TU_22 H fun t22 h H => ?_
  refine vl_n ?_
  refine H_of_R (R_assign (v := t22) rfl ?_)
  refine vl_e ?_
  refine WPc_seq' ?_
  refine W_region (by kernel_rfl) ?_
  refine vl_n ?_
  refine H_of_R (R_move (v := t22) rfl ?_)
  refine vl_n ?_
  refine H_of_R (R_loadN TN_27 H fun _ t24 _ _ H _ _ => ?_)
  refine vl_n ?_
  refine H_mkSl TZ_22 (by decide) rfl H rfl fun t25 h H => ?_
  refine vl_n ?_
  refine H_app TZ_22 TU_22 H fun t26 h H => ?_
  refine vl_n ?_
  refine H_of_R (R_assign (v := t26) rfl ?_)
  refine vl_e ?_
  refine WPc_seq (fun e h => s_Put.j1 (e 1) (e 7) (e 8) (e 10) h Q) ?_ (fun e h H => ?_)
  rotate_left
  · unfold s_Put.j1 at H
    refine WPc_seq' ?_
    refine W_region (by kernel_rfl) ?_
    refine vl_n ?_
    refine H_of_R (R_move (v := (e 10)) rfl ?_)
    refine vl_n ?_
    refine H_of_R (R_move (v := (e 1)) rfl ?_)
    refine vl_n ?_
    refine H_of_R (R_move (v := (e 8)) rfl ?_)
    refine vl_n ?_
    refine H_of_R (R_slice TE_22 (by decide) H fun t42 H => ?_)
    refine vl_n ?_
    refine H_app TZ_22 TU_22 H fun t43 h H => ?_
    refine vl_n ?_
    refine H_of_R (R_build TB_32 rfl (by decide) H fun t44 H => ?_)
    refine vl_n ?_
    refine H_of_R (R_assign (v := t43) rfl ?_)
    refine vl_n ?_
    refine H_storeN TS_32 H fun h H => ?_
    refine vl_e ?_
    refine WPc_ret ?_
    refine resH_of rfl ?_
    refine resL_t ?_
    refine resL_N TN_32 ?_
    refine loadN_imp H fun r7 H => ?_
    exact H
  refine WPc_seq' ?_
  refine W_region (by kernel_rfl) ?_
  refine vl_n ?_
  refine H_of_R (R_move (v := t17) rfl ?_)
  refine vl_e ?_
  obtain ⟨b, hc, H1, H2⟩ := H
  refine WPc_cond hc (fun hh => ?_) (fun hh => ?_)
  · have H := H1 hh; clear H1 H2
    refine WPc_seq' ?_
    refine W_drawn [0, 0, 0, 4, 14, 31, 0, 0, 192, 448, 960, 63, 4095] (.take 0 (.take 1 (.take 2 (.take 3 (.take 4 (.take 6 (.take 7 (.take 8 (.take 9 (.take 10 (.alt 5 (.take 11 (.alt 12 .done .none)) .none))))))))))) mixed (by kernel_rfl) ?_
    refine tkP rfl ?_
    refine R_move (v := t26) rfl ⟨fun _ => trivial, ?_⟩
    refine tkP rfl ?_
    refine R_move (v := a1) rfl ⟨fun _ => trivial, ?_⟩
    refine tkP rfl ?_
    refine R_move (v := t16) rfl ⟨fun _ => trivial, ?_⟩
    refine tkP rfl ?_
    refine R_add H fun t31 H => ⟨fun _ => trivial, ?_⟩
    refine tkP rfl ?_
    refine R_slice TE_22 (by decide) H fun t32 H => ⟨fun _ => trivial, ?_⟩
    refine tkP rfl ?_
    refine R_move (v := a1) rfl ⟨fun _ => trivial, ?_⟩
    refine tkP rfl ?_
    refine R_move (v := t16) rfl ⟨fun _ => trivial, ?_⟩
    refine tkP rfl ?_
    refine R_idx TE_22 H fun t36 H => ⟨fun _ => trivial, ?_⟩
    refine tkL rfl ?_
    refine R_loadN TN_27 H fun at37 xt37 hat37 _ H St37 hSt37 => ?_
    refine tkP rfl ?_
    refine R_build TB_32 rfl (by decide) H fun t38 H => ⟨fun _ => trivial, ?_⟩
    refine alt_n rfl ?_ vp_none
    refine H_app TZ_22 TU_22 H fun t33 h ⟨S, H⟩ => ⟨(hcons rfl (hSt37 _ (still_N S hat37 rfl)) hnil), ?_⟩
    refine tkP rfl ?_
    refine R_assign (v := t33) rfl ⟨fun _ => trivial, ?_⟩
    refine alt_n rfl ?_ vp_none
    refine H_storeN TS_32 H fun h H => ⟨(hskip rfl hnil), ?_⟩
    refine vp_done ?_
    refine WPc_ret ?_
    refine resH_of rfl ?_
    refine resL_t ?_
    refine resL_N TN_32 ?_
    refine loadN_imp H fun r7 H => ?_
    exact H
  · have H := H2 hh; clear H1 H2
    refine WPc_skip ?_
    exact H

end Go.Proofs.Ytlihjljdndbpdaa
end
section
namespace Go.Proofs.Ytlihjljdndbpdaa
open Go.Hp
set_option maxRecDepth 100000
set_option maxHeartbeats 8000000
set_option linter.unusedVariables false
set_option linter.unusedSimpArgs false

/-! ### (*pub/tidwallbtree.Map[int, int]).Load -/
def Map_ii_Load.j3 (s0 : Value) (s8 : Value) (h : Heap) (Q : Value → Heap → Prop) : Prop :=
    fld 1 s8 fun t135 =>
    load1 t135 h fun t136 =>
    fld 0 s8 fun t137 =>
    load1 t137 h fun t138 =>
    Map_ii_Set.call #[s0, t136, t138] h fun t139 h =>
    extr 0 t139 fun t140 =>
    extr 1 t139 fun t141 =>
    Q (.tuple #[t140, t141]) h
def Map_ii_Load.j5 (s0 : Value) (s8 : Value) (s9 : Value) (h : Heap) (K1 : List Value → Heap → Prop) (Q : Value → Heap → Prop) : Prop :=
    nilck s9 fun t119 =>
    fld 3 t119 fun t120 =>
    load1 t120 h fun t121 =>
    nilck t121 fun t122 =>
    load1 t122 h fun t123 =>
    nilck s9 fun t125 =>
    fld 3 t125 fun t126 =>
    load1 t126 h fun t127 =>
    nilck t127 fun t128 =>
    load1 t128 h fun t129 =>
    lenV t129 fun t130 =>
    arith (· - ·) t130 (.int .i64 1) fun t131 =>
    idx 1 t123 t131 fun t132 =>
    load1 t132 h fun t133 =>
    K1 [t133] h
def Map_ii_Load.l4.b (c0 : Value) (c8 : Value) (s9 : Value) (h : Heap) (K1 : List Value → Heap → Prop) (Q : Value → Heap → Prop) : Prop :=
    nilck s9 fun t110 =>
    fld 1 t110 fun t111 =>
    load1 t111 h fun t112 =>
    arith (· - ·) t112 (.int .i64 1) fun t113 =>
    nilck s9 fun t114 =>
    fld 1 t114 fun t115 =>
    store1 t115 t113 h fun h =>
    mapNode_ii_leaf.call #[s9] h fun t117 h =>
    ifV t117
    (Map_ii_Load.j3 c0 c8 h Q)
    (Map_ii_Load.j5 c0 c8 s9 h K1 Q)
def Map_ii_Load.j2 (s0 : Value) (s8 : Value) (h : Heap) (Q : Value → Heap → Prop) : Prop :=
    nilck s0 fun t106 =>
    fld 2 t106 fun t107 =>
    load1 t107 h fun t108 =>
    loopC (fun c s h K1 => Map_ii_Load.l4.b (c.getD 0 undef) (c.getD 1 undef) (s.getD 0 undef) h K1 Q) [s0, s8] [t108] h
def Map_ii_Load.j7 (s0 : Value) (s8 : Value) (s9 : Value) (h : Heap) (K1 : List Value → Heap → Prop) (Q : Value → Heap → Prop) : Prop :=
    nilck s9 fun t90 =>
    fld 3 t90 fun t91 =>
    load1 t91 h fun t92 =>
    nilck t92 fun t93 =>
    load1 t93 h fun t94 =>
    nilck s9 fun t96 =>
    fld 3 t96 fun t97 =>
    load1 t97 h fun t98 =>
    nilck t98 fun t99 =>
    load1 t99 h fun t100 =>
    lenV t100 fun t101 =>
    arith (· - ·) t101 (.int .i64 1) fun t102 =>
    idx 1 t94 t102 fun t103 =>
    Map_ii_isoLoad.call #[s0, t103, (.bool true)] h fun t104 h =>
    K1 [t104] h
def Map_ii_Load.j8 (s0 : Value) (s8 : Value) (h : Heap) (K1 : List Value → Heap → Prop) (Q : Value → Heap → Prop) : Prop :=
    Map_ii_Load.j2 s0 s8 h Q
def Map_ii_Load.l6.b (c0 : Value) (c8 : Value) (s9 : Value) (h : Heap) (K1 : List Value → Heap → Prop) (Q : Value → Heap → Prop) : Prop :=
    nilck s9 fun t32 =>
    fld 1 t32 fun t33 =>
    load1 t33 h fun t34 =>
    arith (· + ·) t34 (.int .i64 1) fun t35 =>
    nilck s9 fun t36 =>
    fld 1 t36 fun t37 =>
    store1 t37 t35 h fun h =>
    mapNode_ii_leaf.call #[s9] h fun t39 h =>
    ifV t39
    (nilck s9 fun t41 =>
    fld 2 t41 fun t42 =>
    load1 t42 h fun t43 =>
    lenV t43 fun t44 =>
    nilck c0 fun t46 =>
    fld 7 t46 fun t47 =>
    load1 t47 h fun t48 =>
    cmpI (fun a b => decide (a < b)) t44 t48 fun t49 =>
    ifV t49
    (nilck s9 fun t51 =>
    fld 2 t51 fun t52 =>
    load1 t52 h fun t53 =>
    nilck s9 fun t55 =>
    fld 2 t55 fun t56 =>
    load1 t56 h fun t57 =>
    lenV t57 fun t58 =>
    arith (· - ·) t58 (.int .i64 1) fun t59 =>
    idx 2 t53 t59 fun t60 =>
    fld 1 t60 fun t61 =>
    load1 t61 h fun t62 =>
    fld 1 c8 fun t63 =>
    load1 t63 h fun t64 =>
    cmpI (fun a b => decide (a < b)) t62 t64 fun t65 =>
    ifV t65
    (nilck s9 fun t68 =>
    fld 2 t68 fun t69 =>
    load1 t69 h fun t70 =>
    loadN 2 c8 h fun t71 =>
    mkSl (if 1 * 2 = 0 then [] else zeros [(.int .i64 0), (.int .i64 0)] 1) 1 [(0 * 2, 2, t71)] 178 h fun t72 h =>
    still1 t69 t70 h ∧ app 178 2 16 [(.int .i64 0), (.int .i64 0)] t70 t72 h fun t73 h =>
    nilck s9 fun t74 =>
    fld 2 t74 fun t75 =>
    store1 t75 t73 h fun h =>
    nilck c0 fun t77 =>
    fld 3 t77 fun t78 =>
    load1 t78 h fun t79 =>
    arith (· + ·) t79 (.int .i64 1) fun t80 =>
    nilck c0 fun t81 =>
    fld 3 t81 fun t82 =>
    store1 t82 t80 h fun h =>
    nilck c0 fun t84 =>
    fld 4 t84 fun t85 =>
    fld 0 t85 fun t86 =>
    load1 t86 h fun t87 =>
    Q (.tuple #[t87, (.bool false)]) h)
    (Map_ii_Load.j8 c0 c8 h K1 Q))
    (Map_ii_Load.j8 c0 c8 h K1 Q))
    (Map_ii_Load.j7 c0 c8 s9 h K1 Q)
def Map_ii_Load.j1 (s0 : Value) (s8 : Value) (h : Heap) (Q : Value → Heap → Prop) : Prop :=
    nilck s0 fun t28 =>
    fld 2 t28 fun t29 =>
    Map_ii_isoLoad.call #[s0, t29, (.bool true)] h fun t30 h =>
    loopC (fun c s h K1 => Map_ii_Load.l6.b (c.getD 0 undef) (c.getD 1 undef) (s.getD 0 undef) h K1 Q) [s0, s8] [t30] h
def Map_ii_Load.sh (a0 : Value) (a1 : Value) (a2 : Value) (h : Heap) (Q : Value → Heap → Prop) : Prop :=
    buildV [(.int .i64 0), (.int .i64 0)] [(1, 1, a1), (0, 1, a2)] fun t12 =>
    alloc [(.int .i64 0), (.int .i64 0)] 178 h fun t8 h =>
    storeN 2 t8 t12 h fun h =>
    nilck a0 fun t14 =>
    fld 2 t14 fun t15 =>
    load1 t15 h fun t16 =>
    eqNilP t16 fun t17 =>
    ifV t17
    (fld 1 t8 fun t19 =>
    load1 t19 h fun t20 =>
    fld 0 t8 fun t21 =>
    load1 t21 h fun t22 =>
    Map_ii_Set.call #[a0, t20, t22] h fun t23 h =>
    extr 0 t23 fun t24 =>
    extr 1 t23 fun t25 =>
    Q (.tuple #[t24, t25]) h)
    (Map_ii_Load.j1 a0 t8 h Q)
theorem Map_ii_Load.body (a0 : Value) (a1 : Value) (a2 : Value) (h : Heap) (Q : Value → Heap → Prop) (H : Map_ii_Load.sh a0 a1 a2 h Q) : Map_ii_Load.call #[a0, a1, a2] h Q := by
  refine callsH_of (args := [a0, a1, a2]) Try.func68 rfl rfl ?_
  unfold Map_ii_Load.sh at H
  refine WPc_seq' ?_
  refine W_region (by kernel_rfl) ?_
  refine vl_n ?_
  refine H_of_R (R_assign (v := (.int .i64 0)) rfl ?_)
  refine vl_n ?_
  refine H_of_R (R_assign (v := (.bool false)) rfl ?_)
  refine vl_e ?_
  refine WPc_seq' ?_
  refine W_region (by kernel_rfl) ?_
  refine vl_n ?_
  refine H_of_R (R_move (v := a1) rfl ?_)
  refine vl_n ?_
  refine H_of_R (R_move (v := a2) rfl ?_)
  refine vl_n ?_
  refine H_of_R (R_build TB_178 rfl (by decide) H fun t12 H => ?_)
  refine vl_n ?_
  refine H_alloc TV_178 H fun t8 h H => ?_
  refine vl_n ?_
  refine H_storeN TS_178 H fun h H => ?_
  refine vl_e ?_
  refine WPc_seq (fun e h => Map_ii_Load.j1 (e 0) (e 8) h Q) ?_ (fun e h H => ?_)
  rotate_left
  · unfold Map_ii_Load.j1 at H
    refine WPc_seq' ?_
    refine W_region (by kernel_rfl) ?_
    refine vl_n ?_
    refine H_of_R (R_move (v := (e 0)) rfl ?_)
    refine vl_n ?_
    refine H_of_R (R_move (v := (e 0)) rfl ?_)
    refine vl_n ?_
    refine H_of_R (R_nil H fun t28 H => ?_)
    refine vl_n ?_
    refine H_of_R (R_fld TF_182_2 H fun t29 H => ?_)
    refine vl_n ?_
    refine H_call HB_125 H fun t30 h H => ?_
    refine vl_n ?_
    refine H_of_R (R_assign (v := t30) rfl ?_)
    refine vl_e ?_
    refine WPc_seq (fun e h => Map_ii_Load.j2 (e 0) (e 8) h Q) ?_ (fun e h H => ?_)
    rotate_left
    · unfold Map_ii_Load.j2 at H
      refine WPc_seq' ?_
      refine W_region (by kernel_rfl) ?_
      refine vl_n ?_
      refine H_of_R (R_move (v := (e 0)) rfl ?_)
      refine vl_n ?_
      refine H_of_R (R_nil H fun t106 H => ?_)
      refine vl_n ?_
      refine H_of_R (R_fld TF_182_2 H fun t107 H => ?_)
      refine vl_n ?_
      refine H_of_R (R_load1 T1_173 H fun _ t108 _ _ H => ?_)
      refine vl_n ?_
      refine H_of_R (R_assign (v := t108) rfl ?_)
      refine vl_e ?_
      refine WPc_seq (fun e h => Map_ii_Load.j3 (e 0) (e 8) h Q) ?_ (fun e h H => ?_)
      rotate_left
      · unfold Map_ii_Load.j3 at H
        refine WPc_seq' ?_
        refine W_region (by kernel_rfl) ?_
        refine vl_n ?_
        refine H_of_R (R_move (v := (e 0)) rfl ?_)
        refine vl_n ?_
        refine H_of_R (R_fld TF_178_1 H fun t135 H => ?_)
        refine vl_n ?_
        refine H_of_R (R_load1 T1_3 H fun _ t136 _ _ H => ?_)
        refine vl_n ?_
        refine H_of_R (R_fld TF_178_0 H fun t137 H => ?_)
        refine vl_n ?_
        refine H_of_R (R_load1 T1_3 H fun _ t138 _ _ H => ?_)
        refine vl_n ?_
        refine H_call HB_59 H fun t139 h H => ?_
        refine vl_n ?_
        refine H_of_R (R_ext H fun t140 H => ?_)
        refine vl_n ?_
        refine H_of_R (R_ext H fun t141 H => ?_)
        refine vl_n ?_
        refine H_of_R (R_assign (v := t140) rfl ?_)
        refine vl_n ?_
        refine H_of_R (R_assign (v := t141) rfl ?_)
        refine vl_e ?_
        refine WPc_ret ?_
        refine resH_of rfl ?_
        exact H
      refine WPc_block ?_
      refine loop_at (fun e => [e 9]) (fun e => [e 0, e 8]) H rfl rfl ?_
      intro K1 e1 h H hin1
      replace H : Map_ii_Load.l4.b (e1 0) (e1 8) (e1 9) h K1 Q := H
      unfold Map_ii_Load.l4.b at H
      clear hin1
      refine WPc_block ?_
      refine WPc_seq' ?_
      refine W_region (by kernel_rfl) ?_
      refine vl_n ?_
      refine H_of_R (R_move (v := (e1 9)) rfl ?_)
      refine vl_n ?_
      refine H_of_R (R_nil H fun t110 H => ?_)
      refine vl_n ?_
      refine H_of_R (R_fld TF_188_1 H fun t111 H => ?_)
      refine vl_n ?_
      refine H_of_R (R_load1 T1_3 H fun _ t112 _ _ H => ?_)
      refine vl_n ?_
      refine H_of_R (R_sub H fun t113 H => ?_)
      refine vl_n ?_
      refine H_of_R (R_nil H fun t114 H => ?_)
      refine vl_n ?_
      refine H_of_R (R_fld TF_188_1 H fun t115 H => ?_)
      refine vl_n ?_
      refine H_store1 TS_3 H fun h H => ?_
      refine vl_e ?_
      refine WPc_seq (fun e h => Map_ii_Load.j5 (e 0) (e 8) (e 9) h K1 Q ∧ [e1 0, e1 8] = [e 0, e 8]) ?_ (fun e h ⟨H, hq1⟩ => ?_)
      rotate_left
      · unfold Map_ii_Load.j5 at H
        refine W_drawn [0, 1, 3, 7, 15, 31, 0, 64, 192, 448, 960, 1984, 4032, 8128, 16383, 32767, 65535] (.take 0 (.take 1 (.take 2 (.take 3 (.take 4 (.take 5 (.take 6 (.take 7 (.take 8 (.take 9 (.take 10 (.take 11 (.take 12 (.take 13 (.take 14 (.take 15 (.take 16 .done))))))))))))))))) mixed (by kernel_rfl) ?_
        refine tkP rfl ?_
        refine R_move (v := (e 9)) rfl ⟨fun _ => trivial, ?_⟩
        refine tkP rfl ?_
        refine R_nil H fun t119 H => ⟨fun _ => trivial, ?_⟩
        refine tkP rfl ?_
        refine R_fld TF_188_3 H fun t120 H => ⟨fun _ => trivial, ?_⟩
        refine tkL rfl ?_
        refine R_load1 T1_186 H fun at121 t121 hat121 _ H => ?_
        refine tkP rfl ?_
        refine R_nil H fun t122 H => ⟨fun _ => trivial, ?_⟩
        refine tkL rfl ?_
        refine R_load1 T1_194 H fun at123 t123 hat123 _ H => ?_
        refine tkP rfl ?_
        refine R_move (v := (e 9)) rfl ⟨fun _ => trivial, ?_⟩
        refine tkP rfl ?_
        refine R_nil H fun t125 H => ⟨fun _ => trivial, ?_⟩
        refine tkP rfl ?_
        refine R_fld TF_188_3 H fun t126 H => ⟨fun _ => trivial, ?_⟩
        refine tkL rfl ?_
        refine R_load1 T1_186 H fun at127 t127 hat127 _ H => ?_
        refine tkP rfl ?_
        refine R_nil H fun t128 H => ⟨fun _ => trivial, ?_⟩
        refine tkL rfl ?_
        refine R_load1 T1_194 H fun at129 t129 hat129 _ H => ?_
        refine tkP rfl ?_
        refine R_len Try.underlying194 H fun t130 H => ⟨fun _ => trivial, ?_⟩
        refine tkP rfl ?_
        refine R_sub H fun t131 H => ⟨fun _ => trivial, ?_⟩
        refine tkP rfl ?_
        refine R_idx TE_194 H fun t132 H => ⟨fun _ => trivial, ?_⟩
        refine tkL rfl ?_
        refine R_load1 T1_173 H fun at133 t133 hat133 _ H => ?_
        refine tkP rfl ?_
        refine R_assign (v := t133) rfl ⟨fun _ => trivial, ?_⟩
        refine vp_done ?_
        exact ⟨H, hq1⟩
      refine WPc_seq' ?_
      refine W_region (by kernel_rfl) ?_
      refine vl_n ?_
      refine H_of_R (R_move (v := (e1 9)) rfl ?_)
      refine vl_n ?_
      refine H_call HB_126 H fun t117 h H => ?_
      refine vl_e ?_
      obtain ⟨b, hc, H1, H2⟩ := H
      refine WPc_cond hc (fun hh => ?_) (fun hh => ?_)
      · have H := H1 hh; clear H1 H2
        refine WPc_exit ?_
        exact H
      · have H := H2 hh; clear H1 H2
        refine WPc_skip ?_
        exact ⟨H, rfl⟩
    refine WPc_block ?_
    refine loop_at (fun e => [e 9]) (fun e => [e 0, e 8]) H rfl rfl ?_
    intro K1 e1 h H hin1
    replace H : Map_ii_Load.l6.b (e1 0) (e1 8) (e1 9) h K1 Q := H
    unfold Map_ii_Load.l6.b at H
    clear hin1
    refine WPc_block ?_
    refine WPc_seq' ?_
    refine W_region (by kernel_rfl) ?_
    refine vl_n ?_
    refine H_of_R (R_move (v := (e1 9)) rfl ?_)
    refine vl_n ?_
    refine H_of_R (R_nil H fun t32 H => ?_)
    refine vl_n ?_
    refine H_of_R (R_fld TF_188_1 H fun t33 H => ?_)
    refine vl_n ?_
    refine H_of_R (R_load1 T1_3 H fun _ t34 _ _ H => ?_)
    refine vl_n ?_
    refine H_of_R (R_add H fun t35 H => ?_)
    refine vl_n ?_
    refine H_of_R (R_nil H fun t36 H => ?_)
    refine vl_n ?_
    refine H_of_R (R_fld TF_188_1 H fun t37 H => ?_)
    refine vl_n ?_
    refine H_store1 TS_3 H fun h H => ?_
    refine vl_e ?_
    refine WPc_seq (fun e h => Map_ii_Load.j7 (e 0) (e 8) (e 9) h K1 Q ∧ [e1 0, e1 8] = [e 0, e 8]) ?_ (fun e h ⟨H, hq1⟩ => ?_)
    rotate_left
    · unfold Map_ii_Load.j7 at H
      refine W_drawn [0, 0, 2, 6, 14, 30, 62, 0, 128, 384, 896, 1920, 3968, 8064, 16256, 32766, 65535, 131071] (.take 0 (.take 1 (.take 2 (.take 3 (.take 4 (.take 5 (.take 6 (.take 7 (.take 8 (.take 9 (.take 10 (.take 11 (.take 12 (.take 13 (.take 14 (.take 15 (.alt 16 (.take 17 .done) .none))))))))))))))))) mixed (by kernel_rfl) ?_
      refine tkP rfl ?_
      refine R_move (v := (e 0)) rfl ⟨fun _ => trivial, ?_⟩
      refine tkP rfl ?_
      refine R_move (v := (e 9)) rfl ⟨fun _ => trivial, ?_⟩
      refine tkP rfl ?_
      refine R_nil H fun t90 H => ⟨fun _ => trivial, ?_⟩
      refine tkP rfl ?_
      refine R_fld TF_188_3 H fun t91 H => ⟨fun _ => trivial, ?_⟩
      refine tkL rfl ?_
      refine R_load1 T1_186 H fun at92 t92 hat92 _ H => ?_
      refine tkP rfl ?_
      refine R_nil H fun t93 H => ⟨fun _ => trivial, ?_⟩
      refine tkL rfl ?_
      refine R_load1 T1_194 H fun at94 t94 hat94 _ H => ?_
      refine tkP rfl ?_
      refine R_move (v := (e 9)) rfl ⟨fun _ => trivial, ?_⟩
      refine tkP rfl ?_
      refine R_nil H fun t96 H => ⟨fun _ => trivial, ?_⟩
      refine tkP rfl ?_
      refine R_fld TF_188_3 H fun t97 H => ⟨fun _ => trivial, ?_⟩
      refine tkL rfl ?_
      refine R_load1 T1_186 H fun at98 t98 hat98 _ H => ?_
      refine tkP rfl ?_
      refine R_nil H fun t99 H => ⟨fun _ => trivial, ?_⟩
      refine tkL rfl ?_
      refine R_load1 T1_194 H fun at100 t100 hat100 _ H => ?_
      refine tkP rfl ?_
      refine R_len Try.underlying194 H fun t101 H => ⟨fun _ => trivial, ?_⟩
      refine tkP rfl ?_
      refine R_sub H fun t102 H => ⟨fun _ => trivial, ?_⟩
      refine tkP rfl ?_
      refine R_idx TE_194 H fun t103 H => ⟨fun _ => trivial, ?_⟩
      refine alt_n rfl ?_ vp_none
      refine H_call HB_125 H fun t104 h H => ⟨(hskip rfl (hskip rfl (hskip rfl (hskip rfl hnil)))), ?_⟩
      refine tkP rfl ?_
      refine R_assign (v := t104) rfl ⟨fun _ => trivial, ?_⟩
      refine vp_done ?_
      exact ⟨H, hq1⟩
    refine WPc_seq' ?_
    refine W_region (by kernel_rfl) ?_
    refine vl_n ?_
    refine H_of_R (R_move (v := (e1 9)) rfl ?_)
    refine vl_n ?_
    refine H_call HB_126 H fun t39 h H => ?_
    refine vl_e ?_
    obtain ⟨b, hc, H1, H2⟩ := H
    refine WPc_cond hc (fun hh => ?_) (fun hh => ?_)
    · have H := H1 hh; clear H1 H2
      refine WPc_seq (fun e h => Map_ii_Load.j8 (e 0) (e 8) h K1 Q ∧ [e1 0, e1 8] = [e 0, e 8]) ?_ (fun e h ⟨H, hq1⟩ => ?_)
      rotate_left
      · unfold Map_ii_Load.j8 at H
        refine WPc_exit ?_
        exact H
      refine WPc_seq' ?_
      refine W_drawn [0, 1, 3, 7, 15, 0, 32, 96, 224, 511] (.take 0 (.take 1 (.take 2 (.take 3 (.take 4 (.take 5 (.take 6 (.take 7 (.take 8 (.take 9 .done)))))))))) mixed (by kernel_rfl) ?_
      refine tkP rfl ?_
      refine R_move (v := (e1 9)) rfl ⟨fun _ => trivial, ?_⟩
      refine tkP rfl ?_
      refine R_nil H fun t41 H => ⟨fun _ => trivial, ?_⟩
      refine tkP rfl ?_
      refine R_fld TF_188_2 H fun t42 H => ⟨fun _ => trivial, ?_⟩
      refine tkL rfl ?_
      refine R_load1 T1_185 H fun at43 t43 hat43 _ H => ?_
      refine tkP rfl ?_
      refine R_len Try.underlying185 H fun t44 H => ⟨fun _ => trivial, ?_⟩
      refine tkP rfl ?_
      refine R_move (v := (e1 0)) rfl ⟨fun _ => trivial, ?_⟩
      refine tkP rfl ?_
      refine R_nil H fun t46 H => ⟨fun _ => trivial, ?_⟩
      refine tkP rfl ?_
      refine R_fld TF_182_6 H fun t47 H => ⟨fun _ => trivial, ?_⟩
      refine tkL rfl ?_
      refine R_load1 T1_3 H fun at48 t48 hat48 _ H => ?_
      refine tkP rfl ?_
      refine R_lss H fun t49 H => ⟨fun _ => trivial, ?_⟩
      refine vp_done ?_
      obtain ⟨b_2, hc_2, H1, H2⟩ := H
      refine WPc_cond hc_2 (fun hh => ?_) (fun hh => ?_)
      · have H := H1 hh; clear H1 H2
        refine WPc_seq' ?_
        refine W_drawn [0, 1, 3, 7, 0, 16, 48, 112, 240, 496, 1023, 2047, 4095, 0, 8192, 32767] (.take 0 (.take 1 (.take 2 (.take 3 (.take 4 (.take 5 (.take 6 (.take 7 (.take 8 (.take 9 (.take 10 (.take 11 (.take 12 (.take 13 (.take 14 (.take 15 .done)))))))))))))))) mixed (by kernel_rfl) ?_
        refine tkP rfl ?_
        refine R_move (v := (e1 9)) rfl ⟨fun _ => trivial, ?_⟩
        refine tkP rfl ?_
        refine R_nil H fun t51 H => ⟨fun _ => trivial, ?_⟩
        refine tkP rfl ?_
        refine R_fld TF_188_2 H fun t52 H => ⟨fun _ => trivial, ?_⟩
        refine tkL rfl ?_
        refine R_load1 T1_185 H fun at53 t53 hat53 _ H => ?_
        refine tkP rfl ?_
        refine R_move (v := (e1 9)) rfl ⟨fun _ => trivial, ?_⟩
        refine tkP rfl ?_
        refine R_nil H fun t55 H => ⟨fun _ => trivial, ?_⟩
        refine tkP rfl ?_
        refine R_fld TF_188_2 H fun t56 H => ⟨fun _ => trivial, ?_⟩
        refine tkL rfl ?_
        refine R_load1 T1_185 H fun at57 t57 hat57 _ H => ?_
        refine tkP rfl ?_
        refine R_len Try.underlying185 H fun t58 H => ⟨fun _ => trivial, ?_⟩
        refine tkP rfl ?_
        refine R_sub H fun t59 H => ⟨fun _ => trivial, ?_⟩
        refine tkP rfl ?_
        refine R_idx TE_185 H fun t60 H => ⟨fun _ => trivial, ?_⟩
        refine tkP rfl ?_
        refine R_fld TF_178_1 H fun t61 H => ⟨fun _ => trivial, ?_⟩
        refine tkL rfl ?_
        refine R_load1 T1_3 H fun at62 t62 hat62 _ H => ?_
        refine tkP rfl ?_
        refine R_fld TF_178_1 H fun t63 H => ⟨fun _ => trivial, ?_⟩
        refine tkL rfl ?_
        refine R_load1 T1_3 H fun at64 t64 hat64 _ H => ?_
        refine tkP rfl ?_
        refine R_lss H fun t65 H => ⟨fun _ => trivial, ?_⟩
        refine vp_done ?_
        obtain ⟨b_3, hc_3, H1, H2⟩ := H
        refine WPc_cond hc_3 (fun hh => ?_) (fun hh => ?_)
        · have H := H1 hh; clear H1 H2
          refine WPc_seq' ?_
          refine W_drawn [0, 0, 2, 6, 14, 0, 32, 126, 255, 511, 1023] (.take 0 (.take 1 (.take 2 (.take 3 (.take 4 (.take 5 (.alt 6 (.alt 7 (.take 8 (.take 9 (.alt 10 .done .none))) .none) .none))))))) mixed (by kernel_rfl) ?_
          refine tkP rfl ?_
          refine R_move (v := (e1 9)) rfl ⟨fun _ => trivial, ?_⟩
          refine tkP rfl ?_
          refine R_move (v := (e1 9)) rfl ⟨fun _ => trivial, ?_⟩
          refine tkP rfl ?_
          refine R_nil H fun t68 H => ⟨fun _ => trivial, ?_⟩
          refine tkP rfl ?_
          refine R_fld TF_188_2 H fun t69 H => ⟨fun _ => trivial, ?_⟩
          refine tkL rfl ?_
          refine R_load1 T1_185 H fun at70 t70 hat70 _ H => ?_
          refine tkL rfl ?_
          refine R_loadN TN_178 H fun at71 xt71 hat71 _ H St71 hSt71 => ?_
          refine alt_n rfl ?_ vp_none
          refine H_mkSl TZ_185 (by decide) rfl H rfl fun t72 h ⟨S, H⟩ => ⟨(hskip rfl (hcons rfl (still_1 S hat70) hnil)), ?_⟩
          refine alt_n rfl ?_ vp_none
          refine H_app TZ_185 TU_185 H fun t73 h H => ⟨(hskip rfl hnil), ?_⟩
          refine tkP rfl ?_
          refine R_nil H fun t74 H => ⟨fun _ => trivial, ?_⟩
          refine tkP rfl ?_
          refine R_fld TF_188_2 H fun t75 H => ⟨fun _ => trivial, ?_⟩
          refine alt_n rfl ?_ vp_none
          refine H_store1 TS_185 H fun h H => ⟨hnil, ?_⟩
          refine vp_done ?_
          refine WPc_seq' ?_
          refine W_region (by kernel_rfl) ?_
          refine vl_n ?_
          refine H_of_R (R_move (v := (e1 0)) rfl ?_)
          refine vl_n ?_
          refine H_of_R (R_nil H fun t77 H => ?_)
          refine vl_n ?_
          refine H_of_R (R_fld TF_182_3 H fun t78 H => ?_)
          refine vl_n ?_
          refine H_of_R (R_load1 T1_3 H fun _ t79 _ _ H => ?_)
          refine vl_n ?_
          refine H_of_R (R_add H fun t80 H => ?_)
          refine vl_n ?_
          refine H_of_R (R_nil H fun t81 H => ?_)
          refine vl_n ?_
          refine H_of_R (R_fld TF_182_3 H fun t82 H => ?_)
          refine vl_n ?_
          refine H_store1 TS_3 H fun h H => ?_
          refine vl_e ?_
          refine WPc_seq' ?_
          refine W_region (by kernel_rfl) ?_
          refine vl_n ?_
          refine H_of_R (R_move (v := (e1 0)) rfl ?_)
          refine vl_n ?_
          refine H_of_R (R_nil H fun t84 H => ?_)
          refine vl_n ?_
          refine H_of_R (R_fld TF_182_4 H fun t85 H => ?_)
          refine vl_n ?_
          refine H_of_R (R_fld TF_178_0 H fun t86 H => ?_)
          refine vl_n ?_
          refine H_of_R (R_load1 T1_3 H fun _ t87 _ _ H => ?_)
          refine vl_n ?_
          refine H_of_R (R_assign (v := t87) rfl ?_)
          refine vl_n ?_
          refine H_of_R (R_assign (v := (.bool false)) rfl ?_)
          refine vl_e ?_
          refine WPc_ret ?_
          refine resH_of rfl ?_
          exact H
        · have H := H2 hh; clear H1 H2
          refine WPc_skip ?_
          exact ⟨H, rfl⟩
      · have H := H2 hh; clear H1 H2
        refine WPc_skip ?_
        exact ⟨H, rfl⟩
    · have H := H2 hh; clear H1 H2
      refine WPc_skip ?_
      exact ⟨H, rfl⟩
  refine WPc_seq' ?_
  refine W_region (by kernel_rfl) ?_
  refine vl_n ?_
  refine H_of_R (R_move (v := a0) rfl ?_)
  refine vl_n ?_
  refine H_of_R (R_nil H fun t14 H => ?_)
  refine vl_n ?_
  refine H_of_R (R_fld TF_182_2 H fun t15 H => ?_)
  refine vl_n ?_
  refine H_of_R (R_load1 T1_173 H fun _ t16 _ _ H => ?_)
  refine vl_n ?_
  refine H_of_R (R_eqNilP Try.underlying173 rfl H fun t17 H => ?_)
  refine vl_e ?_
  obtain ⟨b, hc, H1, H2⟩ := H
  refine WPc_cond hc (fun hh => ?_) (fun hh => ?_)
  · have H := H1 hh; clear H1 H2
    refine WPc_seq' ?_
    refine W_region (by kernel_rfl) ?_
    refine vl_n ?_
    refine H_of_R (R_move (v := a0) rfl ?_)
    refine vl_n ?_
    refine H_of_R (R_fld TF_178_1 H fun t19 H => ?_)
    refine vl_n ?_
    refine H_of_R (R_load1 T1_3 H fun _ t20 _ _ H => ?_)
    refine vl_n ?_
    refine H_of_R (R_fld TF_178_0 H fun t21 H => ?_)
    refine vl_n ?_
    refine H_of_R (R_load1 T1_3 H fun _ t22 _ _ H => ?_)
    refine vl_n ?_
    refine H_call HB_59 H fun t23 h H => ?_
    refine vl_n ?_
    refine H_of_R (R_ext H fun t24 H => ?_)
    refine vl_n ?_
    refine H_of_R (R_ext H fun t25 H => ?_)
    refine vl_n ?_
    refine H_of_R (R_assign (v := t24) rfl ?_)
    refine vl_n ?_
    refine H_of_R (R_assign (v := t25) rfl ?_)
    refine vl_e ?_
    refine WPc_ret ?_
    refine resH_of rfl ?_
    exact H
  · have H := H2 hh; clear H1 H2
    refine WPc_skip ?_
    exact H
/-! ### impl.DLoad -/
def i_DLoad.sh (a0 : Value) (a1 : Value) (a2 : Value) (h : Heap) (Q : Value → Heap → Prop) : Prop :=
    box 25 a1 h fun t4 h =>
    box 27 a2 h fun t5 h =>
    alloc [(.int .i64 0), (.int .i64 0), (.bool false)] 32 h fun t6 h =>
    alloc [(.slice none 0 0), (.slice none 0 0), (.int .i64 0)] 25 h fun t7 h =>
    loadN 3 t4 h fun t12 =>
    i_standMap.call #[a0, t12] h fun t13 h =>
    fld 0 t5 fun t16 =>
    load1 t16 h fun t17 =>
    fld 1 t5 fun t18 =>
    load1 t18 h fun t19 =>
    Map_ii_Load.call #[t13, t17, t19] h fun t20 h =>
    extr 0 t20 fun t21 =>
    extr 1 t20 fun t22 =>
    fld 0 t5 fun t23 =>
    load1 t23 h fun t24 =>
    i_pair.call #[t24, t21, t22] h fun t27 h =>
    i_fellMap.call #[t13] h fun t29 h =>
    storeN 3 t6 t27 h fun h =>
    storeN 3 t7 t29 h fun h =>
    loadN 3 t6 h fun r6 =>
    loadN 3 t7 h fun r7 =>
    Q (.tuple #[r6, r7]) h
theorem i_DLoad.body (a0 : Value) (a1 : Value) (a2 : Value) (h : Heap) (Q : Value → Heap → Prop) (H : i_DLoad.sh a0 a1 a2 h Q) : i_DLoad.call #[a0, a1, a2] h Q := by
  refine callsH_of (args := [a0, a1, a2]) Try.func20 rfl rfl ?_
  unfold i_DLoad.sh at H
  refine WPc_seq' ?_
  refine W_region (by kernel_rfl) ?_
  refine vl_n ?_
  refine H_box H fun t4 h H => ?_
  refine vl_n ?_
  refine H_box H fun t5 h H => ?_
  refine vl_n ?_
  refine H_alloc TV_32 H fun t6 h H => ?_
  refine vl_n ?_
  refine H_alloc TV_25 H fun t7 h H => ?_
  refine vl_e ?_
  refine WPc_seq' ?_
  refine W_region (by kernel_rfl) ?_
  refine vl_n ?_
  refine H_of_R (R_move (v := a0) rfl ?_)
  refine vl_n ?_
  refine H_of_R (R_loadN TN_25 H fun _ t12 _ _ H _ _ => ?_)
  refine vl_n ?_
  refine H_call HB_58 H fun t13 h H => ?_
  refine vl_n ?_
  refine H_of_R (R_assign (v := t13) rfl ?_)
  refine vl_e ?_
  refine WPc_seq' ?_
  refine W_region (by kernel_rfl) ?_
  refine vl_n ?_
  refine H_of_R (R_move (v := t13) rfl ?_)
  refine vl_n ?_
  refine H_of_R (R_fld TF_27_0 H fun t16 H => ?_)
  refine vl_n ?_
  refine H_of_R (R_load1 T1_3 H fun _ t17 _ _ H => ?_)
  refine vl_n ?_
  refine H_of_R (R_fld TF_27_1 H fun t18 H => ?_)
  refine vl_n ?_
  refine H_of_R (R_load1 T1_3 H fun _ t19 _ _ H => ?_)
  refine vl_n ?_
  refine H_call HB_68 H fun t20 h H => ?_
  refine vl_n ?_
  refine H_of_R (R_move (v := t20) rfl ?_)
  refine vl_n ?_
  refine H_of_R (R_ext H fun t21 H => ?_)
  refine vl_n ?_
  refine H_of_R (R_ext H fun t22 H => ?_)
  refine vl_n ?_
  refine H_of_R (R_assign (v := t21) rfl ?_)
  refine vl_n ?_
  refine H_of_R (R_assign (v := t22) rfl ?_)
  refine vl_e ?_
  refine WPc_seq' ?_
  refine W_region (by kernel_rfl) ?_
  refine vl_n ?_
  refine H_of_R (R_fld TF_27_0 H fun t23 H => ?_)
  refine vl_n ?_
  refine H_of_R (R_load1 T1_3 H fun _ t24 _ _ H => ?_)
  refine vl_n ?_
  refine H_of_R (R_move (v := t21) rfl ?_)
  refine vl_n ?_
  refine H_of_R (R_move (v := t22) rfl ?_)
  refine vl_n ?_
  refine H_call HB_60 H fun t27 h H => ?_
  refine vl_n ?_
  refine H_of_R (R_move (v := t13) rfl ?_)
  refine vl_n ?_
  refine H_call HB_61 H fun t29 h H => ?_
  refine vl_n ?_
  refine H_storeN TS_32 H fun h H => ?_
  refine vl_n ?_
  refine H_storeN TS_25 H fun h H => ?_
  refine vl_e ?_
  refine WPc_ret ?_
  refine resH_of rfl ?_
  refine resL_N TN_32 ?_
  refine loadN_imp H fun r6 H => ?_
  refine resL_N TN_25 ?_
  refine loadN_imp H fun r7 H => ?_
  exact H
/-! ### spec.NodeHeight -/
def s_NodeHeight.j1 (s1 : Value) (h : Heap) (Q : Value → Heap → Prop) : Prop :=
    loadN 3 s1 h fun t10 =>
    s_Levels.call #[t10] h fun t11 h =>
    extr 0 t11 fun t12 =>
    extr 1 t11 fun t13 =>
    Q t12 h
def s_NodeHeight.sh (a0 : Value) (h : Heap) (Q : Value → Heap → Prop) : Prop :=
    box 25 a0 h fun t1 h =>
    fld 0 t1 fun t5 =>
    load1 t5 h fun t6 =>
    lenV t6 fun t7 =>
    cmpI (fun a b => a == b) t7 (.int .i64 0) fun t8 =>
    ifV t8
    (Q (.int .i64 0) h)
    (s_NodeHeight.j1 t1 h Q)
theorem s_NodeHeight.body (a0 : Value) (h : Heap) (Q : Value → Heap → Prop) (H : s_NodeHeight.sh a0 h Q) : s_NodeHeight.call #[a0] h Q := by
  refine callsH_of (args := [a0]) Try.func21 rfl rfl ?_
  unfold s_NodeHeight.sh at H
  refine WPc_seq' ?_
  refine W_region (by kernel_rfl) ?_
  refine vl_n ?_
  refine H_box H fun t1 h H => ?_
  refine vl_n ?_
  refine H_of_R (R_assign (v := (.int .i64 0)) rfl ?_)
  refine vl_e ?_
  refine WPc_seq (fun e h => s_NodeHeight.j1 (e 1) h Q) ?_ (fun e h H => ?_)
  rotate_left
  · unfold s_NodeHeight.j1 at H
    refine WPc_seq' ?_
    refine W_region (by kernel_rfl) ?_
    refine vl_n ?_
    refine H_of_R (R_loadN TN_25 H fun _ t10 _ _ H _ _ => ?_)
    refine vl_n ?_
    refine H_call HB_69 H fun t11 h H => ?_
    refine vl_n ?_
    refine H_of_R (R_move (v := t11) rfl ?_)
    refine vl_n ?_
    refine H_of_R (R_ext H fun t12 H => ?_)
    refine vl_n ?_
    refine H_of_R (R_ext H fun t13 H => ?_)
    refine vl_n ?_
    refine H_of_R (R_assign (v := t12) rfl ?_)
    refine vl_n ?_
    refine H_of_R (R_assign (v := t13) rfl ?_)
    refine vl_e ?_
    refine WPc_seq' ?_
    refine W_region (by kernel_rfl) ?_
    refine vl_n ?_
    refine H_of_R (R_move (v := t12) rfl ?_)
    refine vl_n ?_
    refine H_of_R (R_assign (v := t12) rfl ?_)
    refine vl_e ?_
    refine WPc_ret ?_
    refine resH_of rfl ?_
    exact H
  refine WPc_seq' ?_
  refine W_region (by kernel_rfl) ?_
  refine vl_n ?_
  refine H_of_R (R_fld TF_25_0 H fun t5 H => ?_)
  refine vl_n ?_
  refine H_of_R (R_load1 T1_22 H fun _ t6 _ _ H => ?_)
  refine vl_n ?_
  refine H_of_R (R_len Try.underlying22 H fun t7 H => ?_)
  refine vl_n ?_
  refine H_of_R (R_eqI H fun t8 H => ?_)
  refine vl_e ?_
  obtain ⟨b, hc, H1, H2⟩ := H
  refine WPc_cond hc (fun hh => ?_) (fun hh => ?_)
  · have H := H1 hh; clear H1 H2
    refine WPc_seq' ?_
    refine W_region (by kernel_rfl) ?_
    refine vl_n ?_
    refine H_of_R (R_assign (v := (.int .i64 0)) rfl ?_)
    refine vl_e ?_
    refine WPc_ret ?_
    refine resH_of rfl ?_
    exact H
  · have H := H2 hh; clear H1 H2
    refine WPc_skip ?_
    exact H
/-! ### slices.Equal[[]impl.Item,impl.Item] -/
def sl_Equal_implItemI.j2 (h : Heap) (Q : Value → Heap → Prop) : Prop :=
    Q (.bool true) h
def sl_Equal_implItemI.j5 (s0 : Value) (s1 : Value) (s12 : Value) (s13 : Value) (h : Heap) (K1 : List Value → Heap → Prop) (Q : Value → Heap → Prop) : Prop :=
    arith (· + ·) s13 (.int .i64 1) fun t25 =>
    K1 [t25] h
def sl_Equal_implItemI.j4 (s0 : Value) (s1 : Value) (s12 : Value) (s13 : Value) (h : Heap) (K1 : List Value → Heap → Prop) (Q : Value → Heap → Prop) : Prop :=
    idx 2 s0 s13 fun t18 =>
    loadN 2 t18 h fun t19 =>
    idx 2 s1 s13 fun t22 =>
    loadN 2 t22 h fun t23 =>
    neR (EqV Try.prog 10000 27) t19 t23 fun t24 =>
    ifV t24
    (Q (.bool false) h)
    (sl_Equal_implItemI.j5 s0 s1 s12 s13 h K1 Q)
def sl_Equal_implItemI.l3.b (c0 : Value) (c1 : Value) (c12 : Value) (s13 : Value) (h : Heap) (K1 : List Value → Heap → Prop) (Q : Value → Heap → Prop) : Prop :=
    cmpI (fun a b => decide (a < b)) s13 c12 fun t14 =>
    ifV t14
    (sl_Equal_implItemI.j4 c0 c1 c12 s13 h K1 Q)
    (sl_Equal_implItemI.j2 h Q)
def sl_Equal_implItemI.j1 (s0 : Value) (s1 : Value) (h : Heap) (Q : Value → Heap → Prop) : Prop :=
    lenV s0 fun t12 =>
    loopC (fun c s h K1 => sl_Equal_implItemI.l3.b (c.getD 0 undef) (c.getD 1 undef) (c.getD 2 undef) (s.getD 0 undef) h K1 Q) [s0, s1, t12] [(.int .i64 0)] h
def sl_Equal_implItemI.sh (a0 : Value) (a1 : Value) (h : Heap) (Q : Value → Heap → Prop) : Prop :=
    lenV a0 fun t7 =>
    lenV a1 fun t9 =>
    cmpI (fun a b => a != b) t7 t9 fun t10 =>
    ifV t10
    (Q (.bool false) h)
    (sl_Equal_implItemI.j1 a0 a1 h Q)
theorem sl_Equal_implItemI.body (a0 : Value) (a1 : Value) (h : Heap) (Q : Value → Heap → Prop) (H : sl_Equal_implItemI.sh a0 a1 h Q) : sl_Equal_implItemI.call #[a0, a1] h Q := by
  refine callsH_of (args := [a0, a1]) Try.func41 rfl rfl ?_
  unfold sl_Equal_implItemI.sh at H
  refine WPc_seq' ?_
  refine W_region (by kernel_rfl) ?_
  refine vl_n ?_
  refine H_of_R (R_assign (v := (.bool false)) rfl ?_)
  refine vl_e ?_
  refine WPc_seq (fun e h => sl_Equal_implItemI.j1 (e 0) (e 1) h Q) ?_ (fun e h H => ?_)
  rotate_left
  · unfold sl_Equal_implItemI.j1 at H
    refine WPc_seq (fun e h => sl_Equal_implItemI.j2 h Q) ?_ (fun e h H => ?_)
    rotate_left
    · unfold sl_Equal_implItemI.j2 at H
      refine WPc_seq' ?_
      refine W_region (by kernel_rfl) ?_
      refine vl_n ?_
      refine H_of_R (R_assign (v := (.bool true)) rfl ?_)
      refine vl_e ?_
      refine WPc_ret ?_
      refine resH_of rfl ?_
      exact H
    refine WPc_seq' ?_
    refine W_region (by kernel_rfl) ?_
    refine vl_n ?_
    refine H_of_R (R_move (v := (e 0)) rfl ?_)
    refine vl_n ?_
    refine H_of_R (R_len Try.underlying22 H fun t12 H => ?_)
    refine vl_n ?_
    refine H_of_R (R_move (v := (.int .i64 0)) rfl ?_)
    refine vl_e ?_
    refine WPc_block ?_
    refine loop_at (fun e => [e 13]) (fun e => [e 0, e 1, e 12]) H rfl rfl ?_
    intro K1 e1 h H hin1
    replace H : sl_Equal_implItemI.l3.b (e1 0) (e1 1) (e1 12) (e1 13) h K1 Q := H
    unfold sl_Equal_implItemI.l3.b at H
    clear hin1
    refine WPc_seq' ?_
    refine W_region (by kernel_rfl) ?_
    refine vl_n ?_
    refine H_of_R (R_lss H fun t14 H => ?_)
    refine vl_e ?_
    refine WPc_seq (fun e h => sl_Equal_implItemI.j4 (e 0) (e 1) (e 12) (e 13) h K1 Q ∧ [e1 0, e1 1, e1 12] = [e 0, e 1, e 12]) ?_ (fun e h ⟨H, hq1⟩ => ?_)
    rotate_left
    · unfold sl_Equal_implItemI.j4 at H
      refine WPc_seq (fun e h => sl_Equal_implItemI.j5 (e 0) (e 1) (e 12) (e 13) h K1 Q ∧ [e1 0, e1 1, e1 12] = [e 0, e 1, e 12]) ?_ (fun e h ⟨H, hq1⟩ => ?_)
      rotate_left
      · unfold sl_Equal_implItemI.j5 at H
        refine W_region (by kernel_rfl) ?_
        refine vl_n ?_
        refine H_of_R (R_add H fun t25 H => ?_)
        refine vl_n ?_
        refine H_of_R (R_move (v := t25) rfl ?_)
        refine vl_e ?_
        exact ⟨H, hq1⟩
      refine WPc_block ?_
      refine WPc_seq' ?_
      refine W_region (by kernel_rfl) ?_
      refine vl_n ?_
      refine H_of_R (R_move (v := (e 13)) rfl ?_)
      refine vl_n ?_
      refine H_of_R (R_assign (v := (e 13)) rfl ?_)
      refine vl_e ?_
      refine WPc_seq' ?_
      refine W_drawn [0, 0, 3, 7, 0, 0, 48, 112, 255] (.take 0 (.take 1 (.take 2 (.take 3 (.take 4 (.take 5 (.take 6 (.take 7 (.take 8 .done))))))))) mixed (by kernel_rfl) ?_
      refine tkP rfl ?_
      refine R_move (v := (e 0)) rfl ⟨fun _ => trivial, ?_⟩
      refine tkP rfl ?_
      refine R_move (v := (e 13)) rfl ⟨fun _ => trivial, ?_⟩
      refine tkP rfl ?_
      refine R_idx TE_22 H fun t18 H => ⟨fun _ => trivial, ?_⟩
      refine tkL rfl ?_
      refine R_loadN TN_27 H fun at19 xt19 hat19 _ H St19 hSt19 => ?_
      refine tkP rfl ?_
      refine R_move (v := (e 1)) rfl ⟨fun _ => trivial, ?_⟩
      refine tkP rfl ?_
      refine R_move (v := (e 13)) rfl ⟨fun _ => trivial, ?_⟩
      refine tkP rfl ?_
      refine R_idx TE_22 H fun t22 H => ⟨fun _ => trivial, ?_⟩
      refine tkL rfl ?_
      refine R_loadN TN_27 H fun at23 xt23 hat23 _ H St23 hSt23 => ?_
      refine tkP rfl ?_
      refine R_neA (by kernel_rfl) H fun t24 H => ⟨fun _ => trivial, ?_⟩
      refine vp_done ?_
      obtain ⟨b, hc, H1, H2⟩ := H
      refine WPc_cond hc (fun hh => ?_) (fun hh => ?_)
      · have H := H1 hh; clear H1 H2
        refine WPc_seq' ?_
        refine W_region (by kernel_rfl) ?_
        refine vl_n ?_
        refine H_of_R (R_assign (v := (.bool false)) rfl ?_)
        refine vl_e ?_
        refine WPc_ret ?_
        refine resH_of rfl ?_
        exact H
      · have H := H2 hh; clear H1 H2
        refine WPc_skip ?_
        exact ⟨H, hq1⟩
    obtain ⟨b, hc, H1, H2⟩ := H
    refine WPc_cond hc (fun hh => ?_) (fun hh => ?_)
    · have H := H1 hh; clear H1 H2
      refine WPc_skip ?_
      exact ⟨H, rfl⟩
    · have H := H2 hh; clear H1 H2
      refine WPc_exit ?_
      exact H
  refine WPc_seq' ?_
  refine W_region (by kernel_rfl) ?_
  refine vl_n ?_
  refine H_of_R (R_move (v := a0) rfl ?_)
  refine vl_n ?_
  refine H_of_R (R_len Try.underlying22 H fun t7 H => ?_)
  refine vl_n ?_
  refine H_of_R (R_move (v := a1) rfl ?_)
  refine vl_n ?_
  refine H_of_R (R_len Try.underlying22 H fun t9 H => ?_)
  refine vl_n ?_
  refine H_of_R (R_neI H fun t10 H => ?_)
  refine vl_e ?_
  obtain ⟨b, hc, H1, H2⟩ := H
  refine WPc_cond hc (fun hh => ?_) (fun hh => ?_)
  · have H := H1 hh; clear H1 H2
    refine WPc_seq' ?_
    refine W_region (by kernel_rfl) ?_
    refine vl_n ?_
    refine H_of_R (R_assign (v := (.bool false)) rfl ?_)
    refine vl_e ?_
    refine WPc_ret ?_
    refine resH_of rfl ?_
    exact H
  · have H := H2 hh; clear H1 H2
    refine WPc_skip ?_
    exact H

end Go.Proofs.Ytlihjljdndbpdaa
end
section
namespace Go.Proofs.Ytlihjljdndbpdaa.Ii
open Go.Hp Go.Proofs.Ytlihjljdndbpdaa
set_option linter.unusedVariables false
set_option linter.unusedSimpArgs false
variable {h0 h : Heap} {Z E : List Rg} {Q : Value → Heap → Prop}
theorem slcF0 {K : Value → Prop} {L : List It} {v : Value} (r : Rdl 2 h v L.length (L.flatMap encA)) {k' : IntKind} {z' : Int} {j : Nat} (hz' : z' = j) (hj : j ≤ L.length)
    (H : ∀ v', Rdl 2 h v' (L.take j).length ((L.take j).flatMap encA) → K v') : Hp.slc 2 v none (some (.int k' z')) none K := by
  subst hz'
  refine r.slc (l := 0) (m := j) rfl ⟨k', j, rfl, by omega, by omega, by simp⟩ (Nat.zero_le _) hj fun v' r' => H v' ?_
  rw [Nat.zero_mul, List.drop_zero, Nat.sub_zero, flat_take encAl L j hj] at r'
  rw [List.length_take, Nat.min_eq_left hj]; exact r'
theorem slcF1 {K : Value → Prop} {L : List It} {v : Value} (r : Rdl 2 h v L.length (L.flatMap encA)) {k : IntKind} {z : Int} {i : Nat} (hz : z = i) (hi : i ≤ L.length)
    (H : ∀ v', Rdl 2 h v' (L.drop i).length ((L.drop i).flatMap encA) → K v') : Hp.slc 2 v (some (.int k z)) none none K := by
  subst hz
  refine r.slc (l := i) (m := L.length) ⟨k, i, rfl, by omega, by omega, by simp⟩ rfl hi (Nat.le_refl _) fun v' r' => H v' ?_
  have e : ((L.flatMap encA).drop (i * 2)).take ((L.length - i) * 2) = (L.drop i).flatMap encA := by
    rw [flat_drop encAl, List.take_of_length_le (by rw [flat_len encAl, List.length_drop]; exact Nat.le_refl _)]
  rw [e] at r'
  rw [List.length_drop]; exact r'
theorem Rank_nil {k : Int} (H : Q (.int .i64 k) h) : s_Rank.call #[.slice none 0 0, .int .i64 k] h Q := by
  refine s_Rank.body _ _ _ _ ?_
  unfold s_Rank.sh
  refine r_len ?_
  refine r_cmpI ?_
  exact r_if (fun _ => H) (fun e => absurd e (by simp))
theorem Before_nil {p q : It} (H : ∀ E' h', St h [] E' h' → Q (.bool (lt p q)) h') : s_Before.call #[.slice none 0 0, .agg (encA p).toArray, .agg (encA q).toArray] h Q := by
  refine s_Before.body _ _ _ _ _ ?_
  unfold s_Before.sh
  have s := St.start h
  refine s.r_box fun t4 h s => ?_
  refine s.r_box fun t5 h s => ?_
  refine r_fld ?_
  refine St.r_load0 s 1 rfl rfl ?_
  refine r_fld ?_
  refine St.r_load0 s 0 rfl rfl ?_
  refine Rank_nil ?_
  refine ⟨St.r_still0 s 0 rfl rfl, ?_⟩
  refine Rank_nil ?_
  refine r_cmpI ?_
  exact H _ _ s
theorem Place_nil {l : List It} {v : Value} {x : It} (hr : Rdl 2 h v l.length (l.flatMap encA)) (hl : l.length ≤ 2147483647)
    (H : ∀ E' h', St h [] E' h' → Q (.tuple #[.int .i64 (pos lt l x), .bool (lget lt l x).isSome]) h') : s_Place.call #[.slice none 0 0, v, .agg (encA x).toArray] h Q := by
  refine s_Place.body _ _ _ _ _ ?_
  unfold s_Place.sh
  have s := St.start h
  refine s.r_box fun t5 h' s => ?_
  have hple := pos_le (lt := lt) l x
  refine loop_ghost (fun q st h' => ∃ (j : Nat) (E' : List Rg), q = l.length - j ∧ j ≤ pos lt l x ∧ st = [.int .i64 (j : Nat)] ∧ St h [] ((t5, 0, encA x) :: E') h') (n0 := l.length)
    ⟨0, [], rfl, Nat.zero_le _, rfl, s⟩ ?_
  clear s
  rintro q st h' ⟨j, E', rfl, hj, rfl, s⟩ K HK
  have fin : j = pos lt l x → s_Place.j1 (.slice none 0 0) v (ptr t5 0) (.int .i64 j) h' Q := fun ej => by
    subst ej
    unfold s_Place.j1
    refine (hr.st s).lenV ?_
    refine r_cmpI ?_
    refine r_br (fun e => ?_) (fun e => ?_)
    · have e : pos lt l x < l.length := by have := of_decide_eq_true e; omega
      refine St.r_loadN0 s 0 rfl (by simp) ?_
      refine (hr.st s).at (n := pos lt l x) rfl encAl rfl rfl e fun b o hb => ?_
      refine hb.loadN rfl ?_
      refine Before_nil (p := x) fun E2 h s2 => ?_
      refine r_not ?_
      have e3 : (lget lt l x).isSome = !(lt x l[pos lt l x]) := by
        unfold lget
        rw [List.getElem?_eq_getElem e, Option.bind_some]
        cases lt x l[pos lt l x] <;> rfl
      rw [e3] at H
      exact H _ _ (s.join s2)
    · have e : ¬ pos lt l x < l.length := by have := of_decide_eq_false e; omega
      have e3 : (lget lt l x).isSome = false := by
        unfold lget
        rw [List.getElem?_eq_none (by omega)]; rfl
      rw [e3] at H
      exact H _ _ s
  unfold s_Place.l2.b
  refine (hr.st s).lenV ?_
  refine r_cmpI ?_
  refine r_br (fun e => ?_) (fun e => ?_)
  · have e : j < l.length := by have := of_decide_eq_true e; omega
    refine (hr.st s).at (n := j) rfl encAl rfl rfl e fun b o hb => ?_
    refine hb.loadN rfl ?_
    refine St.r_loadN0 s 0 rfl (by simp) ?_
    refine Before_nil (q := x) fun E2 h2 s2 => ?_
    have s := (s.join s2).perm List.perm_append_comm
    refine r_if (fun e2 => ?_) (fun e2 => ?_)
    · have hlt : j < pos lt l x := by
        rcases Nat.lt_or_ge j (pos lt l x) with h | h
        · exact h
        · have : j = pos lt l x := by omega
          subst this
          rw [pos_at e] at e2; cases e2
      unfold s_Place.j3
      refine r_add1 (by omega) ?_
      exact HK (l.length - (j + 1)) _ _ (by omega) ⟨j + 1, _, rfl, hlt, rfl, s⟩
    · have : j = pos lt l x := by
        rcases Nat.lt_or_ge j (pos lt l x) with h | h
        · have := pos_lt h
          rw [e2] at this; cases this
        · omega
      subst this
      unfold s_Place.j1
      have s : St h [] ((t5, 0, encA x) :: (E' ++ E2)) h2 := s
      refine (hr.st s).lenV ?_
      refine r_cmpI ?_
      refine r_br (fun _ => ?_) (fun e3 => absurd e3 (by simp; omega))
      refine St.r_loadN0 s 0 rfl (by simp) ?_
      refine (hr.st s).at (n := pos lt l x) rfl encAl rfl rfl e fun b o hb => ?_
      refine hb.loadN rfl ?_
      refine Before_nil (p := x) fun E3 h3 s3 => ?_
      refine r_not ?_
      have e3 : (lget lt l x).isSome = !(lt x l[pos lt l x]) := by
        unfold lget
        rw [List.getElem?_eq_getElem e, Option.bind_some]
        cases lt x l[pos lt l x] <;> rfl
      rw [e3] at H
      exact H _ _ (s.join s3)
  · exact fin (by have := of_decide_eq_false e; omega)
theorem Put_ok {l : List It} {v : Value} {x : It} (hr : Rdl 2 h v l.length (l.flatMap encA)) (hl : l.length ≤ 1073741824)
    (H : ∀ v' rf E' h', rf = .agg (foundC (lget lt l x)).toArray → St h [] E' h' → Rdl 2 h' v' (lput lt l x).length ((lput lt l x).flatMap encA) → (∃ b o sp, Own 2 v' (lput lt l x).length b o ((lput lt l x).flatMap encA) sp ∧ (b, o, (lput lt l x).flatMap encA ++ sp) ∈ E') → Q (.tuple #[v', rf]) h') : s_Put.call #[.slice none 0 0, v, .agg (encA x).toArray] h Q := by
  refine s_Put.body _ _ _ _ _ ?_
  unfold s_Put.sh
  have s := St.start h
  refine s.r_box fun t5 h1 s => ?_
  refine s.r_alloc fun t7 h1 s => ?_
  refine St.r_loadN0 s 1 rfl (by simp) ?_
  refine Place_nil (hr.st s) (by omega) fun E2 h1 s2 => ?_
  have s := (s.join s2).perm List.perm_append_comm
  have s : St h [] ((t7, 0, [.int .i64 0, .int .i64 0, .bool false]) :: (t5, 0, encA x) :: E2) h1 := s
  have hple := pos_le (lt := lt) l x
  have hput : lput lt l x = l.take (pos lt l x) ++ x :: l.drop (pos lt l x + if (lget lt l x).isSome then 1 else 0) := rfl
  have hg : ∀ y, lget lt l x = some y → ∃ hp : pos lt l x < l.length, l[pos lt l x] = y := fun y e => by
    obtain ⟨hp, h1, _⟩ := lget_some e; exact ⟨hp, h1⟩
  generalize pos lt l x = i at *
  generalize lget lt l x = lg at *
  refine r_ext rfl ?_
  refine r_ext rfl ?_
  refine St.r_mkSl (sz := 2) (cs := []) s (by ((simp only [fillV, fill1, Value.cells, zeros_succ, zeros_zero, List.size_toArray, List.length_cons, List.length_nil, List.length_append, List.take_succ_cons, List.take_zero, List.take_nil, List.drop_succ_cons, List.drop_zero, List.drop_nil, List.cons_append, List.nil_append, List.append_nil, Nat.reduceAdd, Nat.reduceMul, Nat.reduceLeDiff, Nat.reduceEqDiff, and_self, and_true, true_and, if_true, Nat.le_refl, Nat.zero_add, Nat.add_zero, Nat.zero_mul, reduceIte, if_false] <;> rfl))) rfl fun q h1 s wq => ?_
  refine slcF0 (hr.st s) rfl hple fun v1 r1 => ?_
  refine s.r_appL (f := encA) (L := []) (M := l.take i) 0 rfl wq rfl r1 (fun _ _ => encA1 _) (by simp; omega) (by simp; omega) fun va ba oa pa h1 s wa => ?_
  rw [List.nil_append] at wa
  have s : St h [] ((ba, oa, (l.take i).flatMap encA ++ pa) :: (t7, 0, [.int .i64 0, .int .i64 0, .bool false]) :: (t5, 0, encA x) :: E2) h1 := s
  refine St.r_loadN0 s 2 rfl (by simp) ?_
  refine St.r_mkSl (sz := 2) (cs := encA x) s (by ((simp only [fillV, fill1, Value.cells, zeros_succ, zeros_zero, List.size_toArray, List.length_cons, List.length_nil, List.length_append, List.take_succ_cons, List.take_zero, List.take_nil, List.drop_succ_cons, List.drop_zero, List.drop_nil, List.cons_append, List.nil_append, List.append_nil, Nat.reduceAdd, Nat.reduceMul, Nat.reduceLeDiff, Nat.reduceEqDiff, and_self, and_true, true_and, if_true, Nat.le_refl, Nat.zero_add, Nat.add_zero, Nat.zero_mul, reduceIte, if_false] <;> rfl))) rfl fun q2 h1 s wq2 => ?_
  refine s.r_appL (f := encA) (L := l.take i) (M := [x]) 1 rfl wa rfl (by have := wq2.rdl s 0 rfl; simpa using this) (fun _ _ => encA1 _) (by simp; omega) (by simp; omega) fun vb bb ob pb h1 s wb => ?_
  have s : St h [] ((bb, ob, (l.take i ++ [x]).flatMap encA ++ pb) :: (t7, 0, [.int .i64 0, .int .i64 0, .bool false]) :: (t5, 0, encA x) :: E2) h1 := s.tail rfl
  cases lg with
  | some y =>
    obtain ⟨hi, hy⟩ := hg y rfl
    have hput : lput lt l x = (l.take i ++ [x]) ++ l.drop (i + 1) := by rw [hput]; simp
    refine r_if (fun _ => ?_) (fun e => absurd e (by simp))
    refine r_add1 (by omega) ?_
    refine slcF1 (hr.st s) rfl hi fun v2 r2 => ?_
    refine hr.at (n := i) rfl encAl rfl rfl hi fun b o hb => ?_
    refine (hb.st s).loadN rfl ?_
    ((apply r_build; ((simp only [fillV, fill1, Value.cells, zeros_succ, zeros_zero, List.size_toArray, List.length_cons, List.length_nil, List.length_append, List.take_succ_cons, List.take_zero, List.take_nil, List.drop_succ_cons, List.drop_zero, List.drop_nil, List.cons_append, List.nil_append, List.append_nil, Nat.reduceAdd, Nat.reduceMul, Nat.reduceLeDiff, Nat.reduceEqDiff, and_self, and_true, true_and, if_true, Nat.le_refl, Nat.zero_add, Nat.add_zero, Nat.zero_mul, reduceIte, if_false] <;> rfl))))
    refine s.r_appL (f := encA) (L := l.take i ++ [x]) (M := l.drop (i + 1)) 0 rfl wb rfl r2 (fun _ _ => encA1 _) (by simp; omega) (by simp; omega) fun vc bc oc pc h2 s wc => ?_
    rw [← hput] at wc s
    refine ⟨(hb.st s).stillN rfl, ?_⟩
    · have s : St h [] ((bc, oc, (lput lt l x).flatMap encA ++ pc) :: (t7, 0, [.int .i64 0, .int .i64 0, .bool false]) :: (t5, 0, encA x) :: E2) h2 := s
      refine St.r_storeN0 s 1 (ys := [.int .i64 l[i].1, .int .i64 l[i].2, .bool true]) rfl rfl (by simp) (by simp [one1]) ?_; intro h2 s
      refine St.r_loadN0 s 1 rfl (by simp) ?_
      exact H vc _ _ _ (by rw [hy]; rfl) s (wc.rdl s 0 rfl) ⟨bc, oc, pc, wc, List.mem_cons_self ..⟩
  | none =>
    have hput : lput lt l x = (l.take i ++ [x]) ++ l.drop i := by rw [hput]; simp
    refine r_if (fun e => absurd e (by simp)) (fun _ => ?_)
    unfold s_Put.j1
    refine slcF1 (hr.st s) rfl hple fun v2 r2 => ?_
    refine s.r_appL (f := encA) (L := l.take i ++ [x]) (M := l.drop i) 0 rfl wb rfl r2 (fun _ _ => encA1 _) (by simp; omega) (by simp; omega) fun vc bc oc pc h2 s wc => ?_
    rw [← hput] at wc s
    ((apply r_build; ((simp only [fillV, fill1, Value.cells, zeros_succ, zeros_zero, List.size_toArray, List.length_cons, List.length_nil, List.length_append, List.take_succ_cons, List.take_zero, List.take_nil, List.drop_succ_cons, List.drop_zero, List.drop_nil, List.cons_append, List.nil_append, List.append_nil, Nat.reduceAdd, Nat.reduceMul, Nat.reduceLeDiff, Nat.reduceEqDiff, and_self, and_true, true_and, if_true, Nat.le_refl, Nat.zero_add, Nat.add_zero, Nat.zero_mul, reduceIte, if_false] <;> rfl))))
    have s : St h [] ((bc, oc, (lput lt l x).flatMap encA ++ pc) :: (t7, 0, [.int .i64 0, .int .i64 0, .bool false]) :: (t5, 0, encA x) :: E2) h2 := s
    refine St.r_storeN0 s 1 (ys := [.int .i64 0, .int .i64 0, .bool false]) rfl rfl (by simp) (by simp [one1]) ?_; intro h2 s
    refine St.r_loadN0 s 1 rfl (by simp) ?_
    exact H vc _ _ _ rfl s (wc.rdl s 0 rfl) ⟨bc, oc, pc, wc, List.mem_cons_self ..⟩
theorem eqItem (a i : Int) (d : Nat) : EqV Try.prog (d + 2) 27 (.agg #[.int .i64 a, .int .i64 i]) (.agg #[.int .i64 a, .int .i64 i]) true := by
  refine .inr (.inr (.inr ⟨_, _, _, Try.underlying27, by kernel_rfl, rfl, rfl, ?_⟩))
  refine ⟨by decide, .int .i64 a, .int .i64 a, true, ⟨_, Try.underlying3, .inr ⟨by kernel_rfl, rfl⟩⟩, ⟨_, Try.underlying3, .inr ⟨by kernel_rfl, rfl⟩⟩, .inl ⟨_, _, a, a, Try.underlying3, rfl, rfl, by simp⟩, .inr ⟨rfl, ?_⟩⟩
  exact ⟨by decide, .int .i64 i, .int .i64 i, true, ⟨_, Try.underlying3, .inr ⟨by kernel_rfl, rfl⟩⟩, ⟨_, Try.underlying3, .inr ⟨by kernel_rfl, rfl⟩⟩, .inl ⟨_, _, i, i, Try.underlying3, rfl, rfl, by simp⟩, .inr ⟨rfl, rfl⟩⟩
theorem EqualI_ok {l : List It} {v1 v2 : Value} (h1 : Rdl 2 h v1 l.length (l.flatMap encA)) (h2 : Rdl 2 h v2 l.length (l.flatMap encA)) (hl : l.length ≤ 4611686018427387903) (H : Q (.bool true) h) : sl_Equal_implItemI.call #[v1, v2] h Q := by
  refine sl_Equal_implItemI.body _ _ _ _ ?_
  unfold sl_Equal_implItemI.sh
  refine h1.lenV ?_
  refine h2.lenV ?_
  refine r_cmpI ?_
  refine r_if (fun e => absurd e (by simp)) (fun _ => ?_)
  unfold sl_Equal_implItemI.j1
  refine h1.lenV ?_
  refine loop_up (n := l.length) (fun j => [.int .i64 j]) (fun j h' => h' = h) rfl ?_
  rintro j _ hj rfl K HK
  unfold sl_Equal_implItemI.l3.b
  refine r_cmpI ?_
  refine r_if (fun hlt => ?_) (fun hge => ?_)
  · have hlt : j < l.length := by simpa using hlt
    unfold sl_Equal_implItemI.j4
    refine h1.at (n := j) rfl encAl rfl rfl hlt fun b o hb => ?_
    refine hb.loadN rfl ?_
    refine h2.at (n := j) rfl encAl rfl rfl hlt fun b2 o2 hb2 => ?_
    refine hb2.loadN rfl ?_
    refine ⟨_, _, true, rfl, rfl, eqItem _ _ 9998, ?_⟩
    refine r_if (fun e => absurd e (by simp)) (fun _ => ?_)
    unfold sl_Equal_implItemI.j5
    refine r_add1 (by omega) ?_
    exact HK _ hlt rfl
  · unfold sl_Equal_implItemI.j2
    exact H
end Go.Proofs.Ytlihjljdndbpdaa.Ii
end
section
namespace Go.Proofs.Ytlihjljdndbpdaa
open Go.Hp
set_option maxRecDepth 100000
set_option maxHeartbeats 8000000
set_option linter.unusedVariables false
set_option linter.unusedSimpArgs false

/-! ### spec.RightCounts -/
def s_RightCounts.j1 (s1 : Value) (h : Heap) (Q : Value → Heap → Prop) : Prop :=
    fld 2 s1 fun t16 =>
    load1 t16 h fun t17 =>
    loadN 3 s1 h fun t18 =>
    s_NodeItems.call #[t18] h fun t19 h =>
    still1 t16 t17 h ∧ lenV t19 fun t20 =>
    cmpI (fun a b => a == b) t17 t20 fun t21 =>
    Q t21 h
def s_RightCounts.j4 (s1 : Value) (s6 : Value) (s7 : Value) (s8 : Value) (h : Heap) (K1 : List Value → Heap → Prop) (Q : Value → Heap → Prop) : Prop :=
    arith (· + ·) s8 (.int .i64 1) fun t15 =>
    K1 [t15] h
def s_RightCounts.j3 (s1 : Value) (s6 : Value) (s7 : Value) (s8 : Value) (h : Heap) (K1 : List Value → Heap → Prop) (Q : Value → Heap → Prop) : Prop :=
    idx 3 s6 s8 fun t10 =>
    loadN 3 t10 h fun t11 =>
    alloc [(.slice none 0 0), (.slice none 0 0), (.int .i64 0)] 25 h fun t4 h =>
    storeN 3 t4 t11 h fun h =>
    loadN 3 t4 h fun t12 =>
    s_RightCounts.call #[t12] h fun t13 h =>
    notV t13 fun t14 =>
    ifV t14
    (Q (.bool false) h)
    (s_RightCounts.j4 s1 s6 s7 s8 h K1 Q)
def s_RightCounts.l2.b (c1 : Value) (c6 : Value) (c7 : Value) (s8 : Value) (h : Heap) (K1 : List Value → Heap → Prop) (Q : Value → Heap → Prop) : Prop :=
    cmpI (fun a b => decide (a < b)) s8 c7 fun t9 =>
    ifV t9
    (s_RightCounts.j3 c1 c6 c7 s8 h K1 Q)
    (s_RightCounts.j1 c1 h Q)
def s_RightCounts.sh (a0 : Value) (h : Heap) (Q : Value → Heap → Prop) : Prop :=
    box 25 a0 h fun t1 h =>
    fld 1 t1 fun t5 =>
    load1 t5 h fun t6 =>
    lenV t6 fun t7 =>
    loopC (fun c s h K1 => s_RightCounts.l2.b (c.getD 0 undef) (c.getD 1 undef) (c.getD 2 undef) (s.getD 0 undef) h K1 Q) [t1, t6, t7] [(.int .i64 0)] h
theorem s_RightCounts.body (a0 : Value) (h : Heap) (Q : Value → Heap → Prop) (H : s_RightCounts.sh a0 h Q) : s_RightCounts.call #[a0] h Q := by
  refine callsH_of (args := [a0]) Try.func70 rfl rfl ?_
  unfold s_RightCounts.sh at H
  refine WPc_seq' ?_
  refine W_region (by kernel_rfl) ?_
  refine vl_n ?_
  refine H_box H fun t1 h H => ?_
  refine vl_n ?_
  refine H_of_R (R_assign (v := (.bool false)) rfl ?_)
  refine vl_e ?_
  refine WPc_seq (fun e h => s_RightCounts.j1 (e 1) h Q) ?_ (fun e h H => ?_)
  rotate_left
  · unfold s_RightCounts.j1 at H
    refine WPc_seq' ?_
    refine W_drawn [0, 1, 0, 4, 12, 31, 63] (.take 0 (.take 1 (.take 2 (.alt 3 (.take 4 (.take 5 (.take 6 .done))) .none)))) mixed (by kernel_rfl) ?_
    refine tkP rfl ?_
    refine R_fld TF_25_2 H fun t16 H => ⟨fun _ => trivial, ?_⟩
    refine tkL rfl ?_
    refine R_load1 T1_3 H fun at17 t17 hat17 _ H => ?_
    refine tkL rfl ?_
    refine R_loadN TN_25 H fun at18 xt18 hat18 _ H St18 hSt18 => ?_
    refine alt_n rfl ?_ vp_none
    refine H_call HB_19 H fun t19 h ⟨S, H⟩ => ⟨(hskip rfl (hcons rfl (still_1 S hat17) hnil)), ?_⟩
    refine tkP rfl ?_
    refine R_len Try.underlying22 H fun t20 H => ⟨fun _ => trivial, ?_⟩
    refine tkP rfl ?_
    refine R_eqI H fun t21 H => ⟨fun _ => trivial, ?_⟩
    refine tkP rfl ?_
    refine R_assign (v := t21) rfl ⟨fun _ => trivial, ?_⟩
    refine vp_done ?_
    refine WPc_ret ?_
    refine resH_of rfl ?_
    exact H
  refine WPc_seq' ?_
  refine W_region (by kernel_rfl) ?_
  refine vl_n ?_
  refine H_of_R (R_fld TF_25_1 H fun t5 H => ?_)
  refine vl_n ?_
  refine H_of_R (R_load1 T1_23 H fun _ t6 _ _ H => ?_)
  refine vl_n ?_
  refine H_of_R (R_len Try.underlying23 H fun t7 H => ?_)
  refine vl_n ?_
  refine H_of_R (R_move (v := (.int .i64 0)) rfl ?_)
  refine vl_e ?_
  refine WPc_block ?_
  refine loop_at (fun e => [e 8]) (fun e => [e 1, e 6, e 7]) H rfl rfl ?_
  intro K1 e1 h H hin1
  replace H : s_RightCounts.l2.b (e1 1) (e1 6) (e1 7) (e1 8) h K1 Q := H
  unfold s_RightCounts.l2.b at H
  clear hin1
  refine WPc_seq' ?_
  refine W_region (by kernel_rfl) ?_
  refine vl_n ?_
  refine H_of_R (R_lss H fun t9 H => ?_)
  refine vl_e ?_
  refine WPc_seq (fun e h => s_RightCounts.j3 (e 1) (e 6) (e 7) (e 8) h K1 Q ∧ [e1 1, e1 6, e1 7] = [e 1, e 6, e 7]) ?_ (fun e h ⟨H, hq1⟩ => ?_)
  rotate_left
  · unfold s_RightCounts.j3 at H
    refine WPc_seq (fun e h => s_RightCounts.j4 (e 1) (e 6) (e 7) (e 8) h K1 Q ∧ [e1 1, e1 6, e1 7] = [e 1, e 6, e 7]) ?_ (fun e h ⟨H, hq1⟩ => ?_)
    rotate_left
    · unfold s_RightCounts.j4 at H
      refine W_region (by kernel_rfl) ?_
      refine vl_n ?_
      refine H_of_R (R_add H fun t15 H => ?_)
      refine vl_n ?_
      refine H_of_R (R_move (v := t15) rfl ?_)
      refine vl_e ?_
      exact ⟨H, hq1⟩
    refine WPc_block ?_
    refine WPc_seq' ?_
    refine W_region (by kernel_rfl) ?_
    refine vl_n ?_
    refine H_of_R (R_idx TE_23 H fun t10 H => ?_)
    refine vl_n ?_
    refine H_of_R (R_loadN TN_25 H fun _ t11 _ _ H _ _ => ?_)
    refine vl_n ?_
    refine H_alloc TV_25 H fun t4 h H => ?_
    refine vl_n ?_
    refine H_storeN TS_25 H fun h H => ?_
    refine vl_e ?_
    refine WPc_seq' ?_
    refine W_region (by kernel_rfl) ?_
    refine vl_n ?_
    refine H_of_R (R_loadN TN_25 H fun _ t12 _ _ H _ _ => ?_)
    refine vl_n ?_
    refine H_call HB_70 H fun t13 h H => ?_
    refine vl_n ?_
    refine H_of_R (R_not H fun t14 H => ?_)
    refine vl_e ?_
    obtain ⟨b, hc, H1, H2⟩ := H
    refine WPc_cond hc (fun hh => ?_) (fun hh => ?_)
    · have H := H1 hh; clear H1 H2
      refine WPc_seq' ?_
      refine W_region (by kernel_rfl) ?_
      refine vl_n ?_
      refine H_of_R (R_assign (v := (.bool false)) rfl ?_)
      refine vl_e ?_
      refine WPc_ret ?_
      refine resH_of rfl ?_
      exact H
    · have H := H2 hh; clear H1 H2
      refine WPc_skip ?_
      exact ⟨H, hq1⟩
  obtain ⟨b, hc, H1, H2⟩ := H
  refine WPc_cond hc (fun hh => ?_) (fun hh => ?_)
  · have H := H1 hh; clear H1 H2
    refine WPc_skip ?_
    exact ⟨H, rfl⟩
  · have H := H2 hh; clear H1 H2
    refine WPc_exit ?_
    exact H
/-! ### laws.holds -/
def l_holds.sh (a0 : Value) (a1 : Value) (a2 : Value) (h : Heap) (Q : Value → Heap → Prop) : Prop :=
    box 39 a0 h fun t3 h =>
    box 25 a1 h fun t4 h =>
    loadN 3 t3 h fun t7 =>
    loadN 3 t4 h fun t8 =>
    s_Valid.call #[t7, t8] h fun t9 h =>
    br t9 true (loadN 3 t4 h fun t11 =>
    s_RightCounts.call #[t11] h fun t12 h =>
    br t12 true (loadN 3 t4 h fun t15 =>
    s_NodeItems.call #[t15] h fun t16 h =>
    sl_Equal_implItemI.call #[t16, a2] h fun t18 h =>
    Q t18 h) (Q (.bool false) h)) (Q (.bool false) h)
theorem l_holds.body (a0 : Value) (a1 : Value) (a2 : Value) (h : Heap) (Q : Value → Heap → Prop) (H : l_holds.sh a0 a1 a2 h Q) : l_holds.call #[a0, a1, a2] h Q := by
  refine callsH_of (args := [a0, a1, a2]) Try.func22 rfl rfl ?_
  unfold l_holds.sh at H
  refine WPc_seq' ?_
  refine W_region (by kernel_rfl) ?_
  refine vl_n ?_
  refine H_box H fun t3 h H => ?_
  refine vl_n ?_
  refine H_box H fun t4 h H => ?_
  refine vl_n ?_
  refine H_of_R (R_assign (v := (.bool false)) rfl ?_)
  refine vl_e ?_
  refine WPc_seq' ?_
  refine W_region (by kernel_rfl) ?_
  refine vl_n ?_
  refine H_of_R (R_loadN TN_39 H fun _ t7 _ _ H _ _ => ?_)
  refine vl_n ?_
  refine H_of_R (R_loadN TN_25 H fun _ t8 _ _ H _ _ => ?_)
  refine vl_n ?_
  refine H_call HB_55 H fun t9 h H => ?_
  refine vl_n ?_
  refine H_of_R (R_move (v := t9) rfl ?_)
  obtain ⟨b, hb, H1, H2⟩ := H
  cases b
  · have H := H2 rfl; clear H1 H2
    refine vl_s rfl (nbT hb) ?_
    refine vl_s rfl (nbT hb) ?_
    refine vl_n ?_
    refine H_of_R (R_pickC (v := (.bool false)) false hb rfl ?_)
    refine vl_n ?_
    refine H_of_R (R_move (v := (.bool false)) rfl ?_)
    refine vl_s rfl (nbT rfl) ?_
    refine vl_s rfl (nbT rfl) ?_
    refine vl_s rfl (nbT rfl) ?_
    refine vl_s rfl (nbT rfl) ?_
    refine vl_n ?_
    refine H_of_R (R_pickC (v := (.bool false)) false rfl rfl ?_)
    refine vl_n ?_
    refine H_of_R (R_assign (v := (.bool false)) rfl ?_)
    refine vl_e ?_
    refine WPc_ret ?_
    refine resH_of rfl ?_
    exact H
  · have H := H1 rfl; clear H1 H2
    refine vl_y rfl hb ?_
    refine H_of_R (R_loadN TN_25 H fun _ t11 _ _ H _ _ => ?_)
    refine vl_y rfl hb ?_
    refine H_call HB_70 H fun t12 h H => ?_
    refine vl_n ?_
    refine H_of_R (R_pickC (v := t12) true hb rfl ?_)
    refine vl_n ?_
    refine H_of_R (R_move (v := t12) rfl ?_)
    obtain ⟨b_2, hb_2, H1, H2⟩ := H
    cases b_2
    · have H := H2 rfl; clear H1 H2
      refine vl_s rfl (nbT hb_2) ?_
      refine vl_s rfl (nbT hb_2) ?_
      refine vl_s rfl (nbT hb_2) ?_
      refine vl_s rfl (nbT hb_2) ?_
      refine vl_n ?_
      refine H_of_R (R_pickC (v := (.bool false)) false hb_2 rfl ?_)
      refine vl_n ?_
      refine H_of_R (R_assign (v := (.bool false)) rfl ?_)
      refine vl_e ?_
      refine WPc_ret ?_
      refine resH_of rfl ?_
      exact H
    · have H := H1 rfl; clear H1 H2
      refine vl_y rfl hb_2 ?_
      refine H_of_R (R_loadN TN_25 H fun _ t15 _ _ H _ _ => ?_)
      refine vl_y rfl hb_2 ?_
      refine H_call HB_19 H fun t16 h H => ?_
      refine vl_y rfl hb_2 ?_
      refine H_of_R (R_move (v := a2) rfl ?_)
      refine vl_y rfl hb_2 ?_
      refine H_call HB_41 H fun t18 h H => ?_
      refine vl_n ?_
      refine H_of_R (R_pickC (v := t18) true hb_2 rfl ?_)
      refine vl_n ?_
      refine H_of_R (R_assign (v := t18) rfl ?_)
      refine vl_e ?_
      refine WPc_ret ?_
      refine resH_of rfl ?_
      exact H

end Go.Proofs.Ytlihjljdndbpdaa
end
section
namespace Go.Proofs.Ytlihjljdndbpdaa
open Go.Hp
set_option linter.unusedVariables false
set_option linter.unusedSimpArgs false
variable {h0 h : Heap} {Z E : List Rg} {Q : Value → Heap → Prop}
theorem RightCounts_ok : ∀ {k : Nat} (x : PT It k) {g : Heap} {vi vk : Value} {Q : Value → Heap → Prop}, ArgC g x vi vk → (toD x).bulk ≤ 1073741824 →
    (∀ E' h', St g [] E' h' → Q (.bool true) h') → s_RightCounts.call #[.agg #[vi, vk, .int .i64 x.items.length]] g Q := by
  intro k
  induction k with
  | zero =>
    intro x g vi vk Q ha hb H
    have hone := ha.one
    refine s_RightCounts.body _ _ _ ?_
    unfold s_RightCounts.sh
    have s := St.start g
    refine St.r_box (cs := [vi, vk, .int .i64 x.items.length]) s fun t1 h s => ?_
    refine r_fld ?_
    refine St.r_load0 s 0 rfl rfl ?_
    refine (ha.2.st s).lenV ?_
    refine loop_ghost (fun q st h' => q = 0 ∧ st = [.int .i64 0] ∧ h' = h) (n0 := 0) ⟨rfl, rfl, rfl⟩ ?_
    rintro q st _ ⟨rfl, rfl, rfl⟩ K HK
    unfold s_RightCounts.l2.b
    refine r_cmpI ?_
    refine r_if (fun e => absurd e (by simp)) (fun _ => ?_)
    unfold s_RightCounts.j1
    refine r_fld ?_
    refine St.r_load0 s 0 rfl rfl ?_
    refine St.r_loadN0 s 0 rfl (by simp) ?_
    refine s_NodeItems_ok (toD x) ((ha.fr s.fr).toD) hb rfl fun v E2 h s2 hv => ?_
    have s := (s.join s2).perm List.perm_append_comm
    have s : St g [] ((t1, 0, [vi, vk, .int .i64 x.items.length]) :: E2) h := s
    refine ⟨St.r_still0 s 0 (j := 2) rfl rfl, ?_⟩
    refine hv.lenV ?_
    rw [toD_items]
    refine r_cmpI ?_
    have := H _ _ s
    simpa using this
  | succ k ih =>
    intro x g vi vk Q ha hb H
    have ha0 := ha
    have hone := ha.one
    obtain ⟨hr, cs, hcl, hrk, hks⟩ := ha
    refine s_RightCounts.body _ _ _ ?_
    unfold s_RightCounts.sh
    have s := St.start g
    refine St.r_box (cs := [vi, vk, .int .i64 x.items.length]) s fun t1 h s => ?_
    refine r_fld ?_
    refine St.r_load0 s 0 rfl rfl ?_
    refine Rdl.lenV (by assumption) ?_
    have hkb : cs.length ≤ 1073741824 := by
      have h1 := (toD x).kids_le
      have h2 : (toD x).2.length = x.2.length := List.length_map ..
      omega
    refine loop_ghost (fun q st h' => ∃ (j : Nat) (R : List Rg), q = cs.length - j ∧ j ≤ cs.length ∧ st = [.int .i64 (j : Nat)] ∧ St g [] ((t1, 0, [vi, vk, .int .i64 x.items.length]) :: R) h') (n0 := cs.length)
      ⟨0, [], rfl, Nat.zero_le _, rfl, s⟩ ?_
    clear s
    rintro q st h ⟨j, R, rfl, hj, rfl, s⟩ K HK
    unfold s_RightCounts.l2.b
    refine r_cmpI ?_
    refine r_if (fun hlt => ?_) (fun hge => ?_)
    · have hlt : j < cs.length := by have := of_decide_eq_true hlt; omega
      have hlt2 : j < x.2.length := by omega
      obtain ⟨ka, kc⟩ := hks j hlt2 hlt
      have kone := ka.one
      unfold s_RightCounts.j3
      refine (hrk.st s).at (n := j) (f := encN) rfl (fun _ => rfl) rfl rfl hlt fun b o hbb => ?_
      refine hbb.loadN rfl ?_
      refine s.r_alloc fun t4 h s => ?_
      refine St.r_storeN0 s 0 (ys := [cs[j].1, cs[j].2.1, .int .i64 cs[j].2.2]) rfl rfl (by simp) (one3 kone.1 kone.2 rfl) ?_; intro h s
      refine St.r_loadN0 s 0 rfl (by simp) ?_
      have hkb2 : (toD x.2[j]).bulk ≤ 1073741824 := by
        have := (toD x).kid_le (q := toD x.2[j]) (by show toD x.2[j] ∈ x.2.map toD; exact List.mem_map.2 ⟨_, List.getElem_mem hlt2, rfl⟩)
        omega
      have key := ih x.2[j] (g := h) (vi := cs[j].1) (vk := cs[j].2.1) (Q := fun t13 h => notV t13 fun t14 => ifV t14 (Q (.bool false) h) (s_RightCounts.j4 (ptr t1 0) vk (.int .i64 cs.length) (.int .i64 j) h K Q)) (ka.fr s.fr) hkb2 fun E2 h s2 => by
        have s := (s.join s2).perm List.perm_append_comm
        have s : St g [] ((t4, 0, [cs[j].1, cs[j].2.1, .int .i64 cs[j].2.2]) :: (t1, 0, [vi, vk, .int .i64 x.items.length]) :: (R ++ E2)) h := s
        refine r_not ?_
        refine r_if (fun e => absurd e (by simp)) (fun _ => ?_)
        unfold s_RightCounts.j4
        refine r_add1 (by omega) ?_
        exact HK (cs.length - (j + 1)) _ _ (by omega) ⟨j + 1, _, rfl, hlt, rfl, s.tail rfl⟩
      rw [← kc] at key
      exact key
    · unfold s_RightCounts.j1
      refine r_fld ?_
      refine St.r_load0 s 0 rfl rfl ?_
      refine St.r_loadN0 s 0 rfl (by simp) ?_
      refine s_NodeItems_ok (toD x) ((ha0.fr s.fr).toD) hb rfl fun v E2 h s2 hv => ?_
      have s := (s.join s2).perm List.perm_append_comm
      have s : St g [] ((t1, 0, [vi, vk, .int .i64 x.items.length]) :: (R ++ E2)) h := s
      refine ⟨St.r_still0 s 0 (j := 2) rfl rfl, ?_⟩
      refine hv.lenV ?_
      rw [toD_items]
      refine r_cmpI ?_
      have := H _ _ s
      simpa using this
theorem NodeHeight_ok {k : Nat} (t : DT (k + 1)) {g : Heap} {vi vk vc : Value} (ha : ArgD g t vi vk) (hb : t.bulk ≤ 1073741824) (hk : k ≤ 1099511627775) (hvc : one1 vc = true)
    (H : ∀ E' h', St g [] E' h' → Q (.int .i64 ((if t.1 = [] then 0 else t.lv.1 : Nat) : Int)) h') : s_NodeHeight.call #[.agg #[vi, vk, vc]] g Q := by
  have hr := ha.1
  refine s_NodeHeight.body _ _ _ ?_
  unfold s_NodeHeight.sh
  have s := St.start g
  refine St.r_box (cs := [vi, vk, vc]) s fun t1 h s => ?_
  refine r_fld ?_
  refine St.r_load0 s 0 rfl rfl ?_
  refine Rdl.lenV (by assumption) ?_
  refine r_cmpI ?_
  by_cases e : t.1 = []
  · rw [if_pos e] at H
    refine r_if (fun _ => H _ _ s) (fun e2 => absurd e2 (by rw [e]; simp))
  · rw [if_neg e] at H
    refine r_if (fun e2 => absurd e2 (by simpa using e)) (fun _ => ?_)
    unfold s_NodeHeight.j1
    refine St.r_loadN0 s 0 rfl (by simp) ?_
    refine s_Levels_ok t (ha.fr s.fr) hb (by omega) hvc fun E2 h s2 => ?_
    refine r_ext rfl ?_
    refine r_ext rfl ?_
    exact H _ _ (s.join s2)
theorem holds_ok {d : Nat} (hd : 2 ≤ d) (hd2 : d ≤ 512) {k : Nat} (x : PT It k) {L : List It} {g : Heap} {vi vk v : Value} (ha : ArgC g x vi vk) (hv : validB d (toD x)) (hb : (toD x).bulk ≤ 1073741824) (hk : k ≤ 1099511627775) (hL : L = x.items) (hr : Rdl 2 g v L.length (L.flatMap encA))
    (H : ∀ E' h', St g [] E' h' → Q (.bool true) h') : l_holds.call #[.agg #[.slice none 0 0, .int .i64 d, .bool false], .agg #[vi, vk, .int .i64 x.items.length], v] g Q := by
  subst hL
  have hone := ha.one
  have hil := (toD x).items_le
  rw [toD_items] at hil
  refine l_holds.body _ _ _ _ _ ?_
  unfold l_holds.sh
  have s := St.start g
  refine St.r_box (cs := [.slice none 0 0, .int .i64 d, .bool false]) s fun t3 h s => ?_
  refine St.r_box (cs := [vi, vk, .int .i64 x.items.length]) s fun t4 h s => ?_
  refine St.r_loadN0 s 1 rfl (by simp) ?_
  refine St.r_loadN0 s 0 rfl (by simp) ?_
  refine s_Valid_ok (toD x) ((ha.fr s.fr).toD) hb hk (by omega) (by omega) rfl rfl fun b E2 h hbv s2 => ?_
  have hb1 : b = true := hbv.2 hv
  subst hb1
  have s := (s.join s2).perm List.perm_append_comm
  have s : St g [] ((t4, 0, [vi, vk, .int .i64 x.items.length]) :: (t3, 0, [.slice none 0 0, .int .i64 d, .bool false]) :: E2) h := s
  refine r_br (fun _ => ?_) (fun e => absurd e (by decide))
  refine St.r_loadN0 s 0 rfl (by simp) ?_
  refine RightCounts_ok x (ha.fr s.fr) hb fun E3 h s3 => ?_
  have s := (s.join s3).perm List.perm_append_comm
  have s : St g [] ((t4, 0, [vi, vk, .int .i64 x.items.length]) :: (t3, 0, [.slice none 0 0, .int .i64 d, .bool false]) :: (E2 ++ E3)) h := s
  refine r_br (fun _ => ?_) (fun e => absurd e (by decide))
  refine St.r_loadN0 s 0 rfl (by simp) ?_
  refine s_NodeItems_ok (toD x) ((ha.fr s.fr).toD) hb rfl fun v2 E4 h s4 hv2 => ?_
  rw [toD_items] at hv2
  have s := s.join s4
  exact Ii.EqualI_ok hv2 (hr.st s) (by omega) (H _ _ s)
/-- The tree below a map's root; none is the tree of no items. -/
def mt0 : MT It → (k : Nat) × PT It k
  | none => ⟨0, ([] : List It)⟩
  | some t => t
def mh : MT It → Nat
  | none => 0
  | some t => t.1 + 1
theorem mt0_items (y : MT It) : (mt0 y).2.items = y.items := by cases y <;> rfl
theorem mh_set (m : Nat) (y : MT It) (x : It) : (y.set Ii.lt m x) ≠ none ∧ (mh (y.set Ii.lt m x) = mh y ∨ mh (y.set Ii.lt m x) = mh y + 1) := by
  cases y with
  | none => exact ⟨by simp [MT.set], .inr rfl⟩
  | some t =>
    unfold MT.set
    dsimp only
    split
    · exact ⟨by simp, .inr rfl⟩
    · exact ⟨by simp, .inl rfl⟩
theorem Sh_mono {m m' : Nat} (h : m ≤ m') : ∀ {k : Nat} {x : PT It k}, x.Sh m → x.Sh m'
  | 0, _, s => Nat.le_trans s h
  | _ + 1, _, s => ⟨Nat.le_trans s.1 h, s.2.1, fun c hc => Sh_mono h (s.2.2 c hc)⟩
theorem fell_ok {tb m : Nat} {cnt mn mx : Int} {ctr : Option Addr} {g : Ii.Rt} (M : Ii.MapOk m 0 g) (hl : (Ii.rPt g).items.length ≤ 1073741822) (s : St h0 Z ((tb, 0, Ii.hdr 0 ctr (Ii.rA g) cnt mn mx) :: (Ii.rAll g ++ E)) h)
    (H : ∀ vi vk A h', St h0 Z (A ++ ((tb, 0, Ii.hdr 0 ctr (Ii.rA g) cnt mn mx) :: (Ii.rAll g ++ E))) h' → (∀ g', (∀ r ∈ A, r.Ok g') → ArgC g' (mt0 (Ii.rPt g)).2 vi vk) → one1 vi = true → one1 vk = true → Q (.agg #[vi, vk, .int .i64 (Ii.rPt g).items.length]) h') : i_fellMap.call #[ptr tb 0] h Q := by
  refine i_fellMap.body _ _ _ ?_
  unfold i_fellMap.sh
  refine s.r_alloc fun t2 h s => ?_
  refine Map_ii_DoorRoot.body _ _ _ ?_
  unfold Map_ii_DoorRoot.sh
  refine s.r_alloc fun t9 h s => ?_
  refine r_nil ?_
  refine r_fld ?_
  refine St.r_load0 s 2 rfl rfl ?_
  (apply r_build; (simp only [fillV, fill1, Value.cells, zeros_succ, zeros_zero, List.size_toArray, List.length_cons, List.length_nil, List.length_append, List.take_succ_cons, List.take_zero, List.take_nil, List.drop_succ_cons, List.drop_zero, List.drop_nil, List.cons_append, List.nil_append, List.append_nil, Nat.reduceAdd, Nat.reduceMul, Nat.reduceLeDiff, Nat.reduceEqDiff, and_self, and_true, true_and, if_true, Nat.le_refl, Nat.zero_add, Nat.add_zero, Nat.zero_mul, reduceIte, if_false] <;> rfl))
  refine r_nil ?_
  refine r_fld ?_
  refine St.r_load0 s 2 rfl rfl ?_
  refine r_neNilP ?_
  refine St.r_storeN0 s 0 (ys := [.pointer (Ii.rA g)]) rfl rfl (by simp) (by simp [one1]) ?_; intro h s
  refine ⟨St.r_still1 s 2 (j := 2) rfl rfl, ?_⟩
  refine St.r_loadN0 s 0 rfl (by simp) ?_
  refine r_ext rfl ?_
  refine r_ext rfl ?_
  refine s.r_alloc fun t3 h s => ?_
  refine St.r_storeN0 s 0 (ys := [.pointer (Ii.rA g)]) rfl rfl (by simp) (by simp [one1]) ?_; intro h s
  refine r_not ?_
  cases g with
  | none =>
    refine r_if (fun _ => ?_) (fun e => absurd e (by simp [Ii.rA]))
    have s : St h0 Z ((t3, 0, [.pointer none]) :: (t9, 0, [.pointer none]) :: (t2, 0, [.slice none 0 0, .slice none 0 0, .int .i64 0]) :: (tb, 0, Ii.hdr 0 ctr none cnt mn mx) :: E) h := s
    ((apply r_build; ((simp only [fillV, fill1, Value.cells, zeros_succ, zeros_zero, List.size_toArray, List.length_cons, List.length_nil, List.length_append, List.take_succ_cons, List.take_zero, List.take_nil, List.drop_succ_cons, List.drop_zero, List.drop_nil, List.cons_append, List.nil_append, List.append_nil, Nat.reduceAdd, Nat.reduceMul, Nat.reduceLeDiff, Nat.reduceEqDiff, and_self, and_true, true_and, if_true, Nat.le_refl, Nat.zero_add, Nat.add_zero, Nat.zero_mul, reduceIte, if_false] <;> rfl))))
    refine St.r_storeN0 s 2 (ys := [.slice none 0 0, .slice none 0 0, .int .i64 0]) rfl rfl (by simp) (by simp [one1]) ?_; intro h s
    refine St.r_loadN0 s 2 rfl (by simp) ?_
    exact H (.slice none 0 0) (.slice none 0 0) [(t3, 0, [.pointer none]), (t9, 0, [.pointer none]), (t2, 0, [.slice none 0 0, .slice none 0 0, .int .i64 0])] h s (fun g' _ => ⟨Rdl.nil 2 g', Rdl.nil 3 g'⟩) rfl rfl
  | some t =>
    obtain ⟨k, t⟩ := t
    refine r_if (fun e => absurd e (by simp [Ii.rA])) (fun _ => ?_)
    unfold i_fellMap.j1
    refine St.r_loadN0 s 0 rfl (by simp) ?_
    have hat : t.At enc 2 h := GT.At.of M.gd.wf fun r hr => s.ok (List.mem_append.2 (.inl (by
      refine List.mem_cons_of_mem _ (List.mem_cons_of_mem _ (List.mem_cons_of_mem _ (List.mem_cons_of_mem _ (List.mem_append.2 (.inl hr)))))
      )))
    have hm1 := M.m1
    have hsh : t.pt.Sh 1073741823 := by
      have f : t.pt.Fl m 1 := M.fl
      exact Sh_mono (by omega) f.sh
    refine lifted_ok t hat M.gd.cn hsh fun vi vk A h s2 hA o1 o2 => ?_
    have s := (s.join s2).perm List.perm_append_comm
    have s : St h0 Z ((t3, 0, [ptr t.id 0]) :: (t9, 0, [ptr t.id 0]) :: (t2, 0, [.slice none 0 0, .slice none 0 0, .int .i64 0]) :: (((tb, 0, Ii.hdr 0 ctr (Ii.rA (some ⟨k, t⟩)) cnt mn mx) :: (Ii.rAll (some ⟨k, t⟩) ++ E)) ++ A)) h := s
    refine St.r_storeN0 s 2 (ys := [vi, vk, .int .i64 t.pt.items.length]) rfl rfl (by simp) (one3 o1 o2 rfl) ?_; intro h s
    refine St.r_loadN0 s 2 rfl (by simp) ?_
    refine H vi vk ((t3, 0, [ptr t.id 0]) :: (t9, 0, [ptr t.id 0]) :: (t2, 0, [vi, vk, .int .i64 t.pt.items.length]) :: A) h (s.perm ?_) (fun g' hg => hA g' fun r hr => hg r (List.mem_cons_of_mem _ (List.mem_cons_of_mem _ (List.mem_cons_of_mem _ hr)))) o1 o2
    refine List.Perm.cons _ (List.Perm.cons _ (List.Perm.cons _ ?_))
    exact List.perm_append_comm
end Go.Proofs.Ytlihjljdndbpdaa
end
section
namespace Go.Proofs.Ytlihjljdndbpdaa.Ii
open Go.Hp Go.Proofs.Ytlihjljdndbpdaa
set_option linter.unusedVariables false
set_option linter.unusedSimpArgs false
variable {h0 h : Heap} {Z E : List Rg} {Q : Value → Heap → Prop}

theorem pos_end {l : List It} {x : It} (h : ∀ y ∈ l, lt y x = true) : pos lt l x = l.length ∧ lget lt l x = none := by
  have e : pos lt l x = l.length := pos_uni (Nat.le_refl _) (fun j hj _ => h _ (List.getElem_mem hj)) (fun hl => absurd hl (Nat.lt_irrefl _))
  exact ⟨e, by unfold lget; rw [e, List.getElem?_eq_none (Nat.le_refl _)]; rfl⟩

theorem topIso : ∀ {k : Nat} {t : GT It k}, ∃ a2 a3 a4, (t.id, 0, [.int .u64 t.nd.iso, a2, a3, a4]) ∈ t.all enc
  | 0, d => ⟨_, _, _, List.mem_cons_self ..⟩
  | _ + 1, t => ⟨_, _, _, List.mem_append.2 (.inl (List.mem_cons_self ..))⟩
/-- What is left to do behind the append. -/
def loadEnd (tb : Nat) (h : Heap) (Q : Value → Heap → Prop) : Prop :=
  nilck (ptr tb 0) fun t77 => fld 3 t77 fun t78 => load1 t78 h fun t79 => arith (· + ·) t79 (.int .i64 1) fun t80 => nilck (ptr tb 0) fun t81 => fld 3 t81 fun t82 => store1 t82 t80 h fun h => nilck (ptr tb 0) fun t84 => fld 4 t84 fun t85 =>
    fld 0 t85 fun t86 => load1 t86 h fun t87 => Q (.tuple #[t87, (.bool false)]) h
/-- Back up: the counts as they were. -/
theorem revert_ok {tr t8 : Value} {iso : Int} {m : Nat} (hm : m ≤ 1024) : ∀ {k : Nat} (c : GT It k) {lo : Nat} {E : List Rg} {h : Heap}, c.pt.Fl m lo → Gd iso c → c.pt.items.length ≤ 4611686018427387903 → St h0 Z ((c.bump 1).all enc ++ E) h → (∀ h', St h0 Z (c.all enc ++ E) h' → Map_ii_Load.j3 tr t8 h' Q) →
    LoopOk (fun c s h K1 => Map_ii_Load.l4.b (c.getD 0 undef) (c.getD 1 undef) (s.getD 0 undef) h K1 Q) [tr, t8] k [ptr c.id 0] h
  | 0, (d : Nd It), lo, E, h, fl, g, hsz, s, H => by
    obtain ⟨own, n, is', cnt, its, iv, ib, io, isp, kb, kv', krb, kro, ksp⟩ := d
    intro K
    have s : St h0 Z ((n, 0, [.int .u64 is', .int .i64 (cnt + 1), iv, .pointer none]) :: (ib, io, its.flatMap enc ++ isp) :: E) h := s
    have hcn : cnt = its.length := g.cn
    have hsz : its.length ≤ 4611686018427387903 := hsz
    show Map_ii_Load.l4.b tr t8 (ptr n 0) h K Q
    unfold Map_ii_Load.l4.b
    refine r_nil ?_
    refine r_fld ?_
    refine St.r_load0 s 0 rfl rfl ?_
    refine r_sub (z := cnt) (by rw [i64w (by omega) (by omega)]; omega) ?_
    refine r_nil ?_
    refine r_fld ?_
    refine St.r_store0 s 0 rfl (by simp) rfl ?_
    intro h s
    try simp only [List.set_cons_zero, List.set_cons_succ] at s
    refine leaf_ok (a := none) (s.get (k := 0) (j := 3) rfl (by simp)) ?_
    refine r_if (fun _ => ?_) (fun e => absurd e (by simp))
    exact H h s
  | k + 1, t, lo, E, h, fl, g, hsz, s, H => by
    obtain ⟨d, ts⟩ := t
    obtain ⟨own, n, is', cnt, its, iv, ib, io, isp, kb, kv', krb, kro, ksp⟩ := d
    intro K HK
    have hkl : ts.length = its.length + 1 := g.wf.2.2.1
    have wK : Own 1 kv' ts.length krb kro ((ts.map GT.id).map fun m => ptr m 0) ksp := g.wf.2.1
    have hcn : cnt = (PT.items (h := k + 1) (its, ts.map GT.pt)).length := g.cn.1
    have hsz : (PT.items (h := k + 1) (its, ts.map GT.pt)).length ≤ 4611686018427387903 := hsz
    obtain ⟨c, hc⟩ : ∃ c, ts[ts.length - 1]? = some c := ⟨ts[ts.length - 1]'(by omega), List.getElem?_eq_getElem (by omega)⟩
    have hcm := List.mem_of_getElem? hc
    have hcm2 : c.pt ∈ ts.map GT.pt := List.mem_map.2 ⟨c, hcm, rfl⟩
    have hfc : PT.Fl m (m / 2) c.pt := fl.2.2.2 _ hcm2
    have hlm : its.length ≤ m := fl.2.1
    have hcsz : c.pt.items.length ≤ 4611686018427387903 := by
      have h1 : (inter its ((ts.map GT.pt).map PT.items)).length = _ := inter_length _ _
      have h2 : (inter its ((ts.map GT.pt).map PT.items)).length ≤ 4611686018427387903 := hsz
      have h3 : c.pt.items.length ≤ (((ts.map GT.pt).map PT.items).map List.length).sum := mem_le_sum (by
        rw [List.map_map, List.map_map]; exact List.mem_map.2 ⟨c, hcm, rfl⟩)
      omega
    have s : St h0 Z ((n, 0, [.int .u64 is', .int .i64 (cnt + 1), iv, ptr kb 0]) :: (ib, io, its.flatMap enc ++ isp) :: (kb, 0, [kv']) :: (krb, kro, (((ts.modify (ts.length - 1) (GT.bump 1)).map GT.id).map fun m => ptr m 0) ++ ksp) :: ((ts.modify (ts.length - 1) (GT.bump 1)).flatMap (GT.all enc) ++ E)) h := s
    rw [modify_last hc, mfp] at s
    have hi := (List.getElem?_eq_some_iff.1 hc).1
    have hc' : (ts.set (ts.length - 1) (c.bump 1))[ts.length - 1]? = some (c.bump 1) := List.getElem?_set_self hi
    have etake : (ts.set (ts.length - 1) (c.bump 1)).take (ts.length - 1) = ts.take (ts.length - 1) := List.take_set_of_le (Nat.le_refl _)
    have edrop : (ts.set (ts.length - 1) (c.bump 1)).drop (ts.length - 1 + 1) = ts.drop (ts.length - 1 + 1) := List.drop_set_of_lt (by omega)
    rw [flat_at3 (GT.all enc) hc', etake, edrop, set_ids hc (GT.bump_id c)] at s
    show Map_ii_Load.l4.b tr t8 (ptr n 0) h K Q
    unfold Map_ii_Load.l4.b
    refine r_nil ?_
    refine r_fld ?_
    refine St.r_load0 s 0 rfl rfl ?_
    refine r_sub (z := cnt) (by rw [i64w (by omega) (by omega)]; omega) ?_
    refine r_nil ?_
    refine r_fld ?_
    refine St.r_store0 s 0 rfl (by simp) rfl ?_
    intro h s
    try simp only [List.set_cons_zero, List.set_cons_succ] at s
    refine leaf_ok (a := some ⟨kb, 0, Option.none⟩) (s.get (k := 0) (j := 3) rfl (by simp)) ?_
    refine r_if (fun e => absurd e (by simp)) (fun _ => ?_)
    unfold Map_ii_Load.j5
    refine r_nil ?_
    refine r_fld ?_
    refine St.r_load0 s 0 rfl rfl ?_
    refine r_nil ?_
    refine St.r_load0 s 2 rfl rfl ?_
    refine r_nil ?_
    refine r_fld ?_
    refine St.r_load0 s 0 rfl rfl ?_
    refine r_nil ?_
    refine St.r_load0 s 2 rfl rfl ?_
    refine wK.lenV ?_
    refine r_sub (z := ((ts.length - 1 : Nat) : Int)) (by rw [i64w (by omega) (by omega)]; omega) ?_
    refine wK.idx (n := ts.length - 1) rfl (by omega) ?_
    refine r_loadM1 s 3 rfl hc ?_
    have := revert_ok (tr := tr) (t8 := t8) hm c (E := (n, 0, [.int .u64 is', .int .i64 cnt, iv, ptr kb 0]) :: (ib, io, its.flatMap enc ++ isp) :: (kb, 0, [kv']) :: (krb, kro, (ts.map GT.id).flatMap fp ++ ksp) :: ((ts.take (ts.length - 1)).flatMap (GT.all enc) ++ ((ts.drop (ts.length - 1 + 1)).flatMap (GT.all enc) ++ E))) hfc (g.kid hcm) hcsz (s.perm (by ((apply perm_rg; intro f; simp only [List.set_cons_zero, List.set_cons_succ, List.eraseIdx_cons_zero, List.eraseIdx_cons_succ, List.cons_append, List.nil_append, List.map_append, List.map_cons, List.map_nil, List.sum_append, List.sum_cons, List.sum_nil, List.map_flatMap, Nat.add_zero, Nat.zero_add]; ac_rfl)))) fun h' s => ?_
    · exact HK _ _ this
    · refine H h' ?_
      have s1 : St h0 Z ((n, 0, [.int .u64 is', .int .i64 cnt, iv, ptr kb 0]) :: (ib, io, its.flatMap enc ++ isp) :: (kb, 0, [kv']) :: (krb, kro, (ts.map GT.id).flatMap fp ++ ksp) :: (ts.flatMap (GT.all enc) ++ E)) h' := s.perm (by rw [flat_at3 (GT.all enc) hc]; ((apply perm_rg; intro f; simp only [List.set_cons_zero, List.set_cons_succ, List.eraseIdx_cons_zero, List.eraseIdx_cons_succ, List.cons_append, List.nil_append, List.map_append, List.map_cons, List.map_nil, List.sum_append, List.sum_cons, List.sum_nil, List.map_flatMap, Nat.add_zero, Nat.zero_add]; ac_rfl)))
      rw [← mfp] at s1
      exact s1

/-- Down the last way: the item is appended to the last leaf, or nothing but the counts has changed. -/
theorem down_ok {tb t8 m : Nat} {iso mn : Int} {ctr : Option Addr} {x : It} (hT0 : (tb, 0, hd0 iso ctr) ∈ Z) (hT4 : (tb, 4, hd4 mn m) ∈ Z) (h8 : (t8, 0, enc x) ∈ Z) (hm : m ≤ 1024) (hm3 : 3 ≤ m) (ho : m % 2 = 1) : ∀ {k : Nat} (c : GT It k) {lo : Nat} {E : List Rg} {h : Heap}, 1 ≤ lo → c.pt.Fl m lo → Asc lt c.pt.items → Gd iso c → c.pt.items.length ≤ 4611686018427387903 → St h0 Z (c.all enc ++ E) h →
    (∀ (c' : GT It k) h', (∀ y ∈ c.pt.items, lt y x = true) → c.pt.splits lt m x = false → c'.pt = c.pt.set lt m x → c'.id = c.id → Gd iso c' → St h0 Z (c'.all enc ++ E) h' → loadEnd tb h' Q) →
    (∀ h', St h0 Z ((c.bump 1).all enc ++ E) h' → Map_ii_Load.j2 (ptr tb 0) (ptr t8 0) h' Q) →
    LoopOk (fun c s h K1 => Map_ii_Load.l6.b (c.getD 0 undef) (c.getD 1 undef) (s.getD 0 undef) h K1 Q) [ptr tb 0, ptr t8 0] k [ptr c.id 0] h
  | 0, (d : Nd It), lo, E, h, hlo, fl, ha, g, hsz, s, H1, H2 => by
    obtain ⟨own, n, is', cnt, its, iv, ib, io, isp, kb, kv', krb, kro, ksp⟩ := d
    intro K
    have hw : own = true := g.mine
    have hiso : is' = iso := g.wf.2.1 hw
    subst hiso; subst hw
    have w : Own 2 iv its.length ib io (its.flatMap enc) isp := g.wf.1
    have s : St h0 Z ((n, 0, [.int .u64 is', .int .i64 cnt, iv, .pointer none]) :: (ib, io, its.flatMap enc ++ isp) :: E) h := s
    have hcn : cnt = its.length := g.cn
    have hl1 : lo ≤ its.length := fl.1
    have hl2 : its.length ≤ m := fl.2
    have ha : Asc lt its := ha
    have no : ∀ h', St h0 Z ((n, 0, [.int .u64 is', .int .i64 (cnt + 1), iv, .pointer none]) :: (ib, io, its.flatMap enc ++ isp) :: E) h' → Map_ii_Load.j2 (ptr tb 0) (ptr t8 0) h' Q := fun h' s => H2 h' s
    show Map_ii_Load.l6.b (ptr tb 0) (ptr t8 0) (ptr n 0) h K Q
    unfold Map_ii_Load.l6.b
    refine r_nil ?_
    refine r_fld ?_
    refine St.r_load0 s 0 rfl rfl ?_
    refine r_add (z := cnt + 1) (by rw [i64w (by omega) (by omega)]) ?_
    refine r_nil ?_
    refine r_fld ?_
    refine St.r_store0 s 0 rfl (by simp) rfl ?_
    intro h s
    try simp only [List.set_cons_zero, List.set_cons_succ] at s
    refine leaf_ok (a := none) (s.get (k := 0) (j := 3) rfl (by simp)) ?_
    refine r_if (fun _ => ?_) (fun e => absurd e (by simp))
    refine r_nil ?_
    refine r_fld ?_
    refine St.r_load0 s 0 rfl rfl ?_
    refine w.lenV ?_
    refine r_nil ?_
    refine r_fld ?_
    refine s.r_lz hT4 3 rfl rfl ?_
    refine r_cmpI ?_
    refine r_if (fun hroom => ?_) (fun hfull => ?_)
    · have hroom : its.length < m := by have : (its.length : Int) < m := by simpa using hroom
                                        omega
      refine r_nil ?_
      refine r_fld ?_
      refine St.r_load0 s 0 rfl rfl ?_
      refine r_nil ?_
      refine r_fld ?_
      refine St.r_load0 s 0 rfl rfl ?_
      refine w.lenV ?_
      refine r_sub (z := ((its.length - 1 : Nat) : Int)) (by rw [i64w (by omega) (by omega)]; omega) ?_
      refine w.idx (n := its.length - 1) rfl (by omega) ?_
      refine r_fld ?_
      have hy : its[its.length - 1]? = some (its[its.length - 1]'(by omega)) := List.getElem?_eq_getElem (by omega)
      refine s.r_load1F encl (r := 1) 1 rfl hy rfl ?_
      refine r_fld ?_
      refine s.r_lz0 h8 (j := 1) rfl ?_
      refine r_cmpI ?_
      refine r_if (fun hlt => ?_) (fun hge => ?_)
      · have hlt : lt (its[its.length - 1]'(by omega)) x = true := hlt
        have hall : ∀ y ∈ its, lt y x = true := fun y hy => by
          obtain ⟨i, hi, rfl⟩ := List.getElem_of_mem hy
          rcases Nat.lt_or_ge i (its.length - 1) with h | h
          · exact swo.tr _ _ _ (List.pairwise_iff_getElem.1 ha i (its.length - 1) hi (by omega) h) hlt
          · have : i = its.length - 1 := by omega
            subst this; exact hlt
        obtain ⟨e1, e2⟩ := pos_end hall
        have eput : lput lt its x = its ++ [x] := by rw [lput_ins e2, e1]; unfold ins; simp
        have hsp : PT.splits lt m (h := 0) its x = false := by rw [PT.splits_leaf, e2]; simp; omega
        refine r_nil ?_
        refine r_fld ?_
        refine St.r_load0 s 0 rfl rfl ?_
        refine s.r_lzE h8 0 (enc x) rfl (by simp) rfl ?_
        refine St.r_mkSl (sz := 2) (cs := enc x) s (by ((simp only [fillV, fill1, Value.cells, zeros_succ, zeros_zero, List.size_toArray, List.length_cons, List.length_nil, List.length_append, List.take_succ_cons, List.take_zero, List.take_nil, List.drop_succ_cons, List.drop_zero, List.drop_nil, List.cons_append, List.nil_append, List.append_nil, Nat.reduceAdd, Nat.reduceMul, Nat.reduceLeDiff, Nat.reduceEqDiff, and_self, and_true, true_and, if_true, Nat.le_refl, Nat.zero_add, Nat.add_zero, Nat.zero_mul, reduceIte, if_false] <;> rfl))) rfl fun q h s w1 => ?_
        refine And.intro (by exact St.r_still0 s 1 rfl rfl) ?_
        refine St.r_app s 2 (sz := 2) (n := 1) (new := enc x) rfl w rfl (w1.rdl s 0 rfl) (enc1 _) (by omega) (by omega) fun v' b' o' sp' h s w' => ?_
        rw [snoc_enc] at s w'
        have w' : Own 2 v' (its ++ [x]).length b' o' ((its ++ [x]).flatMap enc) sp' := by rw [List.length_append]; exact w'
        refine r_nil ?_
        refine r_fld ?_
        refine St.r_store0 s 1 rfl (by simp) w'.one ?_; intro h s
        exact H1 (⟨true, n, is', cnt + 1, its ++ [x], v', b', o', sp', kb, kv', krb, kro, ksp⟩ : Nd It) h hall hsp (by show its ++ [x] = lput lt its x; rw [eput]) rfl
          (Gd.leaf w' rfl rfl (by show cnt + 1 = ((its ++ [x]).length : Int); rw [List.length_append, hcn]; simp)) (s.drop 1)
      · unfold Map_ii_Load.j8
        exact no h s
    · unfold Map_ii_Load.j8
      exact no h s
  | k + 1, t, lo, E, h, hlo, fl, ha, g, hsz, s, H1, H2 => by
    obtain ⟨d, ts⟩ := t
    obtain ⟨own, n, is', cnt, its, iv, ib, io, isp, kb, kv', krb, kro, ksp⟩ := d
    intro K HK
    have hw : own = true := g.mine.1
    have hiso : is' = iso := g.wf.1.2.1 hw
    subst hiso; subst hw
    have hkl : ts.length = its.length + 1 := g.wf.2.2.1
    have w : Own 2 iv its.length ib io (its.flatMap enc) isp := g.wf.1.1
    have wK : Own 1 kv' ts.length krb kro ((ts.map GT.id).map fun m => ptr m 0) ksp := g.wf.2.1
    have hcn : cnt = (PT.items (h := k + 1) (its, ts.map GT.pt)).length := g.cn.1
    have hsz : (PT.items (h := k + 1) (its, ts.map GT.pt)).length ≤ 4611686018427387903 := hsz
    have hlm : its.length ≤ m := fl.2.1
    obtain ⟨c, hc⟩ : ∃ c, ts[its.length]? = some c := ⟨ts[its.length]'(by omega), List.getElem?_eq_getElem (by omega)⟩
    have hcm := List.mem_of_getElem? hc
    have hcm2 : c.pt ∈ ts.map GT.pt := List.mem_map.2 ⟨c, hcm, rfl⟩
    have hfc : PT.Fl m (m / 2) c.pt := fl.2.2.2 _ hcm2
    have hcsz : c.pt.items.length ≤ 4611686018427387903 := by
      have h1 : (inter its ((ts.map GT.pt).map PT.items)).length = _ := inter_length _ _
      have h2 : (inter its ((ts.map GT.pt).map PT.items)).length ≤ 4611686018427387903 := hsz
      have h3 : c.pt.items.length ≤ (((ts.map GT.pt).map PT.items).map List.length).sum := mem_le_sum (by
        rw [List.map_map, List.map_map]; exact List.mem_map.2 ⟨c, hcm, rfl⟩)
      omega
    have hc2 : ts[ts.length - 1]? = some c := by rw [show ts.length - 1 = its.length by omega]; exact hc
    have hcp : (ts.map GT.pt)[its.length]? = some c.pt := by rw [List.getElem?_map, hc]; rfl
    obtain ⟨c0, hc0, _, eit⟩ := PT.around (t := ((its, ts.map GT.pt) : PT It (k + 1))) fl (Nat.le_refl its.length)
    have : c0 = c.pt := Option.some.inj (hc0.symm.trans hcp)
    subst this
    have eit : PT.items (h := k + 1) (its, ts.map GT.pt) = lz its (((ts.map GT.pt).take its.length).map PT.items) ++ c.pt.items := by
      have e1 : rz (its.drop its.length) (((ts.map GT.pt).drop (its.length + 1)).map PT.items) = [] := by rw [List.drop_length]; rfl
      have e2 : PT.items (h := k + 1) (its, ts.map GT.pt) = lz (its.take its.length) (((ts.map GT.pt).take its.length).map PT.items) ++ (c.pt.items ++ rz (its.drop its.length) (((ts.map GT.pt).drop (its.length + 1)).map PT.items)) := eit
      rw [e2, e1, List.append_nil, List.take_length]
    have ha : Asc lt (PT.items (h := k + 1) (its, ts.map GT.pt)) := ha
    have hac : Asc lt c.pt.items := by rw [eit] at ha; exact (asc_app ha).2.1
    have hne : ∃ z, z ∈ c.pt.items := by
      have h1 := (hfc.le).1
      have h2 := (PT.its_sub c.pt).length_le
      cases e : c.pt.items with
      | nil => rw [e, List.length_nil] at h2; omega
      | cons z r => exact ⟨z, List.mem_cons_self ..⟩
    have s : St h0 Z ((n, 0, [.int .u64 is', .int .i64 cnt, iv, ptr kb 0]) :: (ib, io, its.flatMap enc ++ isp) :: (kb, 0, [kv']) :: (krb, kro, ((ts.map GT.id).map fun m => ptr m 0) ++ ksp) :: (ts.flatMap (GT.all enc) ++ E)) h := s
    rw [mfp, flat_at3 (GT.all enc) hc] at s
    show Map_ii_Load.l6.b (ptr tb 0) (ptr t8 0) (ptr n 0) h K Q
    unfold Map_ii_Load.l6.b
    refine r_nil ?_
    refine r_fld ?_
    refine St.r_load0 s 0 rfl rfl ?_
    refine r_add (z := cnt + 1) (by rw [i64w (by omega) (by omega)]) ?_
    refine r_nil ?_
    refine r_fld ?_
    refine St.r_store0 s 0 rfl (by simp) rfl ?_
    intro h s
    try simp only [List.set_cons_zero, List.set_cons_succ] at s
    refine leaf_ok (a := some ⟨kb, 0, Option.none⟩) (s.get (k := 0) (j := 3) rfl (by simp)) ?_
    refine r_if (fun e => absurd e (by simp)) (fun _ => ?_)
    unfold Map_ii_Load.j7
    refine r_nil ?_
    refine r_fld ?_
    refine St.r_load0 s 0 rfl rfl ?_
    refine r_nil ?_
    refine St.r_load0 s 2 rfl rfl ?_
    refine r_nil ?_
    refine r_fld ?_
    refine St.r_load0 s 0 rfl rfl ?_
    refine r_nil ?_
    refine St.r_load0 s 2 rfl rfl ?_
    refine wK.lenV ?_
    refine r_sub (z := ((its.length : Nat) : Int)) (by rw [i64w (by omega) (by omega)]; omega) ?_
    refine wK.idx (n := its.length) rfl (by omega) ?_
    have hcell : cl h krb (kro + its.length * 1) = some (ptr c.id 0) := by
      have hid : (ts.map GT.id)[its.length]? = some c.id := by rw [List.getElem?_map, hc]; rfl
      obtain ⟨hi, he⟩ := List.getElem?_eq_some_iff.1 hid
      have := s.get (k := 3) (j := its.length * 1) rfl (by rw [List.length_append, flat_len fpl]; omega)
      rw [this, List.getElem?_append_left (by rw [flat_len fpl]; omega)]
      have h2 := flat_get (f := fp) fpl (ts.map GT.id) its.length hi 0 (by decide)
      rw [Nat.add_zero] at h2
      rw [h2, he]; rfl
    have hciso : cl h c.id 0 = some (.int .u64 is') := by
      have hown : c.nd.own = true := (g.kid hcm).mine.nd
      obtain ⟨a2, a3, a4, hmem⟩ := topIso (t := c)
      have hci : c.nd.iso = is' := by
        have := (g.kid hcm).wf
        cases k with
        | zero => exact this.2.1 hown
        | succ k => exact this.1.2.1 hown
      rw [hci] at hmem
      have hmm : (c.id, 0, [.int .u64 is', a2, a3, a4]) ∈ c.all enc ++ (ts.drop (its.length + 1)).flatMap (GT.all enc) := List.mem_append.2 (.inl hmem)
      have hmm := List.mem_append.2 (.inr hmm : _ ∈ (ts.take its.length).flatMap (GT.all enc) ∨ _)
      have hmm := List.mem_append.2 (.inl hmm : _ ∨ _ ∈ E)
      have := (s.e _ (List.mem_cons_of_mem _ (List.mem_cons_of_mem _ (List.mem_cons_of_mem _ (List.mem_cons_of_mem _ hmm))))).1.at0 0 rfl
      exact this
    refine isoLoad_ok (n := c.id) (iso := is') (by have := s.getZ hT0 (j := 0) (by simp); simpa using this) hcell (fun _ => hciso) ?_
    have := down_ok hT0 hT4 h8 hm hm3 ho c (E := (n, 0, [.int .u64 is', .int .i64 (cnt + 1), iv, ptr kb 0]) :: (ib, io, its.flatMap enc ++ isp) :: (kb, 0, [kv']) :: (krb, kro, (ts.map GT.id).flatMap fp ++ ksp) :: ((ts.take its.length).flatMap (GT.all enc) ++ ((ts.drop (its.length + 1)).flatMap (GT.all enc) ++ E))) (by omega) hfc hac (g.kid hcm) hcsz (s.perm (by ((apply perm_rg; intro f; simp only [List.set_cons_zero, List.set_cons_succ, List.eraseIdx_cons_zero, List.eraseIdx_cons_succ, List.cons_append, List.nil_append, List.map_append, List.map_cons, List.map_nil, List.sum_append, List.sum_cons, List.sum_nil, List.map_flatMap, Nat.add_zero, Nat.zero_add]; ac_rfl)))) (fun c' h' a1 a2 a3 a4 a5 s => ?_) (fun h' s => ?_)
    · exact HK _ _ this
    · obtain ⟨z, hz⟩ := hne
      have hall : ∀ y ∈ PT.items (h := k + 1) (its, ts.map GT.pt), lt y x = true := fun y hy => by
        rw [eit] at hy ha
        rcases List.mem_append.1 hy with e | e
        · exact swo.tr _ _ _ ((asc_app ha).2.2 y e z hz) (a1 z hz)
        · exact a1 y e
      obtain ⟨p1, p2⟩ := pos_end (fun y hy => hall y ((PT.its_sub1 ((its, ts.map GT.pt) : PT It (k + 1))).subset hy) : ∀ y ∈ its, lt y x = true)
      have hcp' : (ts.map GT.pt)[pos lt its x]? = some c.pt := by rw [p1]; exact hcp
      have e1 := PT.set_kid (t := ((its, ts.map GT.pt) : PT It (k + 1))) (m := m) p2 hcp' a2
      have hsp : PT.splits lt m (h := k + 1) (its, ts.map GT.pt) x = false := by rw [PT.splits_kid (t := ((its, ts.map GT.pt) : PT It (k + 1))) p2 hcp', a2]; simp
      have ept : (ts.set its.length c').map GT.pt = (ts.map GT.pt).set (pos lt its x) (c.pt.set lt m x) := by rw [List.map_set, a3, p1]
      have hi := (List.getElem?_eq_some_iff.1 hc).1
      have hc' : (ts.set its.length c')[its.length]? = some c' := List.getElem?_set_self hi
      have etake : (ts.set its.length c').take its.length = ts.take its.length := List.take_set_of_le (Nat.le_refl _)
      have edrop : (ts.set its.length c').drop (its.length + 1) = ts.drop (its.length + 1) := List.drop_set_of_lt (by omega)
      have hlenI : (PT.items (h := k + 1) (its, (ts.set its.length c').map GT.pt)).length = (PT.items (h := k + 1) (its, ts.map GT.pt)).length + 1 := by
        have hcl : c'.pt.items.length = c.pt.items.length + 1 := by
          rw [a3, (PT.set_items swo ho hfc hac a2).1, lput_length, (pos_end a1).2]; rfl
        have h1 : (inter its (((ts.set its.length c').map GT.pt).map PT.items)).length = _ := inter_length _ _
        have h2 : (inter its ((ts.map GT.pt).map PT.items)).length = _ := inter_length _ _
        have e3 : ∀ (l : List (GT It k)), ((l.map GT.pt).map PT.items).map List.length = l.map fun t => t.pt.items.length := fun l => by rw [List.map_map, List.map_map]; rfl
        have h4 : ((ts.set its.length c').map fun t => t.pt.items.length).sum = (ts.map fun t => t.pt.items.length).sum + 1 := by
          conv => lhs; rw [take_at hc', etake, edrop]
          conv => rhs; rw [take_at hc]
          simp only [List.map_append, List.map_cons, List.sum_append, List.sum_cons, hcl]; omega
        show (inter its (((ts.set its.length c').map GT.pt).map PT.items)).length = (inter its ((ts.map GT.pt).map PT.items)).length + 1
        rw [h1, h2, e3, e3, h4]; omega
      refine H1 ((⟨true, n, is', cnt + 1, its, iv, ib, io, isp, kb, kv', krb, kro, ksp⟩ : Nd It), ts.set its.length c') h' hall hsp (by show (its, (ts.set its.length c').map GT.pt) = _; rw [ept]; exact e1.symm) rfl
        (Gd.setKid (d := ⟨true, n, is', cnt, its, iv, ib, io, isp, kb, kv', krb, kro, ksp⟩) g hc a4 a5 (by
          show cnt + 1 = ((PT.items (h := k + 1) (its, (ts.set its.length c').map GT.pt)).length : Int); rw [hlenI, hcn]; simp)) ?_
      have s1 : St h0 Z ((n, 0, [.int .u64 is', .int .i64 (cnt + 1), iv, ptr kb 0]) :: (ib, io, its.flatMap enc ++ isp) :: (kb, 0, [kv']) :: (krb, kro, ((ts.set its.length c').map GT.id).flatMap fp ++ ksp) :: ((ts.set its.length c').flatMap (GT.all enc) ++ E)) h' :=
        s.perm (by rw [set_ids hc a4, flat_at3 (GT.all enc) hc', etake, edrop]; ((apply perm_rg; intro f; simp only [List.set_cons_zero, List.set_cons_succ, List.eraseIdx_cons_zero, List.eraseIdx_cons_succ, List.cons_append, List.nil_append, List.map_append, List.map_cons, List.map_nil, List.sum_append, List.sum_cons, List.sum_nil, List.map_flatMap, Nat.add_zero, Nat.zero_add]; ac_rfl)))
      rw [← mfp] at s1
      exact s1
    · refine H2 h' ?_
      have hi := (List.getElem?_eq_some_iff.1 hc2).1
      have hc' : (ts.set (ts.length - 1) (c.bump 1))[ts.length - 1]? = some (c.bump 1) := List.getElem?_set_self hi
      have etake : (ts.set (ts.length - 1) (c.bump 1)).take (ts.length - 1) = ts.take its.length := by rw [List.take_set_of_le (Nat.le_refl _)]; congr 1; omega
      have edrop : (ts.set (ts.length - 1) (c.bump 1)).drop (ts.length - 1 + 1) = ts.drop (its.length + 1) := by rw [List.drop_set_of_lt (by omega)]; congr 1; omega
      have s1 : St h0 Z ((n, 0, [.int .u64 is', .int .i64 (cnt + 1), iv, ptr kb 0]) :: (ib, io, its.flatMap enc ++ isp) :: (kb, 0, [kv']) :: (krb, kro, ((ts.modify (ts.length - 1) (GT.bump 1)).map GT.id).flatMap fp ++ ksp) :: ((ts.modify (ts.length - 1) (GT.bump 1)).flatMap (GT.all enc) ++ E)) h' :=
        s.perm (by rw [modify_last hc2, set_ids hc2 (GT.bump_id c), flat_at3 (GT.all enc) hc', etake, edrop]; ((apply perm_rg; intro f; simp only [List.set_cons_zero, List.set_cons_succ, List.eraseIdx_cons_zero, List.eraseIdx_cons_succ, List.cons_append, List.nil_append, List.map_append, List.map_cons, List.map_nil, List.sum_append, List.sum_cons, List.sum_nil, List.map_flatMap, Nat.add_zero, Nat.zero_add]; ac_rfl)))
      rw [← mfp] at s1
      exact s1

theorem Load_ok {tb m : Nat} {iso mn : Int} {ctr : Option Addr} {g : Rt} {x : It} (M : MapOk m iso g) (hmn : mn ≠ 0) (hsz : (rPt g).items.length ≤ 4611686018427387903) (s : St h0 Z ((tb, 0, hdr iso ctr (rA g) (rPt g).items.length mn m) :: (rAll g ++ E)) h)
    (H : ∀ (g' : Rt) h', rPt g' = (rPt g).set lt m x → MapOk m iso g' → St h0 Z ((tb, 0, hdr iso ctr (rA g') (rPt g').items.length mn m) :: (rAll g' ++ E)) h' → Q (.tuple #[old (lget lt (rPt g).items x), .bool (lget lt (rPt g).items x).isSome]) h') :
    Map_ii_Load.call #[ptr tb 0, kv x.1, vv x.2] h Q := by
  refine Map_ii_Load.body _ _ _ _ _ ?_
  unfold Map_ii_Load.sh
  (apply r_build; (simp only [fillV, fill1, Value.cells, zeros_succ, zeros_zero, List.size_toArray, List.length_cons, List.length_nil, List.length_append, List.take_succ_cons, List.take_zero, List.take_nil, List.drop_succ_cons, List.drop_zero, List.drop_nil, List.cons_append, List.nil_append, List.append_nil, Nat.reduceAdd, Nat.reduceMul, Nat.reduceLeDiff, Nat.reduceEqDiff, and_self, and_true, true_and, if_true, Nat.le_refl, Nat.zero_add, Nat.add_zero, Nat.zero_mul, reduceIte, if_false] <;> rfl))
  refine s.r_alloc fun t8 h s => ?_
  refine St.r_storeN0 s 0 rfl rfl (by simp) (enc1 x) ?_; intro h s
  refine r_nil ?_
  refine r_fld ?_
  refine St.r_load0 s 1 rfl rfl ?_
  refine r_eqNilP ?_
  cases g with
  | none =>
    refine r_if (fun _ => ?_) (fun e => absurd e (by simp [rA]))
    refine r_fld ?_
    refine St.r_load0 s 0 rfl rfl ?_
    refine r_fld ?_
    refine St.r_load0 s 0 rfl rfl ?_
    refine Set_ok (tb := tb) (ctr := ctr) (x := x) (E := (t8, 0, enc x) :: E) M hmn hsz (s.perm (by ((apply perm_rg; intro f; simp only [List.set_cons_zero, List.set_cons_succ, List.eraseIdx_cons_zero, List.eraseIdx_cons_succ, List.cons_append, List.nil_append, List.map_append, List.map_cons, List.map_nil, List.sum_append, List.sum_cons, List.sum_nil, List.map_flatMap, Nat.add_zero, Nat.zero_add]; ac_rfl)))) fun g' h' e M' s => ?_
    refine r_ext rfl ?_
    refine r_ext rfl ?_
    exact H g' h' e M' ((s.perm (E' := (t8, 0, enc x) :: (tb, 0, hdr iso ctr (rA g') (rPt g').items.length mn m) :: (rAll g' ++ E)) (by ((apply perm_rg; intro f; simp only [List.set_cons_zero, List.set_cons_succ, List.eraseIdx_cons_zero, List.eraseIdx_cons_succ, List.cons_append, List.nil_append, List.map_append, List.map_cons, List.map_nil, List.sum_append, List.sum_cons, List.sum_nil, List.map_flatMap, Nat.add_zero, Nat.zero_add]; ac_rfl)))).drop 1)
  | some t =>
    obtain ⟨k, t⟩ := t
    refine r_if (fun e => absurd e (by simp [rA])) (fun _ => ?_)
    unfold Map_ii_Load.j1
    have key : ∀ g' : Rt, rPt g' = (rPt (some ⟨k, t⟩)).set lt m x → rGd iso g' → MapOk m iso g' := fun g' e gd => by
      obtain ⟨e1, e2⟩ := MT.set_items (x := x) swo M.odd M.m3 M.fl M.asc
      exact ⟨gd, by rw [e]; exact e2, by rw [e, e1]; exact asc_lput swo M.asc, M.m3, M.m1, M.odd⟩
    have htb : h0.size ≤ tb := (s.e _ (List.mem_cons_of_mem _ (List.mem_cons_self ..))).2 (by simp)
    have s := hdr_cut (s.front 1 rfl)
    have s0 : St h0 Z ([(tb, 0, hd0 iso ctr), (tb, 4, hd4 mn m), (t8, 0, enc x)] ++ ((tb, 2, [ptr t.id 0]) :: (tb, 3, [.int .i64 t.pt.items.length]) :: (t.all enc ++ E))) h := s.perm (by
      show ((tb, 0, hd0 iso ctr) :: (tb, 4, hd4 mn m) :: (t8, 0, enc x) :: (tb, 2, [ptr t.id 0]) :: (tb, 3, [.int .i64 t.pt.items.length]) :: (t.all enc ++ E)).Perm ((tb, 0, hd0 iso ctr) :: (tb, 4, hd4 mn m) :: (tb, 2, [ptr t.id 0]) :: (tb, 3, [.int .i64 t.pt.items.length]) :: (t8, 0, enc x) :: (t.all enc ++ E))
      ((apply perm_rg; intro f; simp only [List.set_cons_zero, List.set_cons_succ, List.eraseIdx_cons_zero, List.eraseIdx_cons_succ, List.cons_append, List.nil_append, List.map_append, List.map_cons, List.map_nil, List.sum_append, List.sum_cons, List.sum_nil, List.map_flatMap, Nat.add_zero, Nat.zero_add]; ac_rfl)))
    obtain ⟨s1, back⟩ := s0.borrow
    have z0 : (tb, 0, hd0 iso ctr) ∈ [(tb, 0, hd0 iso ctr), (tb, 4, hd4 mn m), (t8, 0, enc x)] ++ Z := List.mem_cons_self ..
    have z4 : (tb, 4, hd4 mn m) ∈ [(tb, 0, hd0 iso ctr), (tb, 4, hd4 mn m), (t8, 0, enc x)] ++ Z := List.mem_cons_of_mem _ (List.mem_cons_self ..)
    have z8 : (t8, 0, enc x) ∈ [(tb, 0, hd0 iso ctr), (tb, 4, hd4 mn m), (t8, 0, enc x)] ++ Z := List.mem_cons_of_mem _ (List.mem_cons_of_mem _ (List.mem_cons_self ..))
    have hgd : Gd iso t := M.gd
    have hfl : t.pt.Fl m 1 := M.fl
    have hasc : Asc lt t.pt.items := M.asc
    have hszt : t.pt.items.length ≤ 4611686018427387903 := hsz
    have hiso : ∀ {E' : List Rg} {h : Heap}, St h0 ([(tb, 0, hd0 iso ctr), (tb, 4, hd4 mn m), (t8, 0, enc x)] ++ Z) (t.all enc ++ E') h → cl h t.id 0 = some (.int .u64 iso) := fun s => by
      obtain ⟨a2, a3, a4, hmem⟩ := topIso (t := t)
      have hown := hgd.mine.nd
      have hci : t.nd.iso = iso := by
        have := hgd.wf
        cases k with
        | zero => exact this.2.1 hown
        | succ k => exact this.1.2.1 hown
      rw [hci] at hmem
      exact (s.e _ (List.mem_append.2 (.inl hmem))).1.at0 0 rfl
    refine r_nil ?_
    refine r_fld ?_
    refine isoLoad_ok (n := t.id) (iso := iso) (by have := s1.getZ z0 (j := 0) (by simp); simpa using this) (by have := s1.get (k := 0) (j := 0) rfl (by simp); simpa using this) (fun _ => hiso (s1.perm (E' := t.all enc ++ ((tb, 2, [ptr t.id 0]) :: (tb, 3, [.int .i64 t.pt.items.length]) :: E)) (by ((apply perm_rg; intro f; simp only [List.set_cons_zero, List.set_cons_succ, List.eraseIdx_cons_zero, List.eraseIdx_cons_succ, List.cons_append, List.nil_append, List.map_append, List.map_cons, List.map_nil, List.sum_append, List.sum_cons, List.sum_nil, List.map_flatMap, Nat.add_zero, Nat.zero_add]; ac_rfl))))) ?_
    refine (down_ok z0 z4 z8 M.m1 M.m3 M.odd t (E := (tb, 2, [ptr t.id 0]) :: (tb, 3, [.int .i64 t.pt.items.length]) :: E) (Nat.le_refl 1) hfl hasc hgd hszt (s1.perm (by ((apply perm_rg; intro f; simp only [List.set_cons_zero, List.set_cons_succ, List.eraseIdx_cons_zero, List.eraseIdx_cons_succ, List.cons_append, List.nil_append, List.map_append, List.map_cons, List.map_nil, List.sum_append, List.sum_cons, List.sum_nil, List.map_flatMap, Nat.add_zero, Nat.zero_add]; ac_rfl)))) (fun c' h' a1 a2 a3 a4 a5 s => ?_) (fun h' s => ?_)).loop
    · unfold loadEnd
      have s : St h0 ([(tb, 0, hd0 iso ctr), (tb, 4, hd4 mn m), (t8, 0, enc x)] ++ Z) ((tb, 3, [.int .i64 t.pt.items.length]) :: (tb, 2, [ptr t.id 0]) :: (c'.all enc ++ E)) h' := s.perm (by ((apply perm_rg; intro f; simp only [List.set_cons_zero, List.set_cons_succ, List.eraseIdx_cons_zero, List.eraseIdx_cons_succ, List.cons_append, List.nil_append, List.map_append, List.map_cons, List.map_nil, List.sum_append, List.sum_cons, List.sum_nil, List.map_flatMap, Nat.add_zero, Nat.zero_add]; ac_rfl)))
      refine r_nil ?_
      refine r_fld ?_
      refine s.r_load1 0 (o := 3) (j := 0) rfl rfl ?_
      refine r_add (z := ((t.pt.items.length + 1 : Nat) : Int)) (by rw [i64w (by omega) (by omega)]; omega) ?_
      refine r_nil ?_
      refine r_fld ?_
      refine St.r_store1 s 0 (o := 3) (j := 0) rfl (by simp) rfl ?_; intro h s
      refine r_nil ?_
      refine r_fld ?_
      refine r_fld ?_
      refine s.r_lz z4 0 rfl rfl ?_
      have e0 : rPt (some ⟨k, c'⟩) = (rPt (some ⟨k, t⟩)).set lt m x := by
        show some (⟨k, c'.pt⟩ : (j : Nat) × PT It j) = MT.set lt m (some ⟨k, t.pt⟩) x
        unfold MT.set
        simp only [a2, Bool.false_eq_true, ↓reduceIte, a3]
      have hl : c'.pt.items.length = t.pt.items.length + 1 := by rw [a3, (PT.set_items swo M.odd hfl hasc a2).1, lput_length, (pos_end a1).2]; rfl
      have := H (some ⟨k, c'⟩) h e0 (key _ e0 a5) (by
        have s2 := back _ h s
        show St h0 Z ((tb, 0, hdr iso ctr (some ⟨c'.id, 0, Option.none⟩) c'.pt.items.length mn m) :: (c'.all enc ++ E)) h
        refine hdr_glue ?_
        rw [hl, a4]
        exact (s2.perm (E' := (t8, 0, enc x) :: (tb, 0, hd0 iso ctr) :: (tb, 4, hd4 mn m) :: (tb, 2, [ptr t.id 0]) :: (tb, 3, [.int .i64 ((t.pt.items.length + 1 : Nat) : Int)]) :: (c'.all enc ++ E)) (by ((apply perm_rg; intro f; simp only [List.set_cons_zero, List.set_cons_succ, List.eraseIdx_cons_zero, List.eraseIdx_cons_succ, List.cons_append, List.nil_append, List.map_append, List.map_cons, List.map_nil, List.sum_append, List.sum_cons, List.sum_nil, List.map_flatMap, Nat.add_zero, Nat.zero_add]; ac_rfl)))).drop 1)
      have hn : lget lt (rPt (some ⟨k, t⟩)).items x = none := (pos_end a1).2
      rw [hn] at this
      exact this
    · unfold Map_ii_Load.j2
      have s : St h0 ([(tb, 0, hd0 iso ctr), (tb, 4, hd4 mn m), (t8, 0, enc x)] ++ Z) ((tb, 2, [ptr t.id 0]) :: (tb, 3, [.int .i64 t.pt.items.length]) :: ((t.bump 1).all enc ++ E)) h' := s.perm (by ((apply perm_rg; intro f; simp only [List.set_cons_zero, List.set_cons_succ, List.eraseIdx_cons_zero, List.eraseIdx_cons_succ, List.cons_append, List.nil_append, List.map_append, List.map_cons, List.map_nil, List.sum_append, List.sum_cons, List.sum_nil, List.map_flatMap, Nat.add_zero, Nat.zero_add]; ac_rfl)))
      refine r_nil ?_
      refine r_fld ?_
      refine s.r_load1 0 (o := 2) (j := 0) rfl rfl ?_
      refine (revert_ok M.m1 t (E := (tb, 2, [ptr t.id 0]) :: (tb, 3, [.int .i64 t.pt.items.length]) :: E) hfl hgd hszt (s.perm (by ((apply perm_rg; intro f; simp only [List.set_cons_zero, List.set_cons_succ, List.eraseIdx_cons_zero, List.eraseIdx_cons_succ, List.cons_append, List.nil_append, List.map_append, List.map_cons, List.map_nil, List.sum_append, List.sum_cons, List.sum_nil, List.map_flatMap, Nat.add_zero, Nat.zero_add]; ac_rfl)))) fun h' s => ?_).loop
      unfold Map_ii_Load.j3
      have s2 := back ((tb, 2, [ptr t.id 0]) :: (tb, 3, [.int .i64 t.pt.items.length]) :: (t.all enc ++ E)) h' (s.perm (by ((apply perm_rg; intro f; simp only [List.set_cons_zero, List.set_cons_succ, List.eraseIdx_cons_zero, List.eraseIdx_cons_succ, List.cons_append, List.nil_append, List.map_append, List.map_cons, List.map_nil, List.sum_append, List.sum_cons, List.sum_nil, List.map_flatMap, Nat.add_zero, Nat.zero_add]; ac_rfl))))
      have s3 : St h0 Z ((t8, 0, enc x) :: (tb, 0, hdr iso ctr (rA (some ⟨k, t⟩)) (rPt (some ⟨k, t⟩)).items.length mn m) :: (rAll (some ⟨k, t⟩) ++ E)) h' := by
        have s4 : St h0 Z ((tb, 0, hd0 iso ctr) :: (tb, 4, hd4 mn m) :: (tb, 2, [ptr t.id 0]) :: (tb, 3, [.int .i64 t.pt.items.length]) :: (t8, 0, enc x) :: (t.all enc ++ E)) h' := s2.perm (by ((apply perm_rg; intro f; simp only [List.set_cons_zero, List.set_cons_succ, List.eraseIdx_cons_zero, List.eraseIdx_cons_succ, List.cons_append, List.nil_append, List.map_append, List.map_cons, List.map_nil, List.sum_append, List.sum_cons, List.sum_nil, List.map_flatMap, Nat.add_zero, Nat.zero_add]; ac_rfl)))
        exact (hdr_glue s4).perm (by ((apply perm_rg; intro f; simp only [List.set_cons_zero, List.set_cons_succ, List.eraseIdx_cons_zero, List.eraseIdx_cons_succ, List.cons_append, List.nil_append, List.map_append, List.map_cons, List.map_nil, List.sum_append, List.sum_cons, List.sum_nil, List.map_flatMap, Nat.add_zero, Nat.zero_add]; ac_rfl)))
      have s := s3
      refine r_fld ?_
      refine St.r_load0 s 0 rfl rfl ?_
      refine r_fld ?_
      refine St.r_load0 s 0 rfl rfl ?_
      refine Set_ok (tb := tb) (ctr := ctr) (x := x) (E := (t8, 0, enc x) :: E) M hmn hsz (s3.perm (by ((apply perm_rg; intro f; simp only [List.set_cons_zero, List.set_cons_succ, List.eraseIdx_cons_zero, List.eraseIdx_cons_succ, List.cons_append, List.nil_append, List.map_append, List.map_cons, List.map_nil, List.sum_append, List.sum_cons, List.sum_nil, List.map_flatMap, Nat.add_zero, Nat.zero_add]; ac_rfl)))) fun g' h' e M' s => ?_
      refine r_ext rfl ?_
      refine r_ext rfl ?_
      exact H g' h' e M' ((s.perm (E' := (t8, 0, enc x) :: (tb, 0, hdr iso ctr (rA g') (rPt g').items.length mn m) :: (rAll g' ++ E)) (by ((apply perm_rg; intro f; simp only [List.set_cons_zero, List.set_cons_succ, List.eraseIdx_cons_zero, List.eraseIdx_cons_succ, List.cons_append, List.nil_append, List.map_append, List.map_cons, List.map_nil, List.sum_append, List.sum_cons, List.sum_nil, List.map_flatMap, Nat.add_zero, Nat.zero_add]; ac_rfl)))).drop 1)
end Go.Proofs.Ytlihjljdndbpdaa.Ii
end
section
namespace Go.Proofs.Ytlihjljdndbpdaa.Ii
open Go.Hp Go.Proofs.Ytlihjljdndbpdaa
set_option linter.unusedVariables false
set_option linter.unusedSimpArgs false
def md (p : It) : It := (p.1 % 65536, p.2 % 256)
def dis (k : Int) (p : It) : Int := (p.1 - k) % 65536
theorem lt_t {a b : It} : lt a b = true ↔ @LT.lt Int _ a.1 b.1 := by simp only [lt, decide_eq_true_eq]
end Go.Proofs.Ytlihjljdndbpdaa.Ii
end
section
namespace Go.Proofs.Ytlihjljdndbpdaa
open Go.Hp
set_option linter.unusedVariables false
set_option linter.unusedSimpArgs false
variable {h0 h : Heap} {Z E : List Rg} {Q : Value → Heap → Prop}
theorem asc_iff {l : List It} : Asc l ↔ Go.Hp.Asc Ii.lt l := by
  unfold Go.Hp.Asc
  rw [List.pairwise_iff_getElem]
  constructor
  · intro h i j h1 h2 h3
    rw [Ii.lt_t]
    exact Asc.lt h i j h3 h2
  · intro h i h1
    have := h i (i + 1) (by omega) h1 (by omega)
    rw [Ii.lt_t] at this
    exact this
/-- What standing a map gives. -/
def Stands (d : Nat) (m0 : MT It) (h : Heap) (vi vk vc : Value) : Prop := ∀ {Q : Value → Heap → Prop}, (∀ (g : Ii.Rt) tb h', Ii.rPt g = m0 → Ii.MapOk (2 * d - 1) 0 g →
    St h [] ((tb, 0, Ii.hdr 0 none (Ii.rA g) (Ii.rPt g).items.length ((d - 1 : Nat) : Int) ((2 * d - 1 : Nat) : Int)) :: Ii.rAll g) h' → Q (ptr tb 0) h') → i_standMap.call #[.int .i64 d, .agg #[vi, vk, vc]] h Q
theorem stands_of {d k : Nat} {t : DT (k + 1)} {g : Heap} {vi vk vc : Value} (ha : ArgD g t vi vk) (hb : t.bulk ≤ 268435456) (hvc : one1 vc = true) (hd : 2 ≤ d) (hd2 : d ≤ 128) (hv : validB d t) :
    ∃ m0 : MT It, m0.items = t.items ∧ mh m0 = (if t.1 = [] then 0 else t.lv.1) ∧ ∀ h, Fr (fun _ _ => False) g h → Stands d m0 h vi vk vc := by
  have ha' := ha
  obtain ⟨hr, cs, hcl, hrk, hks⟩ := ha
  have c1 : ((d - 1 : Nat) : Int) = (d : Int) - 1 := by omega
  have c2 : ((2 * d - 1 : Nat) : Int) = 2 * (d : Int) - 1 := by omega
  rcases hv with ⟨he1, he2⟩ | ⟨hlv, hfl, hasc⟩
  · have hnil : t.items = [] := by show inter t.1 (t.2.map DT.items) = []; rw [he1, he2]; rfl
    obtain ⟨a0, c0, e0, _⟩ := hr
    obtain ⟨a1, c1', e1, _⟩ := hrk
    rw [hcl, he2] at e1
    rw [he1] at e0
    subst e0; subst e1
    refine ⟨none, hnil.symm, by rw [if_pos he1]; rfl, fun h f Q H => ?_⟩
    refine i_standMap_empty (by omega) (by omega) fun tb h' s => ?_
    refine H none tb h' rfl (Ii.MapOk.none (by omega) (by omega) (by omega)) ?_
    rw [c1, c2]; exact s
  · rw [if_neg (by omega)] at hfl
    have hne0 : t.1 ≠ [] := by
      have h1 : (1 : Int) ≤ t.1.length := by
        have : t.fl d 1 = (decide ((1 : Int) ≤ t.1.length) && decide ((t.1.length : Int) ≤ 2 * d - 1) && t.2.all fun q => q.fl d (d - 1)) := rfl
        rw [this] at hfl
        simp only [Bool.and_eq_true, decide_eq_true_eq] at hfl
        exact hfl.1.1
      intro hh
      rw [hh] at h1
      simp at h1
    have hp := lv_pos t hlv
    obtain ⟨x, hx⟩ := uni_of t (t.lv.1 - 1) (Prod.ext (by simp only; omega) hlv)
    have hne : x.its ≠ [] := by rw [hx.its]; exact hne0
    have hil := t.items_le
    have hF : x.Fl (2 * d - 1) 1 := hx.fl d 1 (by omega) hfl
    refine ⟨some ⟨_, x⟩, hx.items, by rw [if_neg hne0]; show t.lv.1 - 1 + 1 = _; omega, fun h f Q H => ?_⟩
    refine i_standMap_ok x (hx.arg _ _ _ (ha'.fr f)) (hx.sh _ (by omega)) (by rw [hx.items]; omega) hvc (by omega) (by omega) hne fun t' tb h' e1 e2 e3 e4 s => ?_
    have er : Ii.rPt (some ⟨_, t'⟩) = some ⟨_, x⟩ := by show some (⟨_, t'.pt⟩ : (k : Nat) × PT It k) = _; rw [e1]
    refine H (some ⟨_, t'⟩) tb h' er ⟨⟨e2, e3, e4⟩, by rw [er]; exact hF, ?_, by omega, by omega, by omega⟩ ?_
    · rw [er]
      show Go.Hp.Asc Ii.lt x.items
      rw [hx.items]; exact asc_iff.1 hasc
    · rw [er, c1, c2]
      rw [e4.all] at s
      exact s
theorem DLoad_ok {d : Nat} (hd : 2 ≤ d) (hd2 : d ≤ 128) {m0 : MT It} {g : Heap} {vi vk vc : Value} {p : It} (hs : ∀ h, Fr (fun _ _ => False) g h → Stands d m0 h vi vk vc) (h1 : one1 vi = true) (h2 : one1 vk = true) (h3 : one1 vc = true) (hl : m0.items.length ≤ 268435456)
    (H : ∀ (y : MT It) vi' vk' E' h', y = m0.set Ii.lt (2 * d - 1) p → y.items = lput Ii.lt m0.items p → y.Fl (2 * d - 1) → Go.Hp.Asc Ii.lt y.items → St g [] E' h' → ArgC h' (mt0 y).2 vi' vk' → Q (.tuple #[.agg (Ii.foundC (Ii.fnd m0.items p.1)).toArray, .agg #[vi', vk', .int .i64 y.items.length]]) h') :
    i_DLoad.call #[.int .i64 d, .agg #[vi, vk, vc], .agg (encA p).toArray] g Q := by
  refine i_DLoad.body _ _ _ _ _ ?_
  unfold i_DLoad.sh
  have s := St.start g
  refine St.r_box (cs := [vi, vk, vc]) s fun t4 h s => ?_
  refine St.r_box (cs := encA p) s fun t5 h s => ?_
  refine s.r_alloc fun t6 h s => ?_
  refine s.r_alloc fun t7 h s => ?_
  refine St.r_loadN0 s 3 rfl (by simp) ?_
  refine hs h s.fr fun gm tb h e M s2 => ?_
  subst e
  have s := s.join s2
  have s : St g [] ((tb, 0, Ii.hdr 0 none (Ii.rA gm) (Ii.rPt gm).items.length ((d - 1 : Nat) : Int) ((2 * d - 1 : Nat) : Int)) :: (Ii.rAll gm ++ [(t7, 0, [.slice none 0 0, .slice none 0 0, .int .i64 0]), (t6, 0, [.int .i64 0, .int .i64 0, .bool false]), (t5, 0, encA p), (t4, 0, [vi, vk, vc])])) h := s
  have l5 : ∀ {K : Value → Prop} {R : List Rg} {h : Heap} (j : Nat) (v : Value), (encA p)[j]? = some v → St g [] (R ++ [(t7, 0, [.slice none 0 0, .slice none 0 0, .int .i64 0]), (t6, 0, [.int .i64 0, .int .i64 0, .bool false]), (t5, 0, encA p), (t4, 0, [vi, vk, vc])]) h → K v → load1 (ptr t5 j) h K := fun j v hv s H => s.r_loadM (xs := encA p) (by simp) hv H
  refine r_fld (n := 0) ?_
  refine l5 (R := (tb, 0, _) :: Ii.rAll gm) 0 _ rfl s ?_
  refine r_fld (n := 1) ?_
  refine l5 (R := (tb, 0, _) :: Ii.rAll gm) 1 _ rfl s ?_
  refine Ii.Load_ok (mn := ((d - 1 : Nat) : Int)) (x := p) M (by omega) (by omega) s fun g' h e1 M' s => ?_
  refine r_ext rfl ?_
  refine r_ext rfl ?_
  refine r_fld (n := 0) ?_
  refine l5 (R := (tb, 0, _) :: Ii.rAll g') 0 _ rfl s ?_
  obtain ⟨i1, i2⟩ := MT.set_items (x := p) Ii.swo M.odd M.m3 M.fl M.asc
  rw [← e1] at i1 i2
  have hfn : (if (lget Ii.lt (Ii.rPt gm).items p).isSome = true then some (p.1, ((lget Ii.lt (Ii.rPt gm).items p).getD Ii.emp).2) else none) = Ii.fnd (Ii.rPt gm).items p.1 := Ii.fnd_pair _ _
  refine Ii.pair_ok (p := (p.1, ((lget Ii.lt (Ii.rPt gm).items p).getD Ii.emp).2)) fun E2 h s2 => ?_
  rw [hfn]
  have s := (s.join s2).perm List.perm_append_comm
  have hle : (Ii.rPt g').items.length ≤ (Ii.rPt gm).items.length + 1 := by
    rw [i1]
    have : (lput Ii.lt (Ii.rPt gm).items p).length = _ := lput_length
    rw [this]; split <;> omega
  refine fell_ok M' (by omega) (E := [(t7, 0, [.slice none 0 0, .slice none 0 0, .int .i64 0]), (t6, 0, [.int .i64 0, .int .i64 0, .bool false]), (t5, 0, encA p), (t4, 0, [vi, vk, vc])] ++ E2) (s.perm (by simp only [List.cons_append, List.append_assoc, List.nil_append]; exact List.Perm.refl _)) fun vi' vk' A h s hA o1 o2 => ?_
  have s : St g [] ((t6, 0, [.int .i64 0, .int .i64 0, .bool false]) :: (t7, 0, [.slice none 0 0, .slice none 0 0, .int .i64 0]) :: (A ++ ((tb, 0, Ii.hdr 0 none (Ii.rA g') (Ii.rPt g').items.length ((d - 1 : Nat) : Int) ((2 * d - 1 : Nat) : Int)) :: (Ii.rAll g' ++ ((t5, 0, encA p) :: (t4, 0, [vi, vk, vc]) :: E2))))) h := s.perm (by ((apply perm_rg; intro f; simp only [List.set_cons_zero, List.set_cons_succ, List.eraseIdx_cons_zero, List.eraseIdx_cons_succ, List.cons_append, List.nil_append, List.map_append, List.map_cons, List.map_nil, List.sum_append, List.sum_cons, List.sum_nil, List.map_flatMap, Nat.add_zero, Nat.zero_add]; ac_rfl)))
  refine St.r_storeN0 s 0 rfl (Ii.foundC_len _) (by simp) (Ii.foundC_one _) ?_; intro h s
  refine St.r_storeN0 s 1 (ys := [vi', vk', .int .i64 (Ii.rPt g').items.length]) rfl rfl (by simp) (one3 o1 o2 rfl) ?_; intro h s
  refine St.r_loadN0 s 0 rfl (by simp [Ii.foundC_len]) ?_
  refine St.r_loadN0 s 1 rfl (by simp) ?_
  have hAr := hA h fun r hr => s.ok (List.mem_append.2 (.inl (List.mem_cons_of_mem _ (List.mem_cons_of_mem _ (List.mem_append.2 (.inl hr))))))
  have := H (Ii.rPt g') vi' vk' _ h e1 i1 i2 (by rw [i1]; exact asc_lput Ii.swo M.asc) s hAr
  generalize Ii.fnd (Ii.rPt gm).items p.1 = o at *
  cases o <;> exact this
end Go.Proofs.Ytlihjljdndbpdaa
end
section
namespace Go.Proofs.Ytlihjljdndbpdaa
open Go.Hp
set_option linter.unusedVariables false
set_option linter.unusedSimpArgs false
variable {h0 h : Heap} {Z E : List Rg} {Q : Value → Heap → Prop}
theorem fits3_ok {k : Nat} {t : DT (k + 1)} {g : Heap} {vi vk vc : Value} (ha : ArgD g t vi vk) (hb : t.bulk ≤ 268435456) (H : ∀ E' h', St g [] E' h' → Q (.bool true) h') : l_zzFits3.call #[.agg #[vi, vk, vc]] g Q := by
  have hbulk := t.kids_le
  obtain ⟨hr, cs, hcl, hrk, hks⟩ := ha
  refine l_zzFits3.body _ _ _ ?_
  unfold l_zzFits3.sh
  have s := St.start g
  refine St.r_box (cs := [vi, vk, vc]) s fun t1 h s => ?_
  refine r_fld ?_
  refine St.r_load0 s 0 rfl rfl ?_
  refine Rdl.lenV (by assumption) ?_
  refine r_cmpI ?_
  refine r_if (fun e => absurd (of_decide_eq_true e) (by omega)) (fun _ => ?_)
  unfold l_zzFits3.j1
  refine r_fld ?_
  refine St.r_load0 s 0 rfl rfl ?_
  refine Rdl.lenV (by assumption) ?_
  refine r_cmpI ?_
  refine r_if (fun e => absurd (of_decide_eq_true e) (by omega)) (fun _ => ?_)
  unfold l_zzFits3.j2
  exact H _ _ s
theorem eqF (o : Option It) : EqV Try.prog 10000 32 (.agg (Ii.foundC o).toArray) (.agg (Ii.foundC o).toArray) true := by
  have := eqFound 9997 o
  cases o <;> exact this
/-- What a law does with the tree that is left. -/
def endL (s0 s4 s8 s9 s10 due : Value) (f : Int → Int → Int) (h : Heap) (Q : Value → Heap → Prop) : Prop :=
  loadN 3 s10 h fun t34 =>
    loadN 3 s4 h fun t36 =>
    s_NodeHeight.call #[t34] h fun t35 h =>
    stillN 3 s4 t36 h ∧ s_NodeHeight.call #[t36] h fun t37 h =>
    arith f t35 t37 fun t38 =>
    loadN 3 s9 h fun t39 =>
    loadN 3 s8 h fun t40 =>
    eqR (EqV Try.prog 10000 32) t39 t40 fun t41 =>
    br t41 true (buildV [(.slice none 0 0), (.int .i64 0), (.bool false)] [(1, 1, s0)] fun t44 =>
    loadN 3 s10 h fun t45 =>
    l_holds.call #[t44, t45, due] h fun t47 h =>
    br t47 true (cmpI (fun a b => a == b) t38 (.int .i64 0) fun t51 =>
    br t51 false (cmpI (fun a b => a == b) t38 (.int .i64 1) fun t54 =>
    br t54 true (l_aliveD.call #[] h fun t58 h =>
    Q t58 h) (Q (.bool false) h)) (l_aliveD.call #[] h fun t58_2 h =>
    Q t58_2 h)) (Q (.bool false) h)) (Q (.bool false) h)
theorem its_ne {m : Nat} {y : MT It} (f : y.Fl m) : (if (toD (mt0 y).2).1 = [] then 0 else (toD (mt0 y).2).lv.1) = mh y := by
  cases y with
  | none => rfl
  | some t =>
    obtain ⟨k, x⟩ := t
    have f : x.Fl m 1 := f
    have h1 := f.le.1
    show (if (toD x).1 = [] then 0 else (toD x).lv.1) = k + 1
    rw [toD_lv f, if_neg]
    rw [toD_its]
    intro e; rw [e] at h1; simp at h1
theorem bulk_mt {m : Nat} (hm : 3 ≤ m) {y : MT It} (f : y.Fl m) : (toD (mt0 y).2).bulk ≤ 2 * y.items.length + 1 := by
  cases y with
  | none => exact Nat.le_refl _
  | some t =>
    obtain ⟨k, x⟩ := t
    have f : x.Fl m 1 := f
    have := toD_bulk hm f (Nat.le_refl _)
    show (toD x).bulk ≤ 2 * x.items.length + 1
    omega
theorem valid_mt {d : Nat} (hd : 2 ≤ d) {y : MT It} (f : y.Fl (2 * d - 1)) (ha : Go.Hp.Asc Ii.lt y.items) : validB d (toD (mt0 y).2) := by
  cases y with
  | none => exact .inl ⟨rfl, rfl⟩
  | some t => exact toD_valid hd f (asc_iff.2 ha)
theorem endL_ok {d : Nat} (hd : 2 ≤ d) (hd2 : d ≤ 128) {k : Nat} {t : DT (k + 1)} {g : Heap} {vi vk vi' vk' vd : Value} {c : Int} {s4 s8 s9 s10 : Nat} {R : List Rg} {y : MT It} {o : Option It} {f : Int → Int → Int}
    (ha : ArgD g t vi vk) (hb : t.bulk ≤ 268435456) (hk : k ≤ 1048576) (hy : mh y ≤ k + 2) (hyl : y.items.length ≤ 268435457) (yf : y.Fl (2 * d - 1)) (ya : Go.Hp.Asc Ii.lt y.items)
    (hf : IntKind.i64.wrap (f (mh y) ((if t.1 = [] then 0 else t.lv.1 : Nat) : Int)) = 0 ∨ IntKind.i64.wrap (f (mh y) ((if t.1 = [] then 0 else t.lv.1 : Nat) : Int)) = 1)
    (hc : ArgC h (mt0 y).2 vi' vk') (hdue : Rdl 2 h vd y.items.length (y.items.flatMap encA))
    (s : St g [] ((s10, 0, [vi', vk', .int .i64 y.items.length]) :: (s9, 0, Ii.foundC o) :: (s8, 0, Ii.foundC o) :: (s4, 0, [vi, vk, .int .i64 c]) :: R) h)
    (H : ∀ E' h', St g [] E' h' → Q (.bool true) h') : endL (.int .i64 d) (ptr s4 0) (ptr s8 0) (ptr s9 0) (ptr s10 0) vd f h Q := by
  unfold endL
  have hbk := bulk_mt (by omega) yf
  have hbv := valid_mt hd yf ya
  have hmk : (mt0 y).1 ≤ k + 1 := by
    cases y with
    | none => exact Nat.zero_le _
    | some t => have : t.1 + 1 ≤ k + 2 := hy; show t.1 ≤ _; omega
  have live : ∀ {E' h'}, St g [] E' h' → l_aliveD.call #[] h' Q := fun s => l_aliveD_ok fun E' h' s' => H _ _ (s.join s')
  refine St.r_loadN0 s 0 rfl (by simp) ?_
  refine St.r_loadN0 s 3 rfl (by simp) ?_
  have s0 := St.start h
  refine NodeHeight_ok (toD (mt0 y).2) hc.toD (by omega) (by omega) rfl fun E2 h2 s2 => ?_
  rw [its_ne yf]
  have s := (s.join s2).perm List.perm_append_comm
  have s : St g [] ((s10, 0, [vi', vk', .int .i64 y.items.length]) :: (s9, 0, Ii.foundC o) :: (s8, 0, Ii.foundC o) :: (s4, 0, [vi, vk, .int .i64 c]) :: (R ++ E2)) h2 := s
  have hc := hc.fr s2.fr
  have hdue := hdue.st s2
  refine ⟨St.r_stillN0 s 3 (j := 0) (n := 3) rfl (by simp) rfl, ?_⟩
  refine NodeHeight_ok t (ha.fr s.fr) (by omega) (by omega) rfl fun E3 h3 s3 => ?_
  have s := (s.join s3).perm List.perm_append_comm
  have s : St g [] ((s10, 0, [vi', vk', .int .i64 y.items.length]) :: (s9, 0, Ii.foundC o) :: (s8, 0, Ii.foundC o) :: (s4, 0, [vi, vk, .int .i64 c]) :: ((R ++ E2) ++ E3)) h3 := s
  have hc := hc.fr s3.fr
  have hdue := hdue.st s3
  refine ⟨_, _, _, rfl, rfl, ?_⟩
  refine St.r_loadN0 s 1 rfl (by simp [Ii.foundC_len]) ?_
  refine St.r_loadN0 s 2 rfl (by simp [Ii.foundC_len]) ?_
  have eo : ((Ii.foundC o).drop 0).take 3 = Ii.foundC o := by cases o <;> rfl
  rw [eo]
  refine ⟨_, _, true, rfl, rfl, eqF o, ?_⟩
  refine r_br (fun _ => ?_) (fun e => absurd e (by decide))
  ((apply r_build; ((simp only [fillV, fill1, Value.cells, zeros_succ, zeros_zero, List.size_toArray, List.length_cons, List.length_nil, List.length_append, List.take_succ_cons, List.take_zero, List.take_nil, List.drop_succ_cons, List.drop_zero, List.drop_nil, List.cons_append, List.nil_append, List.append_nil, Nat.reduceAdd, Nat.reduceMul, Nat.reduceLeDiff, Nat.reduceEqDiff, and_self, and_true, true_and, if_true, Nat.le_refl, Nat.zero_add, Nat.add_zero, Nat.zero_mul, reduceIte, if_false] <;> rfl))))
  refine St.r_loadN0 s 0 rfl (by simp) ?_
  have hit : (mt0 y).2.items.length = y.items.length := by rw [mt0_items]
  have key := holds_ok (Q := fun t47 h => br t47 true (cmpI (fun a b => a == b) (.int .i64 (IntKind.i64.wrap (f (mh y) ((if t.1 = [] then 0 else t.lv.1 : Nat) : Int)))) (.int .i64 0) fun t51 =>
    br t51 false (cmpI (fun a b => a == b) (.int .i64 (IntKind.i64.wrap (f (mh y) ((if t.1 = [] then 0 else t.lv.1 : Nat) : Int)))) (.int .i64 1) fun t54 =>
    br t54 true (l_aliveD.call #[] h fun t58 h =>
    Q t58 h) (Q (.bool false) h)) (l_aliveD.call #[] h fun t58_2 h =>
    Q t58_2 h)) (Q (.bool false) h)) hd (by omega) (mt0 y).2 hc hbv (by omega) (by omega) (mt0_items y).symm hdue fun E4 h4 s4 => by
      have s := s.join s4
      refine r_br (fun _ => ?_) (fun e => absurd e (by decide))
      rcases hf with e | e
      · rw [e]
        refine r_cmpI ?_
        refine r_br (fun e => absurd e (by decide)) (fun _ => ?_)
        exact live s
      · rw [e]
        refine r_cmpI ?_
        refine r_br (fun _ => ?_) (fun e => absurd e (by decide))
        refine r_cmpI ?_
        refine r_br (fun _ => ?_) (fun e => absurd e (by decide))
        exact live s
  rw [hit] at key
  exact key
theorem fc {o : Option It} {b : Nat} {R : List Rg} {g : Heap} (s : St g [] ((b, 0, List.take 0 [.int .i64 0, .int .i64 0, .bool false] ++ Ii.foundC o ++ List.drop (0 + 3) [.int .i64 0, .int .i64 0, .bool false]) :: R) h) : St g [] ((b, 0, Ii.foundC o) :: R) h := by
  have e : List.take 0 [Value.int .i64 0, .int .i64 0, .bool false] ++ Ii.foundC o ++ List.drop (0 + 3) [Value.int .i64 0, .int .i64 0, .bool false] = Ii.foundC o := by simp
  rw [e] at s; exact s
/-- What FnDLoad does behind the due items. -/
def restL (s0 s4 s5 due t8 t26 : Value) (h : Heap) (Q : Value → Heap → Prop) : Prop :=
  storeN 3 t8 t26 h fun h =>
    loadN 3 s4 h fun t29 =>
    loadN 2 s5 h fun t30 =>
    i_DLoad.call #[s0, t29, t30] h fun t31 h =>
    extr 0 t31 fun t32 =>
    extr 1 t31 fun t33 =>
    alloc [(.int .i64 0), (.int .i64 0), (.bool false)] 32 h fun t9 h =>
    alloc [(.slice none 0 0), (.slice none 0 0), (.int .i64 0)] 25 h fun t10 h =>
    storeN 3 t9 t32 h fun h =>
    storeN 3 t10 t33 h fun h => endL s0 s4 t8 t9 t10 due (· - ·) h Q
theorem restL_ok {d : Nat} (hd : 2 ≤ d) (hd2 : d ≤ 128) {k : Nat} {t : DT (k + 1)} {g : Heap} {vi vk vd : Value} {c : Int} {s4 s5 s8 : Nat} {R : List Rg} {p : It}
    (ha : ArgD g t vi vk) (hb : t.bulk ≤ 1048576) (hk : k ≤ 1048576) (hv : validB d t) (h1 : one1 vi = true) (h2 : one1 vk = true)
    (hdue : ∃ b o sp, Own 2 vd (lput Ii.lt t.items p).length b o ((lput Ii.lt t.items p).flatMap encA) sp ∧ (b, o, (lput Ii.lt t.items p).flatMap encA ++ sp) ∈ R)
    (s : St g [] ((s8, 0, [.int .i64 0, .int .i64 0, .bool false]) :: (s5, 0, encA p) :: (s4, 0, [vi, vk, .int .i64 c]) :: R) h)
    (H : ∀ E' h', St g [] E' h' → Q (.bool true) h') : restL (.int .i64 d) (ptr s4 0) (ptr s5 0) vd (ptr s8 0) (.agg (Ii.foundC (lget Ii.lt t.items p)).toArray) h Q := by
  obtain ⟨m0, e1, e2, hs⟩ := stands_of (vc := .int .i64 c) ha (by omega) rfl hd hd2 hv
  obtain ⟨db, dof, dsp, dw, dm⟩ := hdue
  have hil := t.items_le
  unfold restL
  refine St.r_storeN0 s 0 rfl (Ii.foundC_len _) (by simp) (Ii.foundC_one _) ?_; intro h s
  have s : St g [] ((s8, 0, Ii.foundC (lget Ii.lt t.items p)) :: (s5, 0, encA p) :: (s4, 0, [vi, vk, .int .i64 c]) :: R) h := fc s
  refine St.r_loadN0 s 2 rfl (by simp) ?_
  refine St.r_loadN0 s 1 rfl (by simp) ?_
  refine DLoad_ok hd hd2 (p := p) (fun h' f => hs h' (s.fr.trans f (fun _ _ _ e => e))) h1 h2 rfl (by rw [e1]; omega) fun y vi' vk' E2 h' y1 y2 y3 y4 s2 hc => ?_
  have s := (s.join s2).perm List.perm_append_comm
  rw [e1] at y2
  have hyl : (lput Ii.lt t.items p).length ≤ t.items.length + 1 := by
    have : (lput Ii.lt t.items p).length = _ := lput_length
    rw [this]; split <;> omega
  obtain ⟨mh1, mh2⟩ := mh_set (2 * d - 1) m0 p
  rw [← y1] at mh1 mh2
  have hlv := t.lv_le
  have hm0 : mh m0 ≤ k + 1 := by rw [e2]; split <;> omega
  rw [e1]
  have efn : Ii.fnd t.items p.1 = lget Ii.lt t.items p := rfl
  rw [efn]
  have ho : ((Ii.foundC (lget Ii.lt t.items p)).drop 0).take 3 = Ii.foundC (lget Ii.lt t.items p) := by cases lget Ii.lt t.items p <;> rfl
  refine r_ext rfl ?_
  refine r_ext rfl ?_
  have hone := hc.one
  have s1 := St.start h'
  refine s1.r_alloc fun s9 h' s1 => ?_
  refine s1.r_alloc fun s10 h' s1 => ?_
  refine St.r_storeN0 s1 1 rfl (Ii.foundC_len _) (by simp) (Ii.foundC_one _) ?_; intro h' s1
  refine St.r_storeN0 s1 0 (ys := [vi', vk', .int .i64 y.items.length]) rfl rfl (by simp) (one3 hone.1 hone.2 rfl) ?_; intro h' s1
  have s1 : St _ [] ((s10, 0, [vi', vk', .int .i64 y.items.length]) :: (s9, 0, Ii.foundC (lget Ii.lt t.items p)) :: []) h' := (fc (s1.perm (List.Perm.swap _ _ _))).perm (List.Perm.swap _ _ _)
  have s := s.join s1
  refine endL_ok (o := lget Ii.lt t.items p) (c := c) (R := (s5, 0, encA p) :: (R ++ E2)) hd hd2 ha (by omega) hk (by omega) (by rw [y2]; omega) y3 y4 ?_ (hc.fr s1.fr) ?_ (s.perm ?_) H
  · rw [← e2]
    rcases mh2 with e | e
    · left; rw [e]; rw [Int.sub_self]; decide
    · right; rw [e]; rw [show (((mh m0 + 1 : Nat) : Int) - (mh m0 : Int)) = 1 by omega]; decide
  · rw [y2]
    refine dw.rdlO (s.ok (List.mem_append.2 (.inl ?_)))
    refine List.mem_append.2 (.inr (List.mem_append.2 (.inl ?_)))
    exact List.mem_cons_of_mem _ (List.mem_cons_of_mem _ (List.mem_cons_of_mem _ dm))
  · ((apply perm_rg; intro f; simp only [List.set_cons_zero, List.set_cons_succ, List.eraseIdx_cons_zero, List.eraseIdx_cons_succ, List.cons_append, List.nil_append, List.map_append, List.map_cons, List.map_nil, List.sum_append, List.sum_cons, List.sum_nil, List.map_flatMap, Nat.add_zero, Nat.zero_add]; ac_rfl))
end Go.Proofs.Ytlihjljdndbpdaa
end
section
namespace Go.Proofs.Ytlihjljdndbpdaa
open Go.Hp
set_option maxRecDepth 100000
set_option maxHeartbeats 8000000
set_option linter.unusedVariables false
set_option linter.unusedSimpArgs false

/-! ### laws.FnDLoad -/
def l_FnDLoad.j2 (s0 : Value) (s4 : Value) (s5 : Value) (h : Heap) (Q : Value → Heap → Prop) : Prop :=
    loadN 3 s4 h fun t21 =>
    loadN 2 s5 h fun t23 =>
    (s_NodeItems.call #[t21] h fun t22 h =>
    stillN 2 s5 t23 h ∧ (s_Put.call #[(.slice none 0 0), t22, t23] h fun t24 h =>
    extr 0 t24 fun t25 =>
    extr 1 t24 fun t26 =>
    alloc [(.int .i64 0), (.int .i64 0), (.bool false)] 32 h fun t8 h =>
    storeN 3 t8 t26 h fun h =>
    loadN 3 s4 h fun t29 =>
    loadN 2 s5 h fun t30 =>
    i_DLoad.call #[s0, t29, t30] h fun t31 h =>
    extr 0 t31 fun t32 =>
    extr 1 t31 fun t33 =>
    alloc [(.int .i64 0), (.int .i64 0), (.bool false)] 32 h fun t9 h =>
    alloc [(.slice none 0 0), (.slice none 0 0), (.int .i64 0)] 25 h fun t10 h =>
    storeN 3 t9 t32 h fun h =>
    storeN 3 t10 t33 h fun h =>
    loadN 3 t10 h fun t34 =>
    loadN 3 s4 h fun t36 =>
    s_NodeHeight.call #[t34] h fun t35 h =>
    stillN 3 s4 t36 h ∧ s_NodeHeight.call #[t36] h fun t37 h =>
    arith (· - ·) t35 t37 fun t38 =>
    loadN 3 t9 h fun t39 =>
    loadN 3 t8 h fun t40 =>
    eqR (EqV Try.prog 10000 32) t39 t40 fun t41 =>
    br t41 true (buildV [(.slice none 0 0), (.int .i64 0), (.bool false)] [(1, 1, s0)] fun t44 =>
    loadN 3 t10 h fun t45 =>
    l_holds.call #[t44, t45, t25] h fun t47 h =>
    br t47 true (cmpI (fun a b => a == b) t38 (.int .i64 0) fun t51 =>
    br t51 false (cmpI (fun a b => a == b) t38 (.int .i64 1) fun t54 =>
    br t54 true (l_aliveD.call #[] h fun t58 h =>
    Q t58 h) (Q (.bool false) h)) (l_aliveD.call #[] h fun t58_2 h =>
    Q t58_2 h)) (Q (.bool false) h)) (Q (.bool false) h)) ∧
    (alloc [(.int .i64 0), (.int .i64 0), (.bool false)] 32 h fun t8_2 h =>
    stillN 2 s5 t23 h ∧ s_Put.call #[(.slice none 0 0), t22, t23] h fun t24_2 h =>
    extr 0 t24_2 fun t25_2 =>
    extr 1 t24_2 fun t26_2 =>
    storeN 3 t8_2 t26_2 h fun h =>
    loadN 3 s4 h fun t29_2 =>
    loadN 2 s5 h fun t30_2 =>
    i_DLoad.call #[s0, t29_2, t30_2] h fun t31_2 h =>
    extr 0 t31_2 fun t32_2 =>
    extr 1 t31_2 fun t33_2 =>
    alloc [(.int .i64 0), (.int .i64 0), (.bool false)] 32 h fun t9_2 h =>
    alloc [(.slice none 0 0), (.slice none 0 0), (.int .i64 0)] 25 h fun t10_2 h =>
    storeN 3 t9_2 t32_2 h fun h =>
    storeN 3 t10_2 t33_2 h fun h =>
    loadN 3 t10_2 h fun t34_2 =>
    loadN 3 s4 h fun t36_2 =>
    s_NodeHeight.call #[t34_2] h fun t35_2 h =>
    stillN 3 s4 t36_2 h ∧ s_NodeHeight.call #[t36_2] h fun t37_2 h =>
    arith (· - ·) t35_2 t37_2 fun t38_2 =>
    loadN 3 t9_2 h fun t39_2 =>
    loadN 3 t8_2 h fun t40_2 =>
    eqR (EqV Try.prog 10000 32) t39_2 t40_2 fun t41_2 =>
    br t41_2 true (buildV [(.slice none 0 0), (.int .i64 0), (.bool false)] [(1, 1, s0)] fun t44_2 =>
    loadN 3 t10_2 h fun t45_2 =>
    l_holds.call #[t44_2, t45_2, t25_2] h fun t47_2 h =>
    br t47_2 true (cmpI (fun a b => a == b) t38_2 (.int .i64 0) fun t51_2 =>
    br t51_2 false (cmpI (fun a b => a == b) t38_2 (.int .i64 1) fun t54_2 =>
    br t54_2 true (l_aliveD.call #[] h fun t58_3 h =>
    Q t58_3 h) (Q (.bool false) h)) (l_aliveD.call #[] h fun t58_4 h =>
    Q t58_4 h)) (Q (.bool false) h)) (Q (.bool false) h))) ∧
    (alloc [(.int .i64 0), (.int .i64 0), (.bool false)] 32 h fun t8_3 h =>
    stillN 3 s4 t21 h ∧ stillN 2 s5 t23 h ∧ s_NodeItems.call #[t21] h fun t22_2 h =>
    stillN 2 s5 t23 h ∧ s_Put.call #[(.slice none 0 0), t22_2, t23] h fun t24_3 h =>
    extr 0 t24_3 fun t25_3 =>
    extr 1 t24_3 fun t26_3 =>
    storeN 3 t8_3 t26_3 h fun h =>
    loadN 3 s4 h fun t29_3 =>
    loadN 2 s5 h fun t30_3 =>
    i_DLoad.call #[s0, t29_3, t30_3] h fun t31_3 h =>
    extr 0 t31_3 fun t32_3 =>
    extr 1 t31_3 fun t33_3 =>
    alloc [(.int .i64 0), (.int .i64 0), (.bool false)] 32 h fun t9_3 h =>
    alloc [(.slice none 0 0), (.slice none 0 0), (.int .i64 0)] 25 h fun t10_3 h =>
    storeN 3 t9_3 t32_3 h fun h =>
    storeN 3 t10_3 t33_3 h fun h =>
    loadN 3 t10_3 h fun t34_3 =>
    loadN 3 s4 h fun t36_3 =>
    s_NodeHeight.call #[t34_3] h fun t35_3 h =>
    stillN 3 s4 t36_3 h ∧ s_NodeHeight.call #[t36_3] h fun t37_3 h =>
    arith (· - ·) t35_3 t37_3 fun t38_3 =>
    loadN 3 t9_3 h fun t39_3 =>
    loadN 3 t8_3 h fun t40_3 =>
    eqR (EqV Try.prog 10000 32) t39_3 t40_3 fun t41_3 =>
    br t41_3 true (buildV [(.slice none 0 0), (.int .i64 0), (.bool false)] [(1, 1, s0)] fun t44_3 =>
    loadN 3 t10_3 h fun t45_3 =>
    l_holds.call #[t44_3, t45_3, t25_3] h fun t47_3 h =>
    br t47_3 true (cmpI (fun a b => a == b) t38_3 (.int .i64 0) fun t51_3 =>
    br t51_3 false (cmpI (fun a b => a == b) t38_3 (.int .i64 1) fun t54_3 =>
    br t54_3 true (l_aliveD.call #[] h fun t58_5 h =>
    Q t58_5 h) (Q (.bool false) h)) (l_aliveD.call #[] h fun t58_6 h =>
    Q t58_6 h)) (Q (.bool false) h)) (Q (.bool false) h))
def l_FnDLoad.j1 (s0 : Value) (s4 : Value) (s5 : Value) (h : Heap) (Q : Value → Heap → Prop) : Prop :=
    loadN 3 s4 h fun t16 =>
    l_validD.call #[s0, t16] h fun t17 h =>
    notV t17 fun t18 =>
    ifV t18
    (l_aliveD.call #[] h fun t19 h =>
    Q t19 h)
    (l_FnDLoad.j2 s0 s4 s5 h Q)
def l_FnDLoad.sh (a0 : Value) (a1 : Value) (a2 : Value) (h : Heap) (Q : Value → Heap → Prop) : Prop :=
    box 25 a1 h fun t4 h =>
    box 27 a2 h fun t5 h =>
    loadN 3 t4 h fun t12 =>
    l_zzFits3.call #[t12] h fun t13 h =>
    notV t13 fun t14 =>
    ifV t14
    (Q (.bool true) h)
    (l_FnDLoad.j1 a0 t4 t5 h Q)
theorem l_FnDLoad.body (a0 : Value) (a1 : Value) (a2 : Value) (h : Heap) (Q : Value → Heap → Prop) (H : l_FnDLoad.sh a0 a1 a2 h Q) : l_FnDLoad.call #[a0, a1, a2] h Q := by
  refine callsH_of (args := [a0, a1, a2]) Try.func4 rfl rfl ?_
  unfold l_FnDLoad.sh at H
  refine WPc_seq' ?_
  refine W_region (by kernel_rfl) ?_
  refine vl_n ?_
  refine H_box H fun t4 h H => ?_
  refine vl_n ?_
  refine H_box H fun t5 h H => ?_
  refine vl_n ?_
  refine H_of_R (R_assign (v := (.bool false)) rfl ?_)
  refine vl_e ?_
  refine WPc_seq (fun e h => l_FnDLoad.j1 (e 0) (e 4) (e 5) h Q) ?_ (fun e h H => ?_)
  rotate_left
  · unfold l_FnDLoad.j1 at H
    refine WPc_seq (fun e h => l_FnDLoad.j2 (e 0) (e 4) (e 5) h Q) ?_ (fun e h H => ?_)
    rotate_left
    · unfold l_FnDLoad.j2 at H
      refine WPc_seq' ?_
      refine W_drawn [0, 1, 0, 7, 15, 31, 31, 0, 191, 511] (.take 0 (.take 2 (.alt 1 (.alt 3 (.take 4 (.take 5 (.take 6 (.alt 7 (.take 8 (.alt 9 .done .none)) .none)))) (.alt 7 (.alt 3 (.take 4 (.take 5 (.take 6 (.take 8 (.alt 9 .done .none))))) .none) .none)) (.alt 7 (.alt 1 (.alt 3 (.take 4 (.take 5 (.take 6 (.take 8 (.alt 9 .done .none))))) .none) .none) .none)))) mixed (by kernel_rfl) ?_
      refine tkL rfl ?_
      refine R_loadN TN_25 H fun at21 xt21 hat21 _ H St21 hSt21 => ?_
      refine tkL rfl ?_
      refine R_loadN TN_27 H fun at23 xt23 hat23 _ H St23 hSt23 => ?_
      obtain ⟨HA0, HA1⟩ := H
      refine alt_n rfl ?_ ?_
      · have H := HA0; clear HA0 HA1
        refine H_call HB_19 H fun t22 h ⟨S, H⟩ => ⟨(hcons rfl (hSt23 _ (still_N S hat23 rfl)) (hskip rfl hnil)), ?_⟩
        obtain ⟨HA0, HA1⟩ := H
        refine alt_n rfl ?_ ?_
        · have H := HA0; clear HA0 HA1
          refine H_call HB_18 H fun t24 h H => ⟨(hskip rfl hnil), ?_⟩
          refine tkP rfl ?_
          refine R_move (v := t24) rfl ⟨fun _ => trivial, ?_⟩
          refine tkP rfl ?_
          refine R_ext H fun t25 H => ⟨fun _ => trivial, ?_⟩
          refine tkP rfl ?_
          refine R_ext H fun t26 H => ⟨fun _ => trivial, ?_⟩
          refine alt_n rfl ?_ vp_none
          refine H_alloc TV_32 H fun t8 h H => ⟨hnil, ?_⟩
          refine tkP rfl ?_
          refine R_assign (v := t25) rfl ⟨fun _ => trivial, ?_⟩
          refine alt_n rfl ?_ vp_none
          refine H_storeN TS_32 H fun h H => ⟨hnil, ?_⟩
          refine vp_done ?_
          refine WPc_seq' ?_
          refine W_region (by kernel_rfl) ?_
          refine vl_n ?_
          refine H_of_R (R_move (v := (e 0)) rfl ?_)
          refine vl_n ?_
          refine H_of_R (R_loadN TN_25 H fun _ t29 _ _ H _ _ => ?_)
          refine vl_n ?_
          refine H_of_R (R_loadN TN_27 H fun _ t30 _ _ H _ _ => ?_)
          refine vl_n ?_
          refine H_call HB_20 H fun t31 h H => ?_
          refine vl_n ?_
          refine H_of_R (R_move (v := t31) rfl ?_)
          refine vl_n ?_
          refine H_of_R (R_ext H fun t32 H => ?_)
          refine vl_n ?_
          refine H_of_R (R_ext H fun t33 H => ?_)
          refine vl_n ?_
          refine H_alloc TV_32 H fun t9 h H => ?_
          refine vl_n ?_
          refine H_alloc TV_25 H fun t10 h H => ?_
          refine vl_n ?_
          refine H_storeN TS_32 H fun h H => ?_
          refine vl_n ?_
          refine H_storeN TS_25 H fun h H => ?_
          refine vl_e ?_
          refine WPc_seq' ?_
          refine W_drawn [0, 1, 0, 7, 15, 31] (.take 0 (.take 2 (.alt 1 (.alt 3 (.take 4 (.take 5 .done)) .none) .none))) mixed (by kernel_rfl) ?_
          refine tkL rfl ?_
          refine R_loadN TN_25 H fun at34 xt34 hat34 _ H St34 hSt34 => ?_
          refine tkL rfl ?_
          refine R_loadN TN_25 H fun at36 xt36 hat36 _ H St36 hSt36 => ?_
          refine alt_n rfl ?_ vp_none
          refine H_call HB_21 H fun t35 h ⟨S_2, H⟩ => ⟨(hcons rfl (hSt36 _ (still_N S_2 hat36 rfl)) (hskip rfl hnil)), ?_⟩
          refine alt_n rfl ?_ vp_none
          refine H_call HB_21 H fun t37 h H => ⟨(hskip rfl hnil), ?_⟩
          refine tkP rfl ?_
          refine R_sub H fun t38 H => ⟨fun _ => trivial, ?_⟩
          refine tkP rfl ?_
          refine R_assign (v := t38) rfl ⟨fun _ => trivial, ?_⟩
          refine vp_done ?_
          refine WPc_seq' ?_
          refine W_region (by kernel_rfl) ?_
          refine vl_n ?_
          refine H_of_R (R_loadN TN_32 H fun _ t39 _ _ H _ _ => ?_)
          refine vl_n ?_
          refine H_of_R (R_loadN TN_32 H fun _ t40 _ _ H _ _ => ?_)
          refine vl_n ?_
          refine H_of_R (R_eqA (by kernel_rfl) H fun t41 H => ?_)
          refine vl_n ?_
          refine H_of_R (R_move (v := t41) rfl ?_)
          obtain ⟨b, hb, H1, H2⟩ := H
          cases b
          · have H := H2 rfl; clear H1 H2
            refine vl_s rfl (nbT hb) ?_
            refine vl_s rfl (nbT hb) ?_
            refine vl_s rfl (nbT hb) ?_
            refine vl_s rfl (nbT hb) ?_
            refine vl_s rfl (nbT hb) ?_
            refine vl_n ?_
            refine H_of_R (R_pickC (v := (.bool false)) false hb rfl ?_)
            refine vl_n ?_
            refine H_of_R (R_move (v := (.bool false)) rfl ?_)
            refine vl_s rfl (nbT rfl) ?_
            refine vl_s rfl (nbT rfl) ?_
            refine vl_s rfl (nbT rfl) ?_
            refine vl_s rfl nbU ?_
            refine vl_s rfl nbU ?_
            refine vl_s rfl (nbT rfl) ?_
            refine vl_n ?_
            refine H_of_R (R_pickC (v := (.bool false)) false rfl rfl ?_)
            refine vl_n ?_
            refine H_of_R (R_move (v := (.bool false)) rfl ?_)
            refine vl_s rfl (nbT rfl) ?_
            refine vl_n ?_
            refine H_of_R (R_pickC (v := (.bool false)) false rfl rfl ?_)
            refine vl_n ?_
            refine H_of_R (R_assign (v := (.bool false)) rfl ?_)
            refine vl_e ?_
            refine WPc_ret ?_
            refine resH_of rfl ?_
            exact H
          · have H := H1 rfl; clear H1 H2
            refine vl_y rfl hb ?_
            refine H_of_R (R_move (v := (e 0)) rfl ?_)
            refine vl_y rfl hb ?_
            refine H_of_R (R_build TB_39 rfl (by decide) H fun t44 H => ?_)
            refine vl_y rfl hb ?_
            refine H_of_R (R_loadN TN_25 H fun _ t45 _ _ H _ _ => ?_)
            refine vl_y rfl hb ?_
            refine H_of_R (R_move (v := t25) rfl ?_)
            refine vl_y rfl hb ?_
            refine H_call HB_22 H fun t47 h H => ?_
            refine vl_n ?_
            refine H_of_R (R_pickC (v := t47) true hb rfl ?_)
            refine vl_n ?_
            refine H_of_R (R_move (v := t47) rfl ?_)
            obtain ⟨b_2, hb_2, H1, H2⟩ := H
            cases b_2
            · have H := H2 rfl; clear H1 H2
              refine vl_s rfl (nbT hb_2) ?_
              refine vl_s rfl (nbT hb_2) ?_
              refine vl_s rfl (nbT hb_2) ?_
              refine vl_s rfl nbU ?_
              refine vl_s rfl nbU ?_
              refine vl_s rfl (nbT hb_2) ?_
              refine vl_n ?_
              refine H_of_R (R_pickC (v := (.bool false)) false hb_2 rfl ?_)
              refine vl_n ?_
              refine H_of_R (R_move (v := (.bool false)) rfl ?_)
              refine vl_s rfl (nbT rfl) ?_
              refine vl_n ?_
              refine H_of_R (R_pickC (v := (.bool false)) false rfl rfl ?_)
              refine vl_n ?_
              refine H_of_R (R_assign (v := (.bool false)) rfl ?_)
              refine vl_e ?_
              refine WPc_ret ?_
              refine resH_of rfl ?_
              exact H
            · have H := H1 rfl; clear H1 H2
              refine vl_y rfl hb_2 ?_
              refine H_of_R (R_move (v := t38) rfl ?_)
              refine vl_y rfl hb_2 ?_
              refine H_of_R (R_eqI H fun t51 H => ?_)
              refine vl_y rfl hb_2 ?_
              refine H_of_R (R_move (v := t51) rfl ?_)
              obtain ⟨b_3, hb_3, H1, H2⟩ := H
              cases b_3
              · have H := H1 rfl; clear H1 H2
                refine vl_y rfl hb_3 ?_
                refine H_of_R (R_move (v := t38) rfl ?_)
                refine vl_y rfl hb_3 ?_
                refine H_of_R (R_eqI H fun t54 H => ?_)
                refine vl_y rfl hb_2 ?_
                refine H_of_R (R_pickC (v := t54) false hb_3 rfl ?_)
                refine vl_n ?_
                refine H_of_R (R_pickC (v := t54) true hb_2 rfl ?_)
                refine vl_n ?_
                refine H_of_R (R_move (v := t54) rfl ?_)
                obtain ⟨b_4, hb_4, H1, H2⟩ := H
                cases b_4
                · have H := H2 rfl; clear H1 H2
                  refine vl_s rfl (nbT hb_4) ?_
                  refine vl_n ?_
                  refine H_of_R (R_pickC (v := (.bool false)) false hb_4 rfl ?_)
                  refine vl_n ?_
                  refine H_of_R (R_assign (v := (.bool false)) rfl ?_)
                  refine vl_e ?_
                  refine WPc_ret ?_
                  refine resH_of rfl ?_
                  exact H
                · have H := H1 rfl; clear H1 H2
                  refine vl_y rfl hb_4 ?_
                  refine H_call HB_14 H fun t58 h H => ?_
                  refine vl_n ?_
                  refine H_of_R (R_pickC (v := t58) true hb_4 rfl ?_)
                  refine vl_n ?_
                  refine H_of_R (R_assign (v := t58) rfl ?_)
                  refine vl_e ?_
                  refine WPc_ret ?_
                  refine resH_of rfl ?_
                  exact H
              · have H := H2 rfl; clear H1 H2
                refine vl_s rfl (nbF hb_3) ?_
                refine vl_s rfl (nbF hb_3) ?_
                refine vl_y rfl hb_2 ?_
                refine H_of_R (R_pickC (v := (.bool true)) true hb_3 rfl ?_)
                refine vl_n ?_
                refine H_of_R (R_pickC (v := (.bool true)) true hb_2 rfl ?_)
                refine vl_n ?_
                refine H_of_R (R_move (v := (.bool true)) rfl ?_)
                refine vl_y rfl rfl ?_
                refine H_call HB_14 H fun t58_2 h H => ?_
                refine vl_n ?_
                refine H_of_R (R_pickC (v := t58_2) true rfl rfl ?_)
                refine vl_n ?_
                refine H_of_R (R_assign (v := t58_2) rfl ?_)
                refine vl_e ?_
                refine WPc_ret ?_
                refine resH_of rfl ?_
                exact H
        refine alt_n rfl ?_ vp_none
        have H := HA1; clear HA0 HA1
        refine H_alloc TV_32 H fun t8_2 h ⟨S_3, H⟩ => ⟨(hcons rfl (hSt23 _ (still_N S_3 hat23 rfl)) hnil), ?_⟩
        refine alt_n rfl ?_ vp_none
        refine H_call HB_18 H fun t24_2 h H => ⟨(hskip rfl hnil), ?_⟩
        refine tkP rfl ?_
        refine R_move (v := t24_2) rfl ⟨fun _ => trivial, ?_⟩
        refine tkP rfl ?_
        refine R_ext H fun t25_2 H => ⟨fun _ => trivial, ?_⟩
        refine tkP rfl ?_
        refine R_ext H fun t26_2 H => ⟨fun _ => trivial, ?_⟩
        refine tkP rfl ?_
        refine R_assign (v := t25_2) rfl ⟨fun _ => trivial, ?_⟩
        refine alt_n rfl ?_ vp_none
        refine H_storeN TS_32 H fun h H => ⟨hnil, ?_⟩
        refine vp_done ?_
        refine WPc_seq' ?_
        refine W_region (by kernel_rfl) ?_
        refine vl_n ?_
        refine H_of_R (R_move (v := (e 0)) rfl ?_)
        refine vl_n ?_
        refine H_of_R (R_loadN TN_25 H fun _ t29_2 _ _ H _ _ => ?_)
        refine vl_n ?_
        refine H_of_R (R_loadN TN_27 H fun _ t30_2 _ _ H _ _ => ?_)
        refine vl_n ?_
        refine H_call HB_20 H fun t31_2 h H => ?_
        refine vl_n ?_
        refine H_of_R (R_move (v := t31_2) rfl ?_)
        refine vl_n ?_
        refine H_of_R (R_ext H fun t32_2 H => ?_)
        refine vl_n ?_
        refine H_of_R (R_ext H fun t33_2 H => ?_)
        refine vl_n ?_
        refine H_alloc TV_32 H fun t9_2 h H => ?_
        refine vl_n ?_
        refine H_alloc TV_25 H fun t10_2 h H => ?_
        refine vl_n ?_
        refine H_storeN TS_32 H fun h H => ?_
        refine vl_n ?_
        refine H_storeN TS_25 H fun h H => ?_
        refine vl_e ?_
        refine WPc_seq' ?_
        refine W_drawn [0, 1, 0, 7, 15, 31] (.take 0 (.take 2 (.alt 1 (.alt 3 (.take 4 (.take 5 .done)) .none) .none))) mixed (by kernel_rfl) ?_
        refine tkL rfl ?_
        refine R_loadN TN_25 H fun at34_2 xt34_2 hat34_2 _ H St34_2 hSt34_2 => ?_
        refine tkL rfl ?_
        refine R_loadN TN_25 H fun at36_2 xt36_2 hat36_2 _ H St36_2 hSt36_2 => ?_
        refine alt_n rfl ?_ vp_none
        refine H_call HB_21 H fun t35_2 h ⟨S_4, H⟩ => ⟨(hcons rfl (hSt36_2 _ (still_N S_4 hat36_2 rfl)) (hskip rfl hnil)), ?_⟩
        refine alt_n rfl ?_ vp_none
        refine H_call HB_21 H fun t37_2 h H => ⟨(hskip rfl hnil), ?_⟩
        refine tkP rfl ?_
        refine R_sub H fun t38_2 H => ⟨fun _ => trivial, ?_⟩
        refine tkP rfl ?_
        refine R_assign (v := t38_2) rfl ⟨fun _ => trivial, ?_⟩
        refine vp_done ?_
        refine WPc_seq' ?_
        refine W_region (by kernel_rfl) ?_
        refine vl_n ?_
        refine H_of_R (R_loadN TN_32 H fun _ t39_2 _ _ H _ _ => ?_)
        refine vl_n ?_
        refine H_of_R (R_loadN TN_32 H fun _ t40_2 _ _ H _ _ => ?_)
        refine vl_n ?_
        refine H_of_R (R_eqA (by kernel_rfl) H fun t41_2 H => ?_)
        refine vl_n ?_
        refine H_of_R (R_move (v := t41_2) rfl ?_)
        obtain ⟨b_5, hb_5, H1, H2⟩ := H
        cases b_5
        · have H := H2 rfl; clear H1 H2
          refine vl_s rfl (nbT hb_5) ?_
          refine vl_s rfl (nbT hb_5) ?_
          refine vl_s rfl (nbT hb_5) ?_
          refine vl_s rfl (nbT hb_5) ?_
          refine vl_s rfl (nbT hb_5) ?_
          refine vl_n ?_
          refine H_of_R (R_pickC (v := (.bool false)) false hb_5 rfl ?_)
          refine vl_n ?_
          refine H_of_R (R_move (v := (.bool false)) rfl ?_)
          refine vl_s rfl (nbT rfl) ?_
          refine vl_s rfl (nbT rfl) ?_
          refine vl_s rfl (nbT rfl) ?_
          refine vl_s rfl nbU ?_
          refine vl_s rfl nbU ?_
          refine vl_s rfl (nbT rfl) ?_
          refine vl_n ?_
          refine H_of_R (R_pickC (v := (.bool false)) false rfl rfl ?_)
          refine vl_n ?_
          refine H_of_R (R_move (v := (.bool false)) rfl ?_)
          refine vl_s rfl (nbT rfl) ?_
          refine vl_n ?_
          refine H_of_R (R_pickC (v := (.bool false)) false rfl rfl ?_)
          refine vl_n ?_
          refine H_of_R (R_assign (v := (.bool false)) rfl ?_)
          refine vl_e ?_
          refine WPc_ret ?_
          refine resH_of rfl ?_
          exact H
        · have H := H1 rfl; clear H1 H2
          refine vl_y rfl hb_5 ?_
          refine H_of_R (R_move (v := (e 0)) rfl ?_)
          refine vl_y rfl hb_5 ?_
          refine H_of_R (R_build TB_39 rfl (by decide) H fun t44_2 H => ?_)
          refine vl_y rfl hb_5 ?_
          refine H_of_R (R_loadN TN_25 H fun _ t45_2 _ _ H _ _ => ?_)
          refine vl_y rfl hb_5 ?_
          refine H_of_R (R_move (v := t25_2) rfl ?_)
          refine vl_y rfl hb_5 ?_
          refine H_call HB_22 H fun t47_2 h H => ?_
          refine vl_n ?_
          refine H_of_R (R_pickC (v := t47_2) true hb_5 rfl ?_)
          refine vl_n ?_
          refine H_of_R (R_move (v := t47_2) rfl ?_)
          obtain ⟨b_6, hb_6, H1, H2⟩ := H
          cases b_6
          · have H := H2 rfl; clear H1 H2
            refine vl_s rfl (nbT hb_6) ?_
            refine vl_s rfl (nbT hb_6) ?_
            refine vl_s rfl (nbT hb_6) ?_
            refine vl_s rfl nbU ?_
            refine vl_s rfl nbU ?_
            refine vl_s rfl (nbT hb_6) ?_
            refine vl_n ?_
            refine H_of_R (R_pickC (v := (.bool false)) false hb_6 rfl ?_)
            refine vl_n ?_
            refine H_of_R (R_move (v := (.bool false)) rfl ?_)
            refine vl_s rfl (nbT rfl) ?_
            refine vl_n ?_
            refine H_of_R (R_pickC (v := (.bool false)) false rfl rfl ?_)
            refine vl_n ?_
            refine H_of_R (R_assign (v := (.bool false)) rfl ?_)
            refine vl_e ?_
            refine WPc_ret ?_
            refine resH_of rfl ?_
            exact H
          · have H := H1 rfl; clear H1 H2
            refine vl_y rfl hb_6 ?_
            refine H_of_R (R_move (v := t38_2) rfl ?_)
            refine vl_y rfl hb_6 ?_
            refine H_of_R (R_eqI H fun t51_2 H => ?_)
            refine vl_y rfl hb_6 ?_
            refine H_of_R (R_move (v := t51_2) rfl ?_)
            obtain ⟨b_7, hb_7, H1, H2⟩ := H
            cases b_7
            · have H := H1 rfl; clear H1 H2
              refine vl_y rfl hb_7 ?_
              refine H_of_R (R_move (v := t38_2) rfl ?_)
              refine vl_y rfl hb_7 ?_
              refine H_of_R (R_eqI H fun t54_2 H => ?_)
              refine vl_y rfl hb_6 ?_
              refine H_of_R (R_pickC (v := t54_2) false hb_7 rfl ?_)
              refine vl_n ?_
              refine H_of_R (R_pickC (v := t54_2) true hb_6 rfl ?_)
              refine vl_n ?_
              refine H_of_R (R_move (v := t54_2) rfl ?_)
              obtain ⟨b_8, hb_8, H1, H2⟩ := H
              cases b_8
              · have H := H2 rfl; clear H1 H2
                refine vl_s rfl (nbT hb_8) ?_
                refine vl_n ?_
                refine H_of_R (R_pickC (v := (.bool false)) false hb_8 rfl ?_)
                refine vl_n ?_
                refine H_of_R (R_assign (v := (.bool false)) rfl ?_)
                refine vl_e ?_
                refine WPc_ret ?_
                refine resH_of rfl ?_
                exact H
              · have H := H1 rfl; clear H1 H2
                refine vl_y rfl hb_8 ?_
                refine H_call HB_14 H fun t58_3 h H => ?_
                refine vl_n ?_
                refine H_of_R (R_pickC (v := t58_3) true hb_8 rfl ?_)
                refine vl_n ?_
                refine H_of_R (R_assign (v := t58_3) rfl ?_)
                refine vl_e ?_
                refine WPc_ret ?_
                refine resH_of rfl ?_
                exact H
            · have H := H2 rfl; clear H1 H2
              refine vl_s rfl (nbF hb_7) ?_
              refine vl_s rfl (nbF hb_7) ?_
              refine vl_y rfl hb_6 ?_
              refine H_of_R (R_pickC (v := (.bool true)) true hb_7 rfl ?_)
              refine vl_n ?_
              refine H_of_R (R_pickC (v := (.bool true)) true hb_6 rfl ?_)
              refine vl_n ?_
              refine H_of_R (R_move (v := (.bool true)) rfl ?_)
              refine vl_y rfl rfl ?_
              refine H_call HB_14 H fun t58_4 h H => ?_
              refine vl_n ?_
              refine H_of_R (R_pickC (v := t58_4) true rfl rfl ?_)
              refine vl_n ?_
              refine H_of_R (R_assign (v := t58_4) rfl ?_)
              refine vl_e ?_
              refine WPc_ret ?_
              refine resH_of rfl ?_
              exact H
      refine alt_n rfl ?_ vp_none
      have H := HA1; clear HA0 HA1
      refine H_alloc TV_32 H fun t8_3 h ⟨S_5, S_6, H⟩ => ⟨(hcons rfl (hSt23 _ (still_N S_6 hat23 rfl)) (hcons rfl (hSt21 _ (still_N S_5 hat21 rfl)) hnil)), ?_⟩
      refine alt_n rfl ?_ vp_none
      refine H_call HB_19 H fun t22_2 h ⟨S_7, H⟩ => ⟨(hcons rfl (hSt23 _ (still_N S_7 hat23 rfl)) (hskip rfl hnil)), ?_⟩
      refine alt_n rfl ?_ vp_none
      refine H_call HB_18 H fun t24_3 h H => ⟨(hskip rfl hnil), ?_⟩
      refine tkP rfl ?_
      refine R_move (v := t24_3) rfl ⟨fun _ => trivial, ?_⟩
      refine tkP rfl ?_
      refine R_ext H fun t25_3 H => ⟨fun _ => trivial, ?_⟩
      refine tkP rfl ?_
      refine R_ext H fun t26_3 H => ⟨fun _ => trivial, ?_⟩
      refine tkP rfl ?_
      refine R_assign (v := t25_3) rfl ⟨fun _ => trivial, ?_⟩
      refine alt_n rfl ?_ vp_none
      refine H_storeN TS_32 H fun h H => ⟨hnil, ?_⟩
      refine vp_done ?_
      refine WPc_seq' ?_
      refine W_region (by kernel_rfl) ?_
      refine vl_n ?_
      refine H_of_R (R_move (v := (e 0)) rfl ?_)
      refine vl_n ?_
      refine H_of_R (R_loadN TN_25 H fun _ t29_3 _ _ H _ _ => ?_)
      refine vl_n ?_
      refine H_of_R (R_loadN TN_27 H fun _ t30_3 _ _ H _ _ => ?_)
      refine vl_n ?_
      refine H_call HB_20 H fun t31_3 h H => ?_
      refine vl_n ?_
      refine H_of_R (R_move (v := t31_3) rfl ?_)
      refine vl_n ?_
      refine H_of_R (R_ext H fun t32_3 H => ?_)
      refine vl_n ?_
      refine H_of_R (R_ext H fun t33_3 H => ?_)
      refine vl_n ?_
      refine H_alloc TV_32 H fun t9_3 h H => ?_
      refine vl_n ?_
      refine H_alloc TV_25 H fun t10_3 h H => ?_
      refine vl_n ?_
      refine H_storeN TS_32 H fun h H => ?_
      refine vl_n ?_
      refine H_storeN TS_25 H fun h H => ?_
      refine vl_e ?_
      refine WPc_seq' ?_
      refine W_drawn [0, 1, 0, 7, 15, 31] (.take 0 (.take 2 (.alt 1 (.alt 3 (.take 4 (.take 5 .done)) .none) .none))) mixed (by kernel_rfl) ?_
      refine tkL rfl ?_
      refine R_loadN TN_25 H fun at34_3 xt34_3 hat34_3 _ H St34_3 hSt34_3 => ?_
      refine tkL rfl ?_
      refine R_loadN TN_25 H fun at36_3 xt36_3 hat36_3 _ H St36_3 hSt36_3 => ?_
      refine alt_n rfl ?_ vp_none
      refine H_call HB_21 H fun t35_3 h ⟨S_8, H⟩ => ⟨(hcons rfl (hSt36_3 _ (still_N S_8 hat36_3 rfl)) (hskip rfl hnil)), ?_⟩
      refine alt_n rfl ?_ vp_none
      refine H_call HB_21 H fun t37_3 h H => ⟨(hskip rfl hnil), ?_⟩
      refine tkP rfl ?_
      refine R_sub H fun t38_3 H => ⟨fun _ => trivial, ?_⟩
      refine tkP rfl ?_
      refine R_assign (v := t38_3) rfl ⟨fun _ => trivial, ?_⟩
      refine vp_done ?_
      refine WPc_seq' ?_
      refine W_region (by kernel_rfl) ?_
      refine vl_n ?_
      refine H_of_R (R_loadN TN_32 H fun _ t39_3 _ _ H _ _ => ?_)
      refine vl_n ?_
      refine H_of_R (R_loadN TN_32 H fun _ t40_3 _ _ H _ _ => ?_)
      refine vl_n ?_
      refine H_of_R (R_eqA (by kernel_rfl) H fun t41_3 H => ?_)
      refine vl_n ?_
      refine H_of_R (R_move (v := t41_3) rfl ?_)
      obtain ⟨b_9, hb_9, H1, H2⟩ := H
      cases b_9
      · have H := H2 rfl; clear H1 H2
        refine vl_s rfl (nbT hb_9) ?_
        refine vl_s rfl (nbT hb_9) ?_
        refine vl_s rfl (nbT hb_9) ?_
        refine vl_s rfl (nbT hb_9) ?_
        refine vl_s rfl (nbT hb_9) ?_
        refine vl_n ?_
        refine H_of_R (R_pickC (v := (.bool false)) false hb_9 rfl ?_)
        refine vl_n ?_
        refine H_of_R (R_move (v := (.bool false)) rfl ?_)
        refine vl_s rfl (nbT rfl) ?_
        refine vl_s rfl (nbT rfl) ?_
        refine vl_s rfl (nbT rfl) ?_
        refine vl_s rfl nbU ?_
        refine vl_s rfl nbU ?_
        refine vl_s rfl (nbT rfl) ?_
        refine vl_n ?_
        refine H_of_R (R_pickC (v := (.bool false)) false rfl rfl ?_)
        refine vl_n ?_
        refine H_of_R (R_move (v := (.bool false)) rfl ?_)
        refine vl_s rfl (nbT rfl) ?_
        refine vl_n ?_
        refine H_of_R (R_pickC (v := (.bool false)) false rfl rfl ?_)
        refine vl_n ?_
        refine H_of_R (R_assign (v := (.bool false)) rfl ?_)
        refine vl_e ?_
        refine WPc_ret ?_
        refine resH_of rfl ?_
        exact H
      · have H := H1 rfl; clear H1 H2
        refine vl_y rfl hb_9 ?_
        refine H_of_R (R_move (v := (e 0)) rfl ?_)
        refine vl_y rfl hb_9 ?_
        refine H_of_R (R_build TB_39 rfl (by decide) H fun t44_3 H => ?_)
        refine vl_y rfl hb_9 ?_
        refine H_of_R (R_loadN TN_25 H fun _ t45_3 _ _ H _ _ => ?_)
        refine vl_y rfl hb_9 ?_
        refine H_of_R (R_move (v := t25_3) rfl ?_)
        refine vl_y rfl hb_9 ?_
        refine H_call HB_22 H fun t47_3 h H => ?_
        refine vl_n ?_
        refine H_of_R (R_pickC (v := t47_3) true hb_9 rfl ?_)
        refine vl_n ?_
        refine H_of_R (R_move (v := t47_3) rfl ?_)
        obtain ⟨b_10, hb_10, H1, H2⟩ := H
        cases b_10
        · have H := H2 rfl; clear H1 H2
          refine vl_s rfl (nbT hb_10) ?_
          refine vl_s rfl (nbT hb_10) ?_
          refine vl_s rfl (nbT hb_10) ?_
          refine vl_s rfl nbU ?_
          refine vl_s rfl nbU ?_
          refine vl_s rfl (nbT hb_10) ?_
          refine vl_n ?_
          refine H_of_R (R_pickC (v := (.bool false)) false hb_10 rfl ?_)
          refine vl_n ?_
          refine H_of_R (R_move (v := (.bool false)) rfl ?_)
          refine vl_s rfl (nbT rfl) ?_
          refine vl_n ?_
          refine H_of_R (R_pickC (v := (.bool false)) false rfl rfl ?_)
          refine vl_n ?_
          refine H_of_R (R_assign (v := (.bool false)) rfl ?_)
          refine vl_e ?_
          refine WPc_ret ?_
          refine resH_of rfl ?_
          exact H
        · have H := H1 rfl; clear H1 H2
          refine vl_y rfl hb_10 ?_
          refine H_of_R (R_move (v := t38_3) rfl ?_)
          refine vl_y rfl hb_10 ?_
          refine H_of_R (R_eqI H fun t51_3 H => ?_)
          refine vl_y rfl hb_10 ?_
          refine H_of_R (R_move (v := t51_3) rfl ?_)
          obtain ⟨b_11, hb_11, H1, H2⟩ := H
          cases b_11
          · have H := H1 rfl; clear H1 H2
            refine vl_y rfl hb_11 ?_
            refine H_of_R (R_move (v := t38_3) rfl ?_)
            refine vl_y rfl hb_11 ?_
            refine H_of_R (R_eqI H fun t54_3 H => ?_)
            refine vl_y rfl hb_10 ?_
            refine H_of_R (R_pickC (v := t54_3) false hb_11 rfl ?_)
            refine vl_n ?_
            refine H_of_R (R_pickC (v := t54_3) true hb_10 rfl ?_)
            refine vl_n ?_
            refine H_of_R (R_move (v := t54_3) rfl ?_)
            obtain ⟨b_12, hb_12, H1, H2⟩ := H
            cases b_12
            · have H := H2 rfl; clear H1 H2
              refine vl_s rfl (nbT hb_12) ?_
              refine vl_n ?_
              refine H_of_R (R_pickC (v := (.bool false)) false hb_12 rfl ?_)
              refine vl_n ?_
              refine H_of_R (R_assign (v := (.bool false)) rfl ?_)
              refine vl_e ?_
              refine WPc_ret ?_
              refine resH_of rfl ?_
              exact H
            · have H := H1 rfl; clear H1 H2
              refine vl_y rfl hb_12 ?_
              refine H_call HB_14 H fun t58_5 h H => ?_
              refine vl_n ?_
              refine H_of_R (R_pickC (v := t58_5) true hb_12 rfl ?_)
              refine vl_n ?_
              refine H_of_R (R_assign (v := t58_5) rfl ?_)
              refine vl_e ?_
              refine WPc_ret ?_
              refine resH_of rfl ?_
              exact H
          · have H := H2 rfl; clear H1 H2
            refine vl_s rfl (nbF hb_11) ?_
            refine vl_s rfl (nbF hb_11) ?_
            refine vl_y rfl hb_10 ?_
            refine H_of_R (R_pickC (v := (.bool true)) true hb_11 rfl ?_)
            refine vl_n ?_
            refine H_of_R (R_pickC (v := (.bool true)) true hb_10 rfl ?_)
            refine vl_n ?_
            refine H_of_R (R_move (v := (.bool true)) rfl ?_)
            refine vl_y rfl rfl ?_
            refine H_call HB_14 H fun t58_6 h H => ?_
            refine vl_n ?_
            refine H_of_R (R_pickC (v := t58_6) true rfl rfl ?_)
            refine vl_n ?_
            refine H_of_R (R_assign (v := t58_6) rfl ?_)
            refine vl_e ?_
            refine WPc_ret ?_
            refine resH_of rfl ?_
            exact H
    refine WPc_seq' ?_
    refine W_region (by kernel_rfl) ?_
    refine vl_n ?_
    refine H_of_R (R_move (v := (e 0)) rfl ?_)
    refine vl_n ?_
    refine H_of_R (R_loadN TN_25 H fun _ t16 _ _ H _ _ => ?_)
    refine vl_n ?_
    refine H_call HB_13 H fun t17 h H => ?_
    refine vl_n ?_
    refine H_of_R (R_not H fun t18 H => ?_)
    refine vl_e ?_
    obtain ⟨b, hc, H1, H2⟩ := H
    refine WPc_cond hc (fun hh => ?_) (fun hh => ?_)
    · have H := H1 hh; clear H1 H2
      refine WPc_seq' ?_
      refine W_region (by kernel_rfl) ?_
      refine vl_n ?_
      refine H_call HB_14 H fun t19 h H => ?_
      refine vl_n ?_
      refine H_of_R (R_assign (v := t19) rfl ?_)
      refine vl_e ?_
      refine WPc_ret ?_
      refine resH_of rfl ?_
      exact H
    · have H := H2 hh; clear H1 H2
      refine WPc_skip ?_
      exact H
  refine WPc_seq' ?_
  refine W_region (by kernel_rfl) ?_
  refine vl_n ?_
  refine H_of_R (R_loadN TN_25 H fun _ t12 _ _ H _ _ => ?_)
  refine vl_n ?_
  refine H_call HB_12 H fun t13 h H => ?_
  refine vl_n ?_
  refine H_of_R (R_not H fun t14 H => ?_)
  refine vl_e ?_
  obtain ⟨b, hc, H1, H2⟩ := H
  refine WPc_cond hc (fun hh => ?_) (fun hh => ?_)
  · have H := H1 hh; clear H1 H2
    refine WPc_seq' ?_
    refine W_region (by kernel_rfl) ?_
    refine vl_n ?_
    refine H_of_R (R_assign (v := (.bool true)) rfl ?_)
    refine vl_e ?_
    refine WPc_ret ?_
    refine resH_of rfl ?_
    exact H
  · have H := H2 hh; clear H1 H2
    refine WPc_skip ?_
    exact H

end Go.Proofs.Ytlihjljdndbpdaa
end
section
namespace Go.Proofs.Ytlihjljdndbpdaa
open Go.Hp
set_option linter.unusedVariables false
set_option linter.unusedSimpArgs false
variable {h0 h : Heap} {Z E : List Rg} {Q : Value → Heap → Prop}
theorem l_FnDLoad_ok {k : Nat} (t : DT (k + 1)) {g : Heap} {vi vk : Value} {d c : Int} {p : It} (ha : ArgD g t vi vk) (hb : t.bulk ≤ 1048576) (hk : k ≤ 1048576) (H : ∀ E' h', St g [] E' h' → Q (.bool true) h') : l_FnDLoad.call #[.int .i64 d, .agg #[vi, vk, .int .i64 c], .agg (encA p).toArray] g Q := by
  have h1 : one1 vi = true := ha.1.one
  have h2 : one1 vk = true := by obtain ⟨_, cs, _, hrk, _⟩ := ha; exact hrk.one
  have live : ∀ {E' h'}, St g [] E' h' → l_aliveD.call #[] h' Q := fun s => l_aliveD_ok fun E' h' s' => H _ _ (s.join s')
  have hil := t.items_le
  refine l_FnDLoad.body _ _ _ _ _ ?_
  unfold l_FnDLoad.sh
  have s := St.start g
  refine St.r_box (cs := [vi, vk, .int .i64 c]) s fun t4 h s => ?_
  refine St.r_box (cs := encA p) s fun t5 h s => ?_
  refine St.r_loadN0 s 1 rfl (by simp) ?_
  refine fits3_ok (ha.fr s.fr) (by omega) fun E2 h s2 => ?_
  have s := (s.join s2).perm List.perm_append_comm
  refine r_not ?_
  refine r_if (fun e => absurd e (by decide)) (fun _ => ?_)
  unfold l_FnDLoad.j1
  refine St.r_loadN0 s 1 rfl (by simp) ?_
  refine l_validD_ok t (ha.fr s.fr) (by omega) (by omega) rfl fun b E3 h hbv s3 => ?_
  have s := (s.join s3).perm List.perm_append_comm
  refine r_not ?_
  refine r_if (fun e => live s) (fun e => ?_)
  obtain ⟨hd1, hd2, hv⟩ := hbv.1 (by simpa using e)
  obtain ⟨d, rfl⟩ : ∃ n : Nat, d = n := ⟨d.toNat, by omega⟩
  have hd1 : 2 ≤ d := by omega
  have hd2 : d ≤ 128 := by omega
  unfold l_FnDLoad.j2
  refine St.r_loadN0 s 1 rfl (by simp) ?_
  refine St.r_loadN0 s 0 rfl (by simp) ?_
  refine ⟨?_, ?_⟩
  · refine s_NodeItems_ok t (ha.fr s.fr) (by omega) rfl fun v E4 h s4 hvi => ?_
    have s := (s.join s4).perm List.perm_append_comm
    refine ⟨St.r_stillN0 s 0 (j := 0) (n := 2) rfl (by simp) rfl, ?_, ?_⟩
    · refine Ii.Put_ok (x := p) hvi (by omega) fun v2 rf E5 h erf s5 _ hreg => ?_
      subst erf
      have s := (s.join s5).perm List.perm_append_comm
      refine r_ext rfl ?_
      refine r_ext rfl ?_
      refine s.r_alloc fun t8 h s => ?_
      obtain ⟨b, o, sp, w, hm⟩ := hreg
      exact restL_ok (c := c) (R := ((([] ++ E2) ++ E3) ++ E4) ++ E5) hd1 hd2 ha hb hk hv h1 h2 ⟨b, o, sp, w, List.mem_append.2 (.inr hm)⟩ (s.perm (List.Perm.of_eq (by simp))) H
    · have s9 := s
      have s0 := St.start h
      refine s0.r_alloc fun t8 h s0 => ?_
      have hvi := hvi.st s0
      have s := s9.join s0
      refine ⟨St.r_stillN0 s 1 (j := 0) (n := 2) rfl (by simp) rfl, ?_⟩
      refine Ii.Put_ok (x := p) hvi (by omega) fun v2 rf E5 h erf s5 _ hreg => ?_
      subst erf
      have s := (s.join s5).perm List.perm_append_comm
      refine r_ext rfl ?_
      refine r_ext rfl ?_
      obtain ⟨b, o, sp, w, hm⟩ := hreg
      exact restL_ok (c := c) (R := ((([] ++ E2) ++ E3) ++ E4) ++ E5) hd1 hd2 ha hb hk hv h1 h2 ⟨b, o, sp, w, List.mem_append.2 (.inr hm)⟩ (s.perm (List.Perm.of_eq (by simp))) H
  · refine s.r_alloc fun t8 h s => ?_
    refine ⟨St.r_stillN0 s 2 (j := 0) (n := 3) rfl (by simp) rfl, St.r_stillN0 s 1 (j := 0) (n := 2) rfl (by simp) rfl, ?_⟩
    refine s_NodeItems_ok t (ha.fr s.fr) (by omega) rfl fun v E4 h s4 hvi => ?_
    have s := (s.join s4).perm List.perm_append_comm
    refine ⟨St.r_stillN0 s 1 (j := 0) (n := 2) rfl (by simp) rfl, ?_⟩
    refine Ii.Put_ok (x := p) hvi (by omega) fun v2 rf E5 h erf s5 _ hreg => ?_
    subst erf
    have s := (s.join s5).perm List.perm_append_comm
    refine r_ext rfl ?_
    refine r_ext rfl ?_
    obtain ⟨b, o, sp, w, hm⟩ := hreg
    exact restL_ok (c := c) (R := ((([] ++ E2) ++ E3) ++ E4) ++ E5) hd1 hd2 ha hb hk hv h1 h2 ⟨b, o, sp, w, List.mem_append.2 (.inr hm)⟩ (s.perm (List.Perm.of_eq (by simp))) H
end Go.Proofs.Ytlihjljdndbpdaa
end
section
namespace Go.Proofs.Ytlihjljdndbpdaa
open Go.Hp Go.ChangeShapes Go.WideShapes Go.ChangeAt Go.RowKit
set_option linter.unusedVariables false
set_option linter.unusedSimpArgs false

section
variable {H : Type}
theorem bulk_all : ∀ l : List (DataW H), Rows.uptoBulkAll l = (l.map Rows.uptoBulk).sum
  | [] => rfl
  | d :: r => by simp only [Rows.uptoBulkAll, List.map_cons, List.sum_cons, bulk_all r]
theorem bulk_agg (l : List (DataW H)) : Rows.uptoBulk (.agg l) = (l.map Rows.uptoBulk).sum + 1 := by simp only [Rows.uptoBulk, bulk_all]
theorem bulk_slice (e s : List (DataW H)) : Rows.uptoBulk (.slice e s) = (e.map Rows.uptoBulk).sum + (s.map Rows.uptoBulk).sum + 1 := by simp only [Rows.uptoBulk, bulk_all]
theorem bulk_one : ∀ d : DataW H, 1 ≤ Rows.uptoBulk d
  | .lit l => by cases l <;> simp only [Rows.uptoBulk] <;> omega
  | .nil => by simp only [Rows.uptoBulk]; omega
  | .ptr d => by simp only [Rows.uptoBulk]; omega
  | .slice e s => by simp only [Rows.uptoBulk]; omega
  | .agg l => by simp only [Rows.uptoBulk]; omega
  | .iface _ d => by simp only [Rows.uptoBulk]; omega
  | .map l => by simp only [Rows.uptoBulk]; omega
  | .held _ => by simp only [Rows.uptoBulk]; omega
theorem bulk_of {ds : List (DataW H)} (hk : Rows.uptoSmall H ds = true) {d : DataW H} (hd : d ∈ ds) : Rows.uptoBulk d ≤ 1048576 := by
  have h : Rows.uptoBulkAll ds ≤ 1048576 := of_decide_eq_true hk
  rw [bulk_all] at h
  exact Nat.le_trans (mem_le_sum (List.mem_map.2 ⟨d, hd, rfl⟩)) h
end

set_option maxRecDepth 100000 in
theorem nodeTy : ∃ f0 f1 f2 g0 g1, NodeTy Try.prog 25 22 23 27 3 f0 f1 f2 g0 g1 := ⟨_, _, _, _, _, Try.underlying25, ⟨rfl, rfl, rfl⟩, ⟨rfl, rfl, rfl⟩, by kernel_rfl, ⟨by kernel_rfl, by kernel_rfl, by kernel_rfl⟩, Try.underlying22, Try.underlying23, Try.underlying3, Try.underlying27, by kernel_rfl, ⟨rfl, rfl⟩, ⟨by kernel_rfl, by kernel_rfl⟩, ⟨Try.underlying3, Try.underlying3⟩⟩

set_option maxRecDepth 100000 in
/-- A node among the arguments. -/
theorem open_arg {H : Type} {en : TypeId × Value → H} {W : World} {base : Nat} {v : Value} {d : DataW H} {ps : List MemPlace} (hval : Value.okWide Try.prog W .any base 25 v) (hd : DataW.Trod en Try.prog W 0 (fun _ => true) true 25 v d ps) (hb : Rows.uptoBulk d ≤ 1048576) :
    ∃ (k : Nat) (t : DT (k + 1)) (vi vk : Value) (c : Int), k ≤ 1048576 ∧ v = .agg #[vi, vk, .int .i64 c] ∧ ArgD W.heap t vi vk ∧ t.bulk ≤ 1048576 := by
  obtain ⟨cs, hv, hsz⟩ := okWide_struct Try.underlying25 hval
  subst hv
  obtain ⟨fuel, hf⟩ := hd
  obtain ⟨_, _, _, _, _, hty⟩ := nodeTy
  obtain ⟨k, hk⟩ : ∃ k, Rows.uptoBulk d = k + 1 := ⟨Rows.uptoBulk d - 1, by have := bulk_one d; omega⟩
  obtain ⟨t, vi, vk, c, hc, ha, hbk⟩ := open_node hty bulk_one bulk_agg bulk_slice (k + 1) fuel _ _ hf (Nat.le_of_eq hk)
  refine ⟨k, t, vi, vk, c, by omega, ?_, ha, Nat.le_trans hbk hb⟩
  have : cs.toList = [vi, vk, .int .i64 c] := hc
  rw [← Array.toArray_toList (xs := cs), this]
end Go.Proofs.Ytlihjljdndbpdaa
end
