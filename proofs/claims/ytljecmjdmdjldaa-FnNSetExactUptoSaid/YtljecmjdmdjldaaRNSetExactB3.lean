/-
  Texts of this claim, laid together: S5 S6 S7 S8 S9 S12 S13 S18 S34.
  Conditions: as each of them tells.
-/
import Derived.Test.YtljecmjdmdjldaaRNSetExactB2
set_option linter.unusedVariables false
set_option linter.unusedSimpArgs false
open List (set_cons_zero set_cons_succ eraseIdx_cons_zero eraseIdx_cons_succ cons_append nil_append map_append map_cons map_flatMap map_nil flatMap_cons flatMap_append flatMap_nil append_nil append_assoc length_cons length_nil length_append take_succ_cons drop_succ_cons take_zero drop_zero take_nil drop_nil size_toArray length_map)
section
namespace Go.Proofs.Ytljecmjdmdjldaa
open Go.Hp
set_option maxRecDepth 100000
set_option maxHeartbeats 8000000
/-! ### (*pub/tidwallbtree.BTreeG[impl.Item]).setHint -/
def BTreeG_I_setHint.j3 (s0 s6 : Value) (h : Heap) (Q : Value → Heap → Prop) : Prop := nilck s0 fun t126 => fld 3 t126 fun t127 => load1 t127 h fun t128 => arith (· + ·) t128 (.int .i64 1) fun t129 => nilck s0 fun t130 => fld 3 t130 fun t131 => store1 t131 t129 h fun h => nilck s0 fun t133 => fld 7 t133 fun t134 => loadN 2 t134 h fun t135 => storeN 2 s6 t135 h fun h => loadN 2 s6 h fun r6 => Q (.tuple #[r6, (.bool false)]) h
def BTreeG_I_setHint.j2 (s0 s6 s7 : Value) (h : Heap) (Q : Value → Heap → Prop) : Prop := ifV s7 (loadN 2 s6 h fun t124 => storeN 2 s6 t124 h fun h => loadN 2 s6 h fun r6 => Q (.tuple #[r6, (.bool true)]) h) (BTreeG_I_setHint.j3 s0 s6 h Q)
def BTreeG_I_setHint.j1 (s0 s2 s4 s6 : Value) (h : Heap) (Q : Value → Heap → Prop) : Prop := nilck s0 fun t50 => fld 2 t50 fun t51 => loadN 2 s4 h fun t52 => BTreeG_I_nodeSet.call #[s0, t51, t52, s2, (.int .i64 0)] h fun t54 h => extr 0 t54 fun t55 => extr 1 t54 fun t56 => extr 2 t54 fun t57 => storeN 2 s6 t55 h fun h => ifV t57 (nilck s0 fun t61 => fld 2 t61 fun t62 => BTreeG_I_isoLoad.call #[s0, t62, (.bool true)] h fun t63 h => BTreeG_I_nodeSplit.call #[s0, t63] h fun t67 h => extr 0 t67 fun t68 => extr 1 t67 fun t69 => alloc [(.int .i64 0), (.int .i64 0)] 27 h fun t11 h => storeN 2 t11 t69 h fun h => BTreeG_I_newNode.call #[s0, (.bool false)] h fun t72 h => nilck s0 fun t73 => fld 2 t73 fun t74 => store1 t74 t72 h fun h => nilck s0 fun t76 => fld 2 t76 fun t77 => load1 t77 h fun t78 => nilck t78 fun t79 => fld 3 t79 fun t80 => load1 t80 h fun t81 => nilck s0 fun t83 => fld 9 t83 fun t84 => load1 t84 h fun t85 => arith (· + ·) t85 (.int .i64 1) fun t86 => mks 86 1 8 [(.pointer none)] (.int .i64 0) t86 h fun t87 h => still1 t77 t78 h ∧ still1 t80 t81 h ∧ nilck t81 fun t88 => store1 t88 t87 h fun h => nilck s0 fun t90 => fld 2 t90 fun t91 => load1 t91 h fun t92 => nilck t92 fun t93 => fld 3 t93 fun t94 => load1 t94 h fun t95 => (mkSl (if 0 * 1 = 0 then [] else zeros [(.pointer none)] 0) 0 [] 86 h fun t96 h => still1 t91 t92 h ∧ still1 t94 t95 h ∧ mkSl (if 2 * 1 = 0 then [] else zeros [(.pointer none)] 2) 2 [(0 * 1, 1, t63), (1 * 1, 1, t68)] 86 h fun t99 h => still1 t91 t92 h ∧ still1 t94 t95 h ∧ app 86 1 8 [(.pointer none)] t96 t99 h fun t100 h => still1 t91 t92 h ∧ still1 t94 t95 h ∧ nilck t95 fun t101 => store1 t101 t100 h fun h => nilck s0 fun t103 => fld 2 t103 fun t104 => load1 t104 h fun t105 => loadN 2 t11 h fun t107 => (mkSl (if 0 * 2 = 0 then [] else zeros [(.int .i64 0), (.int .i64 0)] 0) 0 [] 27 h fun t106 h => still1 t104 t105 h ∧ stillN 2 t11 t107 h ∧ mkSl (if 1 * 2 = 0 then [] else zeros [(.int .i64 0), (.int .i64 0)] 1) 1 [(0 * 2, 2, t107)] 27 h fun t108 h => still1 t104 t105 h ∧ app 27 2 16 [(.int .i64 0), (.int .i64 0)] t106 t108 h fun t109 h => still1 t104 t105 h ∧ nilck t105 fun t110 => fld 2 t110 fun t111 => store1 t111 t109 h fun h => nilck s0 fun t113 => fld 2 t113 fun t114 => load1 t114 h fun t115 => node_I_updateCount.call #[t115] h fun t116 h => loadN 2 s4 h fun t118 => BTreeG_I_setHint.call #[s0, t118, s2] h fun t120 h => extr 0 t120 fun t121 => extr 1 t120 fun t122 => storeN 2 s6 t121 h fun h => loadN 2 s6 h fun r6 => Q (.tuple #[r6, t122]) h) ∧ (mkSl (if 1 * 2 = 0 then [] else zeros [(.int .i64 0), (.int .i64 0)] 1) 1 [(0 * 2, 2, t107)] 27 h fun t108_2 h => still1 t104 t105 h ∧ mkSl (if 0 * 2 = 0 then [] else zeros [(.int .i64 0), (.int .i64 0)] 0) 0 [] 27 h fun t106_2 h => still1 t104 t105 h ∧ app 27 2 16 [(.int .i64 0), (.int .i64 0)] t106_2 t108_2 h fun t109_2 h => still1 t104 t105 h ∧ nilck t105 fun t110_2 => fld 2 t110_2 fun t111_2 => store1 t111_2 t109_2 h fun h => nilck s0 fun t113_2 => fld 2 t113_2 fun t114_2 => load1 t114_2 h fun t115_2 => node_I_updateCount.call #[t115_2] h fun t116_2 h => loadN 2 s4 h fun t118_2 => BTreeG_I_setHint.call #[s0, t118_2, s2] h fun t120_2 h => extr 0 t120_2 fun t121_2 => extr 1 t120_2 fun t122_2 => storeN 2 s6 t121_2 h fun h => loadN 2 s6 h fun r6_2 => Q (.tuple #[r6_2, t122_2]) h)) ∧ (mkSl (if 2 * 1 = 0 then [] else zeros [(.pointer none)] 2) 2 [(0 * 1, 1, t63), (1 * 1, 1, t68)] 86 h fun t99_2 h => still1 t91 t92 h ∧ still1 t94 t95 h ∧ mkSl (if 0 * 1 = 0 then [] else zeros [(.pointer none)] 0) 0 [] 86 h fun t96_2 h => still1 t91 t92 h ∧ still1 t94 t95 h ∧ app 86 1 8 [(.pointer none)] t96_2 t99_2 h fun t100_2 h => still1 t91 t92 h ∧ still1 t94 t95 h ∧ nilck t95 fun t101_2 => store1 t101_2 t100_2 h fun h => nilck s0 fun t103_2 => fld 2 t103_2 fun t104_2 => load1 t104_2 h fun t105_2 => loadN 2 t11 h fun t107_2 => (mkSl (if 0 * 2 = 0 then [] else zeros [(.int .i64 0), (.int .i64 0)] 0) 0 [] 27 h fun t106_3 h => still1 t104_2 t105_2 h ∧ stillN 2 t11 t107_2 h ∧ mkSl (if 1 * 2 = 0 then [] else zeros [(.int .i64 0), (.int .i64 0)] 1) 1 [(0 * 2, 2, t107_2)] 27 h fun t108_3 h => still1 t104_2 t105_2 h ∧ app 27 2 16 [(.int .i64 0), (.int .i64 0)] t106_3 t108_3 h fun t109_3 h => still1 t104_2 t105_2 h ∧ nilck t105_2 fun t110_3 => fld 2 t110_3 fun t111_3 => store1 t111_3 t109_3 h fun h => nilck s0 fun t113_3 => fld 2 t113_3 fun t114_3 => load1 t114_3 h fun t115_3 => node_I_updateCount.call #[t115_3] h fun t116_3 h => loadN 2 s4 h fun t118_3 => BTreeG_I_setHint.call #[s0, t118_3, s2] h fun t120_3 h => extr 0 t120_3 fun t121_3 => extr 1 t120_3 fun t122_3 => storeN 2 s6 t121_3 h fun h => loadN 2 s6 h fun r6_3 => Q (.tuple #[r6_3, t122_3]) h) ∧ (mkSl (if 1 * 2 = 0 then [] else zeros [(.int .i64 0), (.int .i64 0)] 1) 1 [(0 * 2, 2, t107_2)] 27 h fun t108_4 h => still1 t104_2 t105_2 h ∧ mkSl (if 0 * 2 = 0 then [] else zeros [(.int .i64 0), (.int .i64 0)] 0) 0 [] 27 h fun t106_4 h => still1 t104_2 t105_2 h ∧ app 27 2 16 [(.int .i64 0), (.int .i64 0)] t106_4 t108_4 h fun t109_4 h => still1 t104_2 t105_2 h ∧ nilck t105_2 fun t110_4 => fld 2 t110_4 fun t111_4 => store1 t111_4 t109_4 h fun h => nilck s0 fun t113_4 => fld 2 t113_4 fun t114_4 => load1 t114_4 h fun t115_4 => node_I_updateCount.call #[t115_4] h fun t116_4 h => loadN 2 s4 h fun t118_4 => BTreeG_I_setHint.call #[s0, t118_4, s2] h fun t120_4 h => extr 0 t120_4 fun t121_4 => extr 1 t120_4 fun t122_4 => storeN 2 s6 t121_4 h fun h => loadN 2 s6 h fun r6_4 => Q (.tuple #[r6_4, t122_4]) h))) (BTreeG_I_setHint.j2 s0 s6 t56 h Q)
def BTreeG_I_setHint.sh (a0 a1 a2 : Value) (h : Heap) (Q : Value → Heap → Prop) : Prop := box 27 a1 h fun t4 h => alloc [(.int .i64 0), (.int .i64 0)] 27 h fun t6 h => nilck a0 fun t13 => fld 2 t13 fun t14 => load1 t14 h fun t15 => eqNilP t15 fun t16 => ifV t16 (BTreeG_I_init.call #[a0, (.int .i64 0)] h fun t18 h => BTreeG_I_newNode.call #[a0, (.bool true)] h fun t21 h => nilck a0 fun t22 => fld 2 t22 fun t23 => store1 t23 t21 h fun h => nilck a0 fun t25 => fld 2 t25 fun t26 => load1 t26 h fun t27 => loadN 2 t4 h fun t29 => (mkSl (if 0 * 2 = 0 then [] else zeros [(.int .i64 0), (.int .i64 0)] 0) 0 [] 27 h fun t28 h => still1 t26 t27 h ∧ stillN 2 t4 t29 h ∧ mkSl (if 1 * 2 = 0 then [] else zeros [(.int .i64 0), (.int .i64 0)] 1) 1 [(0 * 2, 2, t29)] 27 h fun t30 h => still1 t26 t27 h ∧ app 27 2 16 [(.int .i64 0), (.int .i64 0)] t28 t30 h fun t31 h => still1 t26 t27 h ∧ nilck t27 fun t32 => fld 2 t32 fun t33 => store1 t33 t31 h fun h => nilck a0 fun t35 => fld 2 t35 fun t36 => load1 t36 h fun t37 => nilck t37 fun t38 => fld 1 t38 fun t39 => store1 t39 (.int .i64 1) h fun h => nilck a0 fun t41 => fld 3 t41 fun t42 => store1 t42 (.int .i64 1) h fun h => nilck a0 fun t44 => fld 7 t44 fun t45 => loadN 2 t45 h fun t46 => storeN 2 t6 t46 h fun h => loadN 2 t6 h fun r6 => Q (.tuple #[r6, (.bool false)]) h) ∧ (mkSl (if 1 * 2 = 0 then [] else zeros [(.int .i64 0), (.int .i64 0)] 1) 1 [(0 * 2, 2, t29)] 27 h fun t30_2 h => still1 t26 t27 h ∧ mkSl (if 0 * 2 = 0 then [] else zeros [(.int .i64 0), (.int .i64 0)] 0) 0 [] 27 h fun t28_2 h => still1 t26 t27 h ∧ app 27 2 16 [(.int .i64 0), (.int .i64 0)] t28_2 t30_2 h fun t31_2 h => still1 t26 t27 h ∧ nilck t27 fun t32_2 => fld 2 t32_2 fun t33_2 => store1 t33_2 t31_2 h fun h => nilck a0 fun t35_2 => fld 2 t35_2 fun t36_2 => load1 t36_2 h fun t37_2 => nilck t37_2 fun t38_2 => fld 1 t38_2 fun t39_2 => store1 t39_2 (.int .i64 1) h fun h => nilck a0 fun t41_2 => fld 3 t41_2 fun t42_2 => store1 t42_2 (.int .i64 1) h fun h => nilck a0 fun t44_2 => fld 7 t44_2 fun t45_2 => loadN 2 t45_2 h fun t46_2 => storeN 2 t6 t46_2 h fun h => loadN 2 t6 h fun r6_2 => Q (.tuple #[r6_2, (.bool false)]) h)) (BTreeG_I_setHint.j1 a0 a2 t4 t6 h Q)
theorem BTreeG_I_setHint.body (a0 a1 a2 : Value) (h : Heap) (Q : Value → Heap → Prop) (H : BTreeG_I_setHint.sh a0 a1 a2 h Q) : BTreeG_I_setHint.call #[a0, a1, a2] h Q := by
  refine callsH_of (args := [a0, a1, a2]) Try.func96 rfl rfl ?_; unfold BTreeG_I_setHint.sh at H; refine WPc_seq' ?_; refine W_region (by kernel_rfl) ?_; refine vl_n ?_; refine H_box H fun t4 h H => ?_; refine vl_n ?_; refine H_alloc TV_27 H fun t6 h H => ?_; refine vl_n ?_; refine H_of_R (R_assign (v := (.bool false)) rfl ?_)
  refine vl_e ?_; refine WPc_seq (fun e h => BTreeG_I_setHint.j1 (e 0) (e 2) (e 4) (e 6) h Q) ?_ (fun e h H => ?_)
  rotate_left
  · unfold BTreeG_I_setHint.j1 at H
    refine WPc_seq' ?_; refine W_drawn [0, 0, 2, 6, 0, 0, 63, 127, 255, 255, 255, 511, 3071, 8191] (.take 0 (.take 1 (.take 2 (.take 3 (.take 4 (.take 5 (.alt 6 (.take 7 (.take 8 (.take 9 (.take 10 (.alt 11 (.take 12 (.take 13 .done)) .none))))) .none))))))) mixed (by kernel_rfl) ?_; refine tkP rfl ?_; refine R_move (v := (e 0)) rfl ⟨fun _ => trivial, ?_⟩
    refine tkP rfl ?_; refine R_move (v := (e 0)) rfl ⟨fun _ => trivial, ?_⟩
    refine tkP rfl ?_; refine R_nil H fun t50 H => ⟨fun _ => trivial, ?_⟩
    refine tkP rfl ?_; refine R_fld TF_135_2 H fun t51 H => ⟨fun _ => trivial, ?_⟩
    refine tkL rfl ?_; refine R_loadN TN_27 H fun at52 xt52 hat52 _ H St52 hSt52 => ?_; refine tkP rfl ?_; refine R_move (v := (e 2)) rfl ⟨fun _ => trivial, ?_⟩
    refine alt_n rfl ?_ vp_none
    refine H_call HB_131 H fun t54 h H => ⟨(hskip rfl hnil), ?_⟩
    refine tkP rfl ?_; refine R_move (v := t54) rfl ⟨fun _ => trivial, ?_⟩
    refine tkP rfl ?_; refine R_ext H fun t55 H => ⟨fun _ => trivial, ?_⟩
    refine tkP rfl ?_; refine R_ext H fun t56 H => ⟨fun _ => trivial, ?_⟩
    refine tkP rfl ?_; refine R_ext H fun t57 H => ⟨fun _ => trivial, ?_⟩
    refine alt_n rfl ?_ vp_none
    refine H_storeN TS_27 H fun h H => ⟨hnil, ?_⟩
    refine tkP rfl ?_; refine R_assign (v := t56) rfl ⟨fun _ => trivial, ?_⟩
    refine tkP rfl ?_; refine R_assign (v := t57) rfl ⟨fun _ => trivial, ?_⟩
    refine vp_done ?_; refine WPc_seq (fun e h => BTreeG_I_setHint.j2 (e 0) (e 6) (e 7) h Q) ?_ (fun e h H => ?_)
    rotate_left
    · unfold BTreeG_I_setHint.j2 at H
      refine WPc_seq (fun e h => BTreeG_I_setHint.j3 (e 0) (e 6) h Q) ?_ (fun e h H => ?_)
      rotate_left
      · unfold BTreeG_I_setHint.j3 at H
        refine WPc_seq' ?_; refine W_region (by kernel_rfl) ?_; refine vl_n ?_; refine H_of_R (R_move (v := (e 0)) rfl ?_)
        refine vl_n ?_; refine H_of_R (R_nil H fun t126 H => ?_)
        refine vl_n ?_; refine H_of_R (R_fld TF_135_3 H fun t127 H => ?_)
        refine vl_n ?_; refine H_of_R (R_load1 T1_3 H fun _ t128 _ _ H => ?_)
        refine vl_n ?_; refine H_of_R (R_add H fun t129 H => ?_)
        refine vl_n ?_; refine H_of_R (R_nil H fun t130 H => ?_)
        refine vl_n ?_; refine H_of_R (R_fld TF_135_3 H fun t131 H => ?_)
        refine vl_n ?_; refine H_store1 TS_3 H fun h H => ?_; refine vl_e ?_; refine WPc_seq' ?_; refine W_region (by kernel_rfl) ?_; refine vl_n ?_; refine H_of_R (R_move (v := (e 0)) rfl ?_)
        refine vl_n ?_; refine H_of_R (R_nil H fun t133 H => ?_)
        refine vl_n ?_; refine H_of_R (R_fld TF_135_7 H fun t134 H => ?_)
        refine vl_n ?_; refine H_of_R (R_loadN TN_27 H fun _ t135 _ _ H _ _ => ?_)
        refine vl_n ?_; refine H_storeN TS_27 H fun h H => ?_; refine vl_n ?_; refine H_of_R (R_assign (v := (.bool false)) rfl ?_)
        refine vl_e ?_; refine WPc_ret ?_; refine resH_of rfl ?_; refine resL_N TN_27 ?_; refine loadN_imp H fun r6 H => ?_; refine resL_t ?_; exact H
      refine WPc_seq' ?_; refine W_region (by kernel_rfl) ?_; refine vl_n ?_; refine H_of_R (R_move (v := (e 7)) rfl ?_)
      refine vl_e ?_; obtain ⟨b, hc, H1, H2⟩ := H; refine WPc_cond hc (fun hh => ?_) (fun hh => ?_)
      · have H := H1 hh; clear H1 H2
        refine WPc_seq' ?_; refine W_region (by kernel_rfl) ?_; refine vl_n ?_; refine H_of_R (R_loadN TN_27 H fun _ t124 _ _ H _ _ => ?_)
        refine vl_n ?_; refine H_storeN TS_27 H fun h H => ?_; refine vl_n ?_; refine H_of_R (R_assign (v := (.bool true)) rfl ?_)
        refine vl_e ?_; refine WPc_ret ?_; refine resH_of rfl ?_; refine resL_N TN_27 ?_; refine loadN_imp H fun r6 H => ?_; refine resL_t ?_; exact H
      · have H := H2 hh; clear H1 H2
        refine WPc_skip ?_; exact H
    refine WPc_seq' ?_; refine W_region (by kernel_rfl) ?_; refine vl_n ?_; refine H_of_R (R_move (v := t57) rfl ?_)
    refine vl_e ?_; obtain ⟨b, hc, H1, H2⟩ := H; refine WPc_cond hc (fun hh => ?_) (fun hh => ?_)
    · have H := H1 hh; clear H1 H2
      refine WPc_seq' ?_; refine W_region (by kernel_rfl) ?_; refine vl_n ?_; refine H_of_R (R_move (v := (e 0)) rfl ?_)
      refine vl_n ?_; refine H_of_R (R_move (v := (e 0)) rfl ?_)
      refine vl_n ?_; refine H_of_R (R_nil H fun t61 H => ?_)
      refine vl_n ?_; refine H_of_R (R_fld TF_135_2 H fun t62 H => ?_)
      refine vl_n ?_; refine H_call HB_97 H fun t63 h H => ?_; refine vl_n ?_; refine H_of_R (R_assign (v := t63) rfl ?_)
      refine vl_e ?_; refine WPc_seq' ?_; refine W_region (by kernel_rfl) ?_; refine vl_n ?_; refine H_of_R (R_move (v := (e 0)) rfl ?_)
      refine vl_n ?_; refine H_of_R (R_move (v := t63) rfl ?_)
      refine vl_n ?_; refine H_call HB_132 H fun t67 h H => ?_; refine vl_n ?_; refine H_of_R (R_move (v := t67) rfl ?_)
      refine vl_n ?_; refine H_of_R (R_ext H fun t68 H => ?_)
      refine vl_n ?_; refine H_of_R (R_ext H fun t69 H => ?_)
      refine vl_n ?_; refine H_alloc TV_27 H fun t11 h H => ?_; refine vl_n ?_; refine H_of_R (R_assign (v := t68) rfl ?_)
      refine vl_n ?_; refine H_storeN TS_27 H fun h H => ?_; refine vl_e ?_; refine WPc_seq' ?_; refine W_region (by kernel_rfl) ?_; refine vl_n ?_; refine H_of_R (R_move (v := (e 0)) rfl ?_)
      refine vl_n ?_; refine H_of_R (R_move (v := (e 0)) rfl ?_)
      refine vl_n ?_; refine H_call HB_127 H fun t72 h H => ?_; refine vl_n ?_; refine H_of_R (R_nil H fun t73 H => ?_)
      refine vl_n ?_; refine H_of_R (R_fld TF_135_2 H fun t74 H => ?_)
      refine vl_n ?_; refine H_store1 TS_86 H fun h H => ?_; refine vl_e ?_; refine WPc_seq' ?_; refine W_drawn [0, 1, 3, 7, 15, 31, 63, 0, 128, 384, 896, 1920, 3968, 8191, 16383] (.take 0 (.take 1 (.take 2 (.take 3 (.take 4 (.take 5 (.take 6 (.take 7 (.take 8 (.take 9 (.take 10 (.take 11 (.alt 12 (.take 13 (.alt 14 .done .none)) .none))))))))))))) mixed (by kernel_rfl) ?_; refine tkP rfl ?_; refine R_move (v := (e 0)) rfl ⟨fun _ => trivial, ?_⟩
      refine tkP rfl ?_; refine R_nil H fun t76 H => ⟨fun _ => trivial, ?_⟩
      refine tkP rfl ?_; refine R_fld TF_135_2 H fun t77 H => ⟨fun _ => trivial, ?_⟩
      refine tkL rfl ?_; refine R_load1 T1_86 H fun at78 t78 hat78 _ H => ?_; refine tkP rfl ?_; refine R_nil H fun t79 H => ⟨fun _ => trivial, ?_⟩
      refine tkP rfl ?_; refine R_fld TF_141_3 H fun t80 H => ⟨fun _ => trivial, ?_⟩
      refine tkL rfl ?_; refine R_load1 T1_139 H fun at81 t81 hat81 _ H => ?_; refine tkP rfl ?_; refine R_move (v := (e 0)) rfl ⟨fun _ => trivial, ?_⟩
      refine tkP rfl ?_; refine R_nil H fun t83 H => ⟨fun _ => trivial, ?_⟩
      refine tkP rfl ?_; refine R_fld TF_135_8 H fun t84 H => ⟨fun _ => trivial, ?_⟩
      refine tkL rfl ?_; refine R_load1 T1_3 H fun at85 t85 hat85 _ H => ?_; refine tkP rfl ?_; refine R_add H fun t86 H => ⟨fun _ => trivial, ?_⟩
      refine alt_n rfl ?_ vp_none
      refine H_mks TZ_138 rfl H fun t87 h ⟨S, S_2, H⟩ => ⟨(hskip rfl (hcons rfl (still_1 S_2 hat81) (hcons rfl (still_1 S hat78) hnil))), ?_⟩
      refine tkP rfl ?_; refine R_nil H fun t88 H => ⟨fun _ => trivial, ?_⟩
      refine alt_n rfl ?_ vp_none
      refine H_store1 TS_138 H fun h H => ⟨(hskip rfl (hskip rfl hnil)), ?_⟩
      refine vp_done ?_; refine WPc_seq' ?_; refine W_drawn [0, 1, 3, 7, 15, 31, 63, 0, 0, 0, 768, 1920, 4095, 8191] (.take 0 (.take 1 (.take 2 (.take 3 (.take 4 (.take 5 (.take 6 (.take 8 (.take 9 (.alt 7 (.alt 10 (.alt 11 (.take 12 (.alt 13 .done .none)) .none) .none) (.alt 10 (.alt 7 (.alt 11 (.take 12 (.alt 13 .done .none)) .none) .none) .none))))))))))) mixed (by kernel_rfl) ?_; refine tkP rfl ?_; refine R_move (v := (e 0)) rfl ⟨fun _ => trivial, ?_⟩
      refine tkP rfl ?_; refine R_nil H fun t90 H => ⟨fun _ => trivial, ?_⟩
      refine tkP rfl ?_; refine R_fld TF_135_2 H fun t91 H => ⟨fun _ => trivial, ?_⟩
      refine tkL rfl ?_; refine R_load1 T1_86 H fun at92 t92 hat92 _ H => ?_; refine tkP rfl ?_; refine R_nil H fun t93 H => ⟨fun _ => trivial, ?_⟩
      refine tkP rfl ?_; refine R_fld TF_141_3 H fun t94 H => ⟨fun _ => trivial, ?_⟩
      refine tkL rfl ?_; refine R_load1 T1_139 H fun at95 t95 hat95 _ H => ?_; refine tkP rfl ?_; refine R_move (v := t63) rfl ⟨fun _ => trivial, ?_⟩
      refine tkP rfl ?_; refine R_move (v := t68) rfl ⟨fun _ => trivial, ?_⟩
      obtain ⟨HA0, HA1⟩ := H; refine alt_n rfl ?_ ?_
      · have H := HA0; clear HA0 HA1
        refine H_mkSl TZ_138 (by decide) rfl H rfl fun t96 h ⟨S_3, S_4, H⟩ => ⟨(hcons rfl (still_1 S_4 hat95) (hcons rfl (still_1 S_3 hat92) hnil)), ?_⟩
        refine alt_n rfl ?_ vp_none
        refine H_mkSl TZ_138 (by decide) rfl H rfl fun t99 h ⟨S_5, S_6, H⟩ => ⟨(hcons rfl (still_1 S_6 hat95) (hcons rfl (still_1 S_5 hat92) hnil)), ?_⟩
        refine alt_n rfl ?_ vp_none
        refine H_app TZ_138 TU_138 H fun t100 h ⟨S_7, S_8, H⟩ => ⟨(hcons rfl (still_1 S_8 hat95) (hcons rfl (still_1 S_7 hat92) hnil)), ?_⟩
        refine tkP rfl ?_; refine R_nil H fun t101 H => ⟨fun _ => trivial, ?_⟩
        refine alt_n rfl ?_ vp_none
        refine H_store1 TS_138 H fun h H => ⟨(hskip rfl (hskip rfl hnil)), ?_⟩
        refine vp_done ?_; refine WPc_seq' ?_; refine W_drawn [0, 1, 3, 7, 0, 0, 32, 112, 255, 511, 1023] (.take 0 (.take 1 (.take 2 (.take 3 (.take 5 (.alt 4 (.alt 6 (.alt 7 (.take 8 (.take 9 (.alt 10 .done .none))) .none) .none) (.alt 6 (.alt 4 (.alt 7 (.take 8 (.take 9 (.alt 10 .done .none))) .none) .none) .none))))))) mixed (by kernel_rfl) ?_; refine tkP rfl ?_; refine R_move (v := (e 0)) rfl ⟨fun _ => trivial, ?_⟩
        refine tkP rfl ?_; refine R_nil H fun t103 H => ⟨fun _ => trivial, ?_⟩
        refine tkP rfl ?_; refine R_fld TF_135_2 H fun t104 H => ⟨fun _ => trivial, ?_⟩
        refine tkL rfl ?_; refine R_load1 T1_86 H fun at105 t105 hat105 _ H => ?_; refine tkL rfl ?_; refine R_loadN TN_27 H fun at107 xt107 hat107 _ H St107 hSt107 => ?_; obtain ⟨HA0, HA1⟩ := H; refine alt_n rfl ?_ ?_
        · have H := HA0; clear HA0 HA1
          refine H_mkSl TZ_25 (by decide) rfl H rfl fun t106 h ⟨S_9, S_10, H⟩ => ⟨(hcons rfl (hSt107 _ (still_N S_10 hat107 rfl)) (hcons rfl (still_1 S_9 hat105) hnil)), ?_⟩
          refine alt_n rfl ?_ vp_none
          refine H_mkSl TZ_25 (by decide) rfl H rfl fun t108 h ⟨S_11, H⟩ => ⟨(hskip rfl (hcons rfl (still_1 S_11 hat105) hnil)), ?_⟩
          refine alt_n rfl ?_ vp_none
          refine H_app TZ_25 TU_25 H fun t109 h ⟨S_12, H⟩ => ⟨(hcons rfl (still_1 S_12 hat105) hnil), ?_⟩
          refine tkP rfl ?_; refine R_nil H fun t110 H => ⟨fun _ => trivial, ?_⟩
          refine tkP rfl ?_; refine R_fld TF_141_2 H fun t111 H => ⟨fun _ => trivial, ?_⟩
          refine alt_n rfl ?_ vp_none
          refine H_store1 TS_25 H fun h H => ⟨(hskip rfl hnil), ?_⟩
          refine vp_done ?_; refine WPc_seq' ?_; refine W_region (by kernel_rfl) ?_; refine vl_n ?_; refine H_of_R (R_move (v := (e 0)) rfl ?_)
          refine vl_n ?_; refine H_of_R (R_nil H fun t113 H => ?_)
          refine vl_n ?_; refine H_of_R (R_fld TF_135_2 H fun t114 H => ?_)
          refine vl_n ?_; refine H_of_R (R_load1 T1_86 H fun _ t115 _ _ H => ?_)
          refine vl_n ?_; refine H_call HB_128 H fun t116 h H => ?_; refine vl_e ?_; refine WPc_seq' ?_; refine W_region (by kernel_rfl) ?_; refine vl_n ?_; refine H_of_R (R_move (v := (e 0)) rfl ?_)
          refine vl_n ?_; refine H_of_R (R_loadN TN_27 H fun _ t118 _ _ H _ _ => ?_)
          refine vl_n ?_; refine H_of_R (R_move (v := (e 2)) rfl ?_)
          refine vl_n ?_; refine H_call HB_96 H fun t120 h H => ?_; refine vl_n ?_; refine H_of_R (R_ext H fun t121 H => ?_)
          refine vl_n ?_; refine H_of_R (R_ext H fun t122 H => ?_)
          refine vl_n ?_; refine H_storeN TS_27 H fun h H => ?_; refine vl_n ?_; refine H_of_R (R_assign (v := t122) rfl ?_)
          refine vl_e ?_; refine WPc_ret ?_; refine resH_of rfl ?_; refine resL_N TN_27 ?_; refine loadN_imp H fun r6 H => ?_; refine resL_t ?_; exact H
        refine alt_n rfl ?_ vp_none
        have H := HA1; clear HA0 HA1
        refine H_mkSl TZ_25 (by decide) rfl H rfl fun t108_2 h ⟨S_13, H⟩ => ⟨(hskip rfl (hcons rfl (still_1 S_13 hat105) hnil)), ?_⟩
        refine alt_n rfl ?_ vp_none
        refine H_mkSl TZ_25 (by decide) rfl H rfl fun t106_2 h ⟨S_14, H⟩ => ⟨(hcons rfl (still_1 S_14 hat105) hnil), ?_⟩
        refine alt_n rfl ?_ vp_none
        refine H_app TZ_25 TU_25 H fun t109_2 h ⟨S_15, H⟩ => ⟨(hcons rfl (still_1 S_15 hat105) hnil), ?_⟩
        refine tkP rfl ?_; refine R_nil H fun t110_2 H => ⟨fun _ => trivial, ?_⟩
        refine tkP rfl ?_; refine R_fld TF_141_2 H fun t111_2 H => ⟨fun _ => trivial, ?_⟩
        refine alt_n rfl ?_ vp_none
        refine H_store1 TS_25 H fun h H => ⟨(hskip rfl hnil), ?_⟩
        refine vp_done ?_; refine WPc_seq' ?_; refine W_region (by kernel_rfl) ?_; refine vl_n ?_; refine H_of_R (R_move (v := (e 0)) rfl ?_)
        refine vl_n ?_; refine H_of_R (R_nil H fun t113_2 H => ?_)
        refine vl_n ?_; refine H_of_R (R_fld TF_135_2 H fun t114_2 H => ?_)
        refine vl_n ?_; refine H_of_R (R_load1 T1_86 H fun _ t115_2 _ _ H => ?_)
        refine vl_n ?_; refine H_call HB_128 H fun t116_2 h H => ?_; refine vl_e ?_; refine WPc_seq' ?_; refine W_region (by kernel_rfl) ?_; refine vl_n ?_; refine H_of_R (R_move (v := (e 0)) rfl ?_)
        refine vl_n ?_; refine H_of_R (R_loadN TN_27 H fun _ t118_2 _ _ H _ _ => ?_)
        refine vl_n ?_; refine H_of_R (R_move (v := (e 2)) rfl ?_)
        refine vl_n ?_; refine H_call HB_96 H fun t120_2 h H => ?_; refine vl_n ?_; refine H_of_R (R_ext H fun t121_2 H => ?_)
        refine vl_n ?_; refine H_of_R (R_ext H fun t122_2 H => ?_)
        refine vl_n ?_; refine H_storeN TS_27 H fun h H => ?_; refine vl_n ?_; refine H_of_R (R_assign (v := t122_2) rfl ?_)
        refine vl_e ?_; refine WPc_ret ?_; refine resH_of rfl ?_; refine resL_N TN_27 ?_; refine loadN_imp H fun r6_2 H => ?_; refine resL_t ?_; exact H
      refine alt_n rfl ?_ vp_none
      have H := HA1; clear HA0 HA1
      refine H_mkSl TZ_138 (by decide) rfl H rfl fun t99_2 h ⟨S_16, S_17, H⟩ => ⟨(hcons rfl (still_1 S_17 hat95) (hcons rfl (still_1 S_16 hat92) hnil)), ?_⟩
      refine alt_n rfl ?_ vp_none
      refine H_mkSl TZ_138 (by decide) rfl H rfl fun t96_2 h ⟨S_18, S_19, H⟩ => ⟨(hcons rfl (still_1 S_19 hat95) (hcons rfl (still_1 S_18 hat92) hnil)), ?_⟩
      refine alt_n rfl ?_ vp_none
      refine H_app TZ_138 TU_138 H fun t100_2 h ⟨S_20, S_21, H⟩ => ⟨(hcons rfl (still_1 S_21 hat95) (hcons rfl (still_1 S_20 hat92) hnil)), ?_⟩
      refine tkP rfl ?_; refine R_nil H fun t101_2 H => ⟨fun _ => trivial, ?_⟩
      refine alt_n rfl ?_ vp_none
      refine H_store1 TS_138 H fun h H => ⟨(hskip rfl (hskip rfl hnil)), ?_⟩
      refine vp_done ?_; refine WPc_seq' ?_; refine W_drawn [0, 1, 3, 7, 0, 0, 32, 112, 255, 511, 1023] (.take 0 (.take 1 (.take 2 (.take 3 (.take 5 (.alt 4 (.alt 6 (.alt 7 (.take 8 (.take 9 (.alt 10 .done .none))) .none) .none) (.alt 6 (.alt 4 (.alt 7 (.take 8 (.take 9 (.alt 10 .done .none))) .none) .none) .none))))))) mixed (by kernel_rfl) ?_; refine tkP rfl ?_; refine R_move (v := (e 0)) rfl ⟨fun _ => trivial, ?_⟩
      refine tkP rfl ?_; refine R_nil H fun t103_2 H => ⟨fun _ => trivial, ?_⟩
      refine tkP rfl ?_; refine R_fld TF_135_2 H fun t104_2 H => ⟨fun _ => trivial, ?_⟩
      refine tkL rfl ?_; refine R_load1 T1_86 H fun at105_2 t105_2 hat105_2 _ H => ?_; refine tkL rfl ?_; refine R_loadN TN_27 H fun at107_2 xt107_2 hat107_2 _ H St107_2 hSt107_2 => ?_; obtain ⟨HA0, HA1⟩ := H; refine alt_n rfl ?_ ?_
      · have H := HA0; clear HA0 HA1
        refine H_mkSl TZ_25 (by decide) rfl H rfl fun t106_3 h ⟨S_22, S_23, H⟩ => ⟨(hcons rfl (hSt107_2 _ (still_N S_23 hat107_2 rfl)) (hcons rfl (still_1 S_22 hat105_2) hnil)), ?_⟩
        refine alt_n rfl ?_ vp_none
        refine H_mkSl TZ_25 (by decide) rfl H rfl fun t108_3 h ⟨S_24, H⟩ => ⟨(hskip rfl (hcons rfl (still_1 S_24 hat105_2) hnil)), ?_⟩
        refine alt_n rfl ?_ vp_none
        refine H_app TZ_25 TU_25 H fun t109_3 h ⟨S_25, H⟩ => ⟨(hcons rfl (still_1 S_25 hat105_2) hnil), ?_⟩
        refine tkP rfl ?_; refine R_nil H fun t110_3 H => ⟨fun _ => trivial, ?_⟩
        refine tkP rfl ?_; refine R_fld TF_141_2 H fun t111_3 H => ⟨fun _ => trivial, ?_⟩
        refine alt_n rfl ?_ vp_none
        refine H_store1 TS_25 H fun h H => ⟨(hskip rfl hnil), ?_⟩
        refine vp_done ?_; refine WPc_seq' ?_; refine W_region (by kernel_rfl) ?_; refine vl_n ?_; refine H_of_R (R_move (v := (e 0)) rfl ?_)
        refine vl_n ?_; refine H_of_R (R_nil H fun t113_3 H => ?_)
        refine vl_n ?_; refine H_of_R (R_fld TF_135_2 H fun t114_3 H => ?_)
        refine vl_n ?_; refine H_of_R (R_load1 T1_86 H fun _ t115_3 _ _ H => ?_)
        refine vl_n ?_; refine H_call HB_128 H fun t116_3 h H => ?_; refine vl_e ?_; refine WPc_seq' ?_; refine W_region (by kernel_rfl) ?_; refine vl_n ?_; refine H_of_R (R_move (v := (e 0)) rfl ?_)
        refine vl_n ?_; refine H_of_R (R_loadN TN_27 H fun _ t118_3 _ _ H _ _ => ?_)
        refine vl_n ?_; refine H_of_R (R_move (v := (e 2)) rfl ?_)
        refine vl_n ?_; refine H_call HB_96 H fun t120_3 h H => ?_; refine vl_n ?_; refine H_of_R (R_ext H fun t121_3 H => ?_)
        refine vl_n ?_; refine H_of_R (R_ext H fun t122_3 H => ?_)
        refine vl_n ?_; refine H_storeN TS_27 H fun h H => ?_; refine vl_n ?_; refine H_of_R (R_assign (v := t122_3) rfl ?_)
        refine vl_e ?_; refine WPc_ret ?_; refine resH_of rfl ?_; refine resL_N TN_27 ?_; refine loadN_imp H fun r6_3 H => ?_; refine resL_t ?_; exact H
      refine alt_n rfl ?_ vp_none
      have H := HA1; clear HA0 HA1
      refine H_mkSl TZ_25 (by decide) rfl H rfl fun t108_4 h ⟨S_26, H⟩ => ⟨(hskip rfl (hcons rfl (still_1 S_26 hat105_2) hnil)), ?_⟩
      refine alt_n rfl ?_ vp_none
      refine H_mkSl TZ_25 (by decide) rfl H rfl fun t106_4 h ⟨S_27, H⟩ => ⟨(hcons rfl (still_1 S_27 hat105_2) hnil), ?_⟩
      refine alt_n rfl ?_ vp_none
      refine H_app TZ_25 TU_25 H fun t109_4 h ⟨S_28, H⟩ => ⟨(hcons rfl (still_1 S_28 hat105_2) hnil), ?_⟩
      refine tkP rfl ?_; refine R_nil H fun t110_4 H => ⟨fun _ => trivial, ?_⟩
      refine tkP rfl ?_; refine R_fld TF_141_2 H fun t111_4 H => ⟨fun _ => trivial, ?_⟩
      refine alt_n rfl ?_ vp_none
      refine H_store1 TS_25 H fun h H => ⟨(hskip rfl hnil), ?_⟩
      refine vp_done ?_; refine WPc_seq' ?_; refine W_region (by kernel_rfl) ?_; refine vl_n ?_; refine H_of_R (R_move (v := (e 0)) rfl ?_)
      refine vl_n ?_; refine H_of_R (R_nil H fun t113_4 H => ?_)
      refine vl_n ?_; refine H_of_R (R_fld TF_135_2 H fun t114_4 H => ?_)
      refine vl_n ?_; refine H_of_R (R_load1 T1_86 H fun _ t115_4 _ _ H => ?_)
      refine vl_n ?_; refine H_call HB_128 H fun t116_4 h H => ?_; refine vl_e ?_; refine WPc_seq' ?_; refine W_region (by kernel_rfl) ?_; refine vl_n ?_; refine H_of_R (R_move (v := (e 0)) rfl ?_)
      refine vl_n ?_; refine H_of_R (R_loadN TN_27 H fun _ t118_4 _ _ H _ _ => ?_)
      refine vl_n ?_; refine H_of_R (R_move (v := (e 2)) rfl ?_)
      refine vl_n ?_; refine H_call HB_96 H fun t120_4 h H => ?_; refine vl_n ?_; refine H_of_R (R_ext H fun t121_4 H => ?_)
      refine vl_n ?_; refine H_of_R (R_ext H fun t122_4 H => ?_)
      refine vl_n ?_; refine H_storeN TS_27 H fun h H => ?_; refine vl_n ?_; refine H_of_R (R_assign (v := t122_4) rfl ?_)
      refine vl_e ?_; refine WPc_ret ?_; refine resH_of rfl ?_; refine resL_N TN_27 ?_; refine loadN_imp H fun r6_4 H => ?_; refine resL_t ?_; exact H
    · have H := H2 hh; clear H1 H2
      refine WPc_skip ?_; exact H
  refine WPc_seq' ?_; refine W_region (by kernel_rfl) ?_; refine vl_n ?_; refine H_of_R (R_move (v := a0) rfl ?_)
  refine vl_n ?_; refine H_of_R (R_nil H fun t13 H => ?_)
  refine vl_n ?_; refine H_of_R (R_fld TF_135_2 H fun t14 H => ?_)
  refine vl_n ?_; refine H_of_R (R_load1 T1_86 H fun _ t15 _ _ H => ?_)
  refine vl_n ?_; refine H_of_R (R_eqNilP Try.underlying86 rfl H fun t16 H => ?_)
  refine vl_e ?_; obtain ⟨b, hc, H1, H2⟩ := H; refine WPc_cond hc (fun hh => ?_) (fun hh => ?_)
  · have H := H1 hh; clear H1 H2
    refine WPc_seq' ?_; refine W_region (by kernel_rfl) ?_; refine vl_n ?_; refine H_of_R (R_move (v := a0) rfl ?_)
    refine vl_n ?_; refine H_call HB_123 H fun t18 h H => ?_; refine vl_e ?_; refine WPc_seq' ?_; refine W_region (by kernel_rfl) ?_; refine vl_n ?_; refine H_of_R (R_move (v := a0) rfl ?_)
    refine vl_n ?_; refine H_of_R (R_move (v := a0) rfl ?_)
    refine vl_n ?_; refine H_call HB_127 H fun t21 h H => ?_; refine vl_n ?_; refine H_of_R (R_nil H fun t22 H => ?_)
    refine vl_n ?_; refine H_of_R (R_fld TF_135_2 H fun t23 H => ?_)
    refine vl_n ?_; refine H_store1 TS_86 H fun h H => ?_; refine vl_e ?_; refine WPc_seq' ?_; refine W_drawn [0, 1, 3, 7, 0, 0, 32, 112, 255, 511, 1023] (.take 0 (.take 1 (.take 2 (.take 3 (.take 5 (.alt 4 (.alt 6 (.alt 7 (.take 8 (.take 9 (.alt 10 .done .none))) .none) .none) (.alt 6 (.alt 4 (.alt 7 (.take 8 (.take 9 (.alt 10 .done .none))) .none) .none) .none))))))) mixed (by kernel_rfl) ?_; refine tkP rfl ?_; refine R_move (v := a0) rfl ⟨fun _ => trivial, ?_⟩
    refine tkP rfl ?_; refine R_nil H fun t25 H => ⟨fun _ => trivial, ?_⟩
    refine tkP rfl ?_; refine R_fld TF_135_2 H fun t26 H => ⟨fun _ => trivial, ?_⟩
    refine tkL rfl ?_; refine R_load1 T1_86 H fun at27 t27 hat27 _ H => ?_; refine tkL rfl ?_; refine R_loadN TN_27 H fun at29 xt29 hat29 _ H St29 hSt29 => ?_; obtain ⟨HA0, HA1⟩ := H; refine alt_n rfl ?_ ?_
    · have H := HA0; clear HA0 HA1
      refine H_mkSl TZ_25 (by decide) rfl H rfl fun t28 h ⟨S, S_2, H⟩ => ⟨(hcons rfl (hSt29 _ (still_N S_2 hat29 rfl)) (hcons rfl (still_1 S hat27) hnil)), ?_⟩
      refine alt_n rfl ?_ vp_none
      refine H_mkSl TZ_25 (by decide) rfl H rfl fun t30 h ⟨S_3, H⟩ => ⟨(hskip rfl (hcons rfl (still_1 S_3 hat27) hnil)), ?_⟩
      refine alt_n rfl ?_ vp_none
      refine H_app TZ_25 TU_25 H fun t31 h ⟨S_4, H⟩ => ⟨(hcons rfl (still_1 S_4 hat27) hnil), ?_⟩
      refine tkP rfl ?_; refine R_nil H fun t32 H => ⟨fun _ => trivial, ?_⟩
      refine tkP rfl ?_; refine R_fld TF_141_2 H fun t33 H => ⟨fun _ => trivial, ?_⟩
      refine alt_n rfl ?_ vp_none
      refine H_store1 TS_25 H fun h H => ⟨(hskip rfl hnil), ?_⟩
      refine vp_done ?_; refine WPc_seq' ?_; refine W_region (by kernel_rfl) ?_; refine vl_n ?_; refine H_of_R (R_move (v := a0) rfl ?_)
      refine vl_n ?_; refine H_of_R (R_nil H fun t35 H => ?_)
      refine vl_n ?_; refine H_of_R (R_fld TF_135_2 H fun t36 H => ?_)
      refine vl_n ?_; refine H_of_R (R_load1 T1_86 H fun _ t37 _ _ H => ?_)
      refine vl_n ?_; refine H_of_R (R_nil H fun t38 H => ?_)
      refine vl_n ?_; refine H_of_R (R_fld TF_141_1 H fun t39 H => ?_)
      refine vl_n ?_; refine H_store1 TS_3 H fun h H => ?_; refine vl_e ?_; refine WPc_seq' ?_; refine W_region (by kernel_rfl) ?_; refine vl_n ?_; refine H_of_R (R_move (v := a0) rfl ?_)
      refine vl_n ?_; refine H_of_R (R_nil H fun t41 H => ?_)
      refine vl_n ?_; refine H_of_R (R_fld TF_135_3 H fun t42 H => ?_)
      refine vl_n ?_; refine H_store1 TS_3 H fun h H => ?_; refine vl_e ?_; refine WPc_seq' ?_; refine W_region (by kernel_rfl) ?_; refine vl_n ?_; refine H_of_R (R_move (v := a0) rfl ?_)
      refine vl_n ?_; refine H_of_R (R_nil H fun t44 H => ?_)
      refine vl_n ?_; refine H_of_R (R_fld TF_135_7 H fun t45 H => ?_)
      refine vl_n ?_; refine H_of_R (R_loadN TN_27 H fun _ t46 _ _ H _ _ => ?_)
      refine vl_n ?_; refine H_storeN TS_27 H fun h H => ?_; refine vl_n ?_; refine H_of_R (R_assign (v := (.bool false)) rfl ?_)
      refine vl_e ?_; refine WPc_ret ?_; refine resH_of rfl ?_; refine resL_N TN_27 ?_; refine loadN_imp H fun r6 H => ?_; refine resL_t ?_; exact H
    refine alt_n rfl ?_ vp_none
    have H := HA1; clear HA0 HA1
    refine H_mkSl TZ_25 (by decide) rfl H rfl fun t30_2 h ⟨S_5, H⟩ => ⟨(hskip rfl (hcons rfl (still_1 S_5 hat27) hnil)), ?_⟩
    refine alt_n rfl ?_ vp_none
    refine H_mkSl TZ_25 (by decide) rfl H rfl fun t28_2 h ⟨S_6, H⟩ => ⟨(hcons rfl (still_1 S_6 hat27) hnil), ?_⟩
    refine alt_n rfl ?_ vp_none
    refine H_app TZ_25 TU_25 H fun t31_2 h ⟨S_7, H⟩ => ⟨(hcons rfl (still_1 S_7 hat27) hnil), ?_⟩
    refine tkP rfl ?_; refine R_nil H fun t32_2 H => ⟨fun _ => trivial, ?_⟩
    refine tkP rfl ?_; refine R_fld TF_141_2 H fun t33_2 H => ⟨fun _ => trivial, ?_⟩
    refine alt_n rfl ?_ vp_none
    refine H_store1 TS_25 H fun h H => ⟨(hskip rfl hnil), ?_⟩
    refine vp_done ?_; refine WPc_seq' ?_; refine W_region (by kernel_rfl) ?_; refine vl_n ?_; refine H_of_R (R_move (v := a0) rfl ?_)
    refine vl_n ?_; refine H_of_R (R_nil H fun t35_2 H => ?_)
    refine vl_n ?_; refine H_of_R (R_fld TF_135_2 H fun t36_2 H => ?_)
    refine vl_n ?_; refine H_of_R (R_load1 T1_86 H fun _ t37_2 _ _ H => ?_)
    refine vl_n ?_; refine H_of_R (R_nil H fun t38_2 H => ?_)
    refine vl_n ?_; refine H_of_R (R_fld TF_141_1 H fun t39_2 H => ?_)
    refine vl_n ?_; refine H_store1 TS_3 H fun h H => ?_; refine vl_e ?_; refine WPc_seq' ?_; refine W_region (by kernel_rfl) ?_; refine vl_n ?_; refine H_of_R (R_move (v := a0) rfl ?_)
    refine vl_n ?_; refine H_of_R (R_nil H fun t41_2 H => ?_)
    refine vl_n ?_; refine H_of_R (R_fld TF_135_3 H fun t42_2 H => ?_)
    refine vl_n ?_; refine H_store1 TS_3 H fun h H => ?_; refine vl_e ?_; refine WPc_seq' ?_; refine W_region (by kernel_rfl) ?_; refine vl_n ?_; refine H_of_R (R_move (v := a0) rfl ?_)
    refine vl_n ?_; refine H_of_R (R_nil H fun t44_2 H => ?_)
    refine vl_n ?_; refine H_of_R (R_fld TF_135_7 H fun t45_2 H => ?_)
    refine vl_n ?_; refine H_of_R (R_loadN TN_27 H fun _ t46_2 _ _ H _ _ => ?_)
    refine vl_n ?_; refine H_storeN TS_27 H fun h H => ?_; refine vl_n ?_; refine H_of_R (R_assign (v := (.bool false)) rfl ?_)
    refine vl_e ?_; refine WPc_ret ?_; refine resH_of rfl ?_; refine resL_N TN_27 ?_; refine loadN_imp H fun r6_2 H => ?_; refine resL_t ?_; exact H
  · have H := H2 hh; clear H1 H2
    refine WPc_skip ?_; exact H
end Go.Proofs.Ytljecmjdmdjldaa
end
section
namespace Go.Proofs.Ytljecmjdmdjldaa
open Go.Hp
set_option maxRecDepth 100000
set_option maxHeartbeats 8000000
/-! ### (*pub/tidwallbtree.BTreeG[impl.Item]).SetHint -/
def BTreeG_I_SetHint.sh (a0 a1 a2 : Value) (h : Heap) (Q : Value → Heap → Prop) : Prop := box 27 a1 h fun t4 h => alloc [(.int .i64 0), (.int .i64 0)] 27 h fun t6 h => loadN 2 t4 h fun t10 => BTreeG_I_setHint.call #[a0, t10, a2] h fun t12 h => extr 0 t12 fun t13 => extr 1 t12 fun t14 => storeN 2 t6 t13 h fun h => loadN 2 t6 h fun t15 => storeN 2 t6 t15 h fun h => loadN 2 t6 h fun r6 => Q (.tuple #[r6, t14]) h
theorem BTreeG_I_SetHint.body (a0 a1 a2 : Value) (h : Heap) (Q : Value → Heap → Prop) (H : BTreeG_I_SetHint.sh a0 a1 a2 h Q) : BTreeG_I_SetHint.call #[a0, a1, a2] h Q := by
  refine callsH_of (args := [a0, a1, a2]) Try.func116 rfl rfl ?_; unfold BTreeG_I_SetHint.sh at H; refine WPc_seq' ?_; refine W_region (by kernel_rfl) ?_; refine vl_n ?_; refine H_box H fun t4 h H => ?_; refine vl_n ?_; refine H_alloc TV_27 H fun t6 h H => ?_; refine vl_n ?_; refine H_of_R (R_assign (v := (.bool false)) rfl ?_)
  refine vl_e ?_; refine WPc_seq' ?_; refine W_region (by kernel_rfl) ?_; refine vl_n ?_; refine H_of_R (R_move (v := a0) rfl ?_)
  refine vl_n ?_; refine H_of_R (R_loadN TN_27 H fun _ t10 _ _ H _ _ => ?_)
  refine vl_n ?_; refine H_of_R (R_move (v := a2) rfl ?_)
  refine vl_n ?_; refine H_call HB_96 H fun t12 h H => ?_; refine vl_n ?_; refine H_of_R (R_move (v := t12) rfl ?_)
  refine vl_n ?_; refine H_of_R (R_ext H fun t13 H => ?_)
  refine vl_n ?_; refine H_of_R (R_ext H fun t14 H => ?_)
  refine vl_n ?_; refine H_storeN TS_27 H fun h H => ?_; refine vl_n ?_; refine H_of_R (R_assign (v := t14) rfl ?_)
  refine vl_e ?_; refine WPc_seq' ?_; refine W_region (by kernel_rfl) ?_; refine vl_n ?_; refine H_of_R (R_loadN TN_27 H fun _ t15 _ _ H _ _ => ?_)
  refine vl_n ?_; refine H_of_R (R_move (v := t14) rfl ?_)
  refine vl_n ?_; refine H_storeN TS_27 H fun h H => ?_; refine vl_n ?_; refine H_of_R (R_assign (v := t14) rfl ?_)
  refine vl_e ?_; refine WPc_ret ?_; refine resH_of rfl ?_; refine resL_N TN_27 ?_; refine loadN_imp H fun r6 H => ?_; refine resL_t ?_; exact H
/-! ### (*pub/tidwallbtree.BTreeG[impl.Item]).Set -/
def BTreeG_I_Set.sh (a0 a1 : Value) (h : Heap) (Q : Value → Heap → Prop) : Prop := box 27 a1 h fun t3 h => alloc [(.int .i64 0), (.int .i64 0)] 27 h fun t4 h => loadN 2 t3 h fun t7 => BTreeG_I_SetHint.call #[a0, t7, (.pointer none)] h fun t8 h => extr 0 t8 fun t9 => extr 1 t8 fun t10 => storeN 2 t4 t9 h fun h => loadN 2 t4 h fun r4 => Q (.tuple #[r4, t10]) h
theorem BTreeG_I_Set.body (a0 a1 : Value) (h : Heap) (Q : Value → Heap → Prop) (H : BTreeG_I_Set.sh a0 a1 h Q) : BTreeG_I_Set.call #[a0, a1] h Q := by
  refine callsH_of (args := [a0, a1]) Try.func79 rfl rfl ?_; unfold BTreeG_I_Set.sh at H; refine WPc_seq' ?_; refine W_region (by kernel_rfl) ?_; refine vl_n ?_; refine H_box H fun t3 h H => ?_; refine vl_n ?_; refine H_alloc TV_27 H fun t4 h H => ?_; refine vl_n ?_; refine H_of_R (R_assign (v := (.bool false)) rfl ?_)
  refine vl_e ?_; refine WPc_seq' ?_; refine W_region (by kernel_rfl) ?_; refine vl_n ?_; refine H_of_R (R_move (v := a0) rfl ?_)
  refine vl_n ?_; refine H_of_R (R_loadN TN_27 H fun _ t7 _ _ H _ _ => ?_)
  refine vl_n ?_; refine H_call HB_116 H fun t8 h H => ?_; refine vl_n ?_; refine H_of_R (R_ext H fun t9 H => ?_)
  refine vl_n ?_; refine H_of_R (R_ext H fun t10 H => ?_)
  refine vl_n ?_; refine H_storeN TS_27 H fun h H => ?_; refine vl_n ?_; refine H_of_R (R_assign (v := t10) rfl ?_)
  refine vl_e ?_; refine WPc_ret ?_; refine resH_of rfl ?_; refine resL_N TN_27 ?_; refine loadN_imp H fun r4 H => ?_; refine resL_t ?_; exact H
/-! ### pub/tidwallbtree.newIsoID -/
def newIsoID.sh (a0 : Value) (h : Heap) (Q : Value → Heap → Prop) : Prop := nilck a0 fun t4 => load1 t4 h fun t5 => arith (· + ·) t5 (.int .u64 1) fun t6 => nilck a0 fun t7 => store1 t7 t6 h fun h => nilck a0 fun t9 => load1 t9 h fun t10 => Q t10 h
theorem newIsoID.body (a0 : Value) (h : Heap) (Q : Value → Heap → Prop) (H : newIsoID.sh a0 h Q) : newIsoID.call #[a0] h Q := by
  refine callsH_of (args := [a0]) Try.func122 rfl rfl ?_; unfold newIsoID.sh at H; refine WPc_seq' ?_; refine W_region (by kernel_rfl) ?_; refine vl_n ?_; refine H_of_R (R_assign (v := (.int .u64 0)) rfl ?_)
  refine vl_e ?_; refine WPc_seq' ?_; refine W_region (by kernel_rfl) ?_; refine vl_n ?_; refine H_of_R (R_move (v := a0) rfl ?_)
  refine vl_n ?_; refine H_of_R (R_nil H fun t4 H => ?_)
  refine vl_n ?_; refine H_of_R (R_load1 T1_132 H fun _ t5 _ _ H => ?_)
  refine vl_n ?_; refine H_of_R (R_add H fun t6 H => ?_)
  refine vl_n ?_; refine H_of_R (R_nil H fun t7 H => ?_)
  refine vl_n ?_; refine H_store1 TS_132 H fun h H => ?_; refine vl_e ?_; refine WPc_seq' ?_; refine W_region (by kernel_rfl) ?_; refine vl_n ?_; refine H_of_R (R_move (v := a0) rfl ?_)
  refine vl_n ?_; refine H_of_R (R_nil H fun t9 H => ?_)
  refine vl_n ?_; refine H_of_R (R_load1 T1_132 H fun _ t10 _ _ H => ?_)
  refine vl_n ?_; refine H_of_R (R_assign (v := t10) rfl ?_)
  refine vl_e ?_; refine WPc_ret ?_; refine resH_of rfl ?_; exact H
/-! ### pub/tidwallbtree.NewBTreeGOptions[impl.Item] -/
def NewBTreeGOptions_I.sh (a0 a1 : Value) (h : Heap) (Q : Value → Heap → Prop) : Prop := box 126 a1 h fun t3 h => alloc [(.int .u64 0), (.pointer none), (.pointer none), (.int .i64 0), (.bool false), (.bool false), .nilFunc, (.int .i64 0), (.int .i64 0), (.int .i64 0), (.int .i64 0)] 135 h fun t6 h => alloc [(.int .u64 0)] 132 h fun t8 h => nilck t6 fun t9 => fld 1 t9 fun t10 => store1 t10 t8 h fun h => nilck t6 fun t13 => fld 1 t13 fun t14 => load1 t14 h fun t15 => newIsoID.call #[t15] h fun t16 h => nilck t6 fun t17 => fld 0 t17 fun t18 => store1 t18 t16 h fun h => nilck t6 fun t21 => fld 6 t21 fun t22 => store1 t22 a0 h fun h => fld 0 t3 fun t24 => load1 t24 h fun t25 => BTreeG_I_init.call #[t6, t25] h fun t26 h => Q t6 h
theorem NewBTreeGOptions_I.body (a0 a1 : Value) (h : Heap) (Q : Value → Heap → Prop) (H : NewBTreeGOptions_I.sh a0 a1 h Q) : NewBTreeGOptions_I.call #[a0, a1] h Q := by
  refine callsH_of (args := [a0, a1]) Try.func82 rfl rfl ?_; unfold NewBTreeGOptions_I.sh at H; refine WPc_seq' ?_; refine W_region (by kernel_rfl) ?_; refine vl_n ?_; refine H_box H fun t3 h H => ?_; refine vl_n ?_; refine H_of_R (R_assign (v := (.pointer none)) rfl ?_)
  refine vl_e ?_; refine WPc_seq' ?_; refine W_region (by kernel_rfl) ?_; refine vl_n ?_; refine H_alloc TV_135 H fun t6 h H => ?_; refine vl_n ?_; refine H_of_R (R_assign (v := t6) rfl ?_)
  refine vl_e ?_; refine WPc_seq' ?_; refine W_region (by kernel_rfl) ?_; refine vl_n ?_; refine H_of_R (R_move (v := t6) rfl ?_)
  refine vl_n ?_; refine H_alloc TV_132 H fun t8 h H => ?_; refine vl_n ?_; refine H_of_R (R_nil H fun t9 H => ?_)
  refine vl_n ?_; refine H_of_R (R_fld TF_135_1 H fun t10 H => ?_)
  refine vl_n ?_; refine H_store1 TS_133 H fun h H => ?_; refine vl_e ?_; refine WPc_seq' ?_; refine W_region (by kernel_rfl) ?_; refine vl_n ?_; refine H_of_R (R_move (v := t6) rfl ?_)
  refine vl_n ?_; refine H_of_R (R_move (v := t6) rfl ?_)
  refine vl_n ?_; refine H_of_R (R_nil H fun t13 H => ?_)
  refine vl_n ?_; refine H_of_R (R_fld TF_135_1 H fun t14 H => ?_)
  refine vl_n ?_; refine H_of_R (R_load1 T1_133 H fun _ t15 _ _ H => ?_)
  refine vl_n ?_; refine H_call HB_122 H fun t16 h H => ?_; refine vl_n ?_; refine H_of_R (R_nil H fun t17 H => ?_)
  refine vl_n ?_; refine H_of_R (R_fld TF_135_0 H fun t18 H => ?_)
  refine vl_n ?_; refine H_store1 TS_132 H fun h H => ?_; refine vl_e ?_; refine WPc_seq' ?_; refine W_region (by kernel_rfl) ?_; refine vl_n ?_; refine H_of_R (R_move (v := t6) rfl ?_)
  refine vl_n ?_; refine H_of_R (R_move (v := a0) rfl ?_)
  refine vl_n ?_; refine H_of_R (R_nil H fun t21 H => ?_)
  refine vl_n ?_; refine H_of_R (R_fld TF_135_6 H fun t22 H => ?_)
  refine vl_n ?_; refine H_store1 TS_123 H fun h H => ?_; refine vl_e ?_; refine WPc_seq' ?_; refine W_region (by kernel_rfl) ?_; refine vl_n ?_; refine H_of_R (R_move (v := t6) rfl ?_)
  refine vl_n ?_; refine H_of_R (R_fld TF_126_0 H fun t24 H => ?_)
  refine vl_n ?_; refine H_of_R (R_load1 T1_3 H fun _ t25 _ _ H => ?_)
  refine vl_n ?_; refine H_call HB_123 H fun t26 h H => ?_; refine vl_e ?_; refine WPc_seq' ?_; refine W_region (by kernel_rfl) ?_; refine vl_n ?_; refine H_of_R (R_move (v := t6) rfl ?_)
  refine vl_n ?_; refine H_of_R (R_assign (v := t6) rfl ?_)
  refine vl_e ?_; refine WPc_ret ?_; refine resH_of rfl ?_; exact H
/-! ### slices.Clone[[]int,int] -/
def sl_Clone_inti.j1 (s0 : Value) (h : Heap) (Q : Value → Heap → Prop) : Prop := mkSl (if 0 * 1 = 0 then [] else zeros [(.int .i64 0)] 0) 0 [] 3 h fun t5 h => app 3 1 8 [(.int .i64 0)] t5 s0 h fun t7 h => Q t7 h
def sl_Clone_inti.sh (a0 : Value) (h : Heap) (Q : Value → Heap → Prop) : Prop := eqNilS a0 fun t4 => ifV t4 (Q (.slice none 0 0) h) (sl_Clone_inti.j1 a0 h Q)
theorem sl_Clone_inti.body (a0 : Value) (h : Heap) (Q : Value → Heap → Prop) (H : sl_Clone_inti.sh a0 h Q) : sl_Clone_inti.call #[a0] h Q := by
  refine callsH_of (args := [a0]) Try.func124 rfl rfl ?_; unfold sl_Clone_inti.sh at H; refine WPc_seq' ?_; refine W_region (by kernel_rfl) ?_; refine vl_n ?_; refine H_of_R (R_assign (v := (.slice none 0 0)) rfl ?_)
  refine vl_e ?_; refine WPc_seq (fun e h => sl_Clone_inti.j1 (e 0) h Q) ?_ (fun e h H => ?_)
  rotate_left
  · unfold sl_Clone_inti.j1 at H
    refine WPc_seq' ?_; refine W_region (by kernel_rfl) ?_; refine vl_n ?_; refine H_mkSl TZ_22 (by decide) rfl H rfl fun t5 h H => ?_; refine vl_n ?_; refine H_of_R (R_move (v := (e 0)) rfl ?_)
    refine vl_n ?_; refine H_app TZ_22 TU_22 H fun t7 h H => ?_; refine vl_n ?_; refine H_of_R (R_assign (v := t7) rfl ?_)
    refine vl_e ?_; refine WPc_ret ?_; refine resH_of rfl ?_; exact H
  refine WPc_seq' ?_; refine W_region (by kernel_rfl) ?_; refine vl_n ?_; refine H_of_R (R_move (v := a0) rfl ?_)
  refine vl_n ?_; refine H_of_R (R_eqNilS Try.underlying22 rfl H fun t4 H => ?_)
  refine vl_e ?_; obtain ⟨b, hc, H1, H2⟩ := H; refine WPc_cond hc (fun hh => ?_) (fun hh => ?_)
  · have H := H1 hh; clear H1 H2
    refine WPc_seq' ?_; refine W_region (by kernel_rfl) ?_; refine vl_n ?_; refine H_of_R (R_assign (v := (.slice none 0 0)) rfl ?_)
    refine vl_e ?_; refine WPc_ret ?_; refine resH_of rfl ?_; exact H
  · have H := H2 hh; clear H1 H2
    refine WPc_skip ?_; exact H
/-! ### impl.remainder -/
def i_remainder.sh (a0 a1 : Value) (h : Heap) (Q : Value → Heap → Prop) : Prop := remi a0 a1 fun t7 => arith (· + ·) t7 a1 fun t9 => remi t9 a1 fun t11 => Q t11 h
theorem i_remainder.body (a0 a1 : Value) (h : Heap) (Q : Value → Heap → Prop) (H : i_remainder.sh a0 a1 h Q) : i_remainder.call #[a0, a1] h Q := by
  refine callsH_of (args := [a0, a1]) Try.func139 rfl rfl ?_; unfold i_remainder.sh at H; refine WPc_seq' ?_; refine W_region (by kernel_rfl) ?_; refine vl_n ?_; refine H_of_R (R_assign (v := (.int .i64 0)) rfl ?_)
  refine vl_e ?_; refine WPc_seq' ?_; refine W_region (by kernel_rfl) ?_; refine vl_n ?_; refine H_of_R (R_move (v := a0) rfl ?_)
  refine vl_n ?_; refine H_of_R (R_move (v := a1) rfl ?_)
  refine vl_n ?_; refine H_of_R (R_rem H fun t7 H => ?_)
  refine vl_n ?_; refine H_of_R (R_move (v := a1) rfl ?_)
  refine vl_n ?_; refine H_of_R (R_add H fun t9 H => ?_)
  refine vl_n ?_; refine H_of_R (R_move (v := a1) rfl ?_)
  refine vl_n ?_; refine H_of_R (R_rem H fun t11 H => ?_)
  refine vl_n ?_; refine H_of_R (R_assign (v := t11) rfl ?_)
  refine vl_e ?_; refine WPc_ret ?_; refine resH_of rfl ?_; exact H
/-! ### impl.rank -/
def i_rank.j1 (s0 s1 : Value) (h : Heap) (Q : Value → Heap → Prop) : Prop := lenV s0 fun t12 => i_remainder.call #[s1, t12] h fun t13 h => idx 1 s0 t13 fun t14 => load1 t14 h fun t15 => Q t15 h
def i_rank.sh (a0 a1 : Value) (h : Heap) (Q : Value → Heap → Prop) : Prop := lenV a0 fun t6 => cmpI (fun a b => a == b) t6 (.int .i64 0) fun t7 => ifV t7 (Q a1 h) (i_rank.j1 a0 a1 h Q)
theorem i_rank.body (a0 a1 : Value) (h : Heap) (Q : Value → Heap → Prop) (H : i_rank.sh a0 a1 h Q) : i_rank.call #[a0, a1] h Q := by
  refine callsH_of (args := [a0, a1]) Try.func126 rfl rfl ?_; unfold i_rank.sh at H; refine WPc_seq' ?_; refine W_region (by kernel_rfl) ?_; refine vl_n ?_; refine H_of_R (R_assign (v := (.int .i64 0)) rfl ?_)
  refine vl_e ?_; refine WPc_seq (fun e h => i_rank.j1 (e 0) (e 1) h Q) ?_ (fun e h H => ?_)
  rotate_left
  · unfold i_rank.j1 at H
    refine WPc_seq' ?_; refine W_region (by kernel_rfl) ?_; refine vl_n ?_; refine H_of_R (R_move (v := (e 0)) rfl ?_)
    refine vl_n ?_; refine H_of_R (R_move (v := (e 1)) rfl ?_)
    refine vl_n ?_; refine H_of_R (R_move (v := (e 0)) rfl ?_)
    refine vl_n ?_; refine H_of_R (R_len Try.underlying22 H fun t12 H => ?_)
    refine vl_n ?_; refine H_call HB_139 H fun t13 h H => ?_; refine vl_n ?_; refine H_of_R (R_idx TE_22 H fun t14 H => ?_)
    refine vl_n ?_; refine H_of_R (R_load1 T1_3 H fun _ t15 _ _ H => ?_)
    refine vl_n ?_; refine H_of_R (R_assign (v := t15) rfl ?_)
    refine vl_e ?_; refine WPc_ret ?_; refine resH_of rfl ?_; exact H
  refine WPc_seq' ?_; refine W_region (by kernel_rfl) ?_; refine vl_n ?_; refine H_of_R (R_move (v := a0) rfl ?_)
  refine vl_n ?_; refine H_of_R (R_len Try.underlying22 H fun t6 H => ?_)
  refine vl_n ?_; refine H_of_R (R_eqI H fun t7 H => ?_)
  refine vl_e ?_; obtain ⟨b, hc, H1, H2⟩ := H; refine WPc_cond hc (fun hh => ?_) (fun hh => ?_)
  · have H := H1 hh; clear H1 H2
    refine WPc_seq' ?_; refine W_region (by kernel_rfl) ?_; refine vl_n ?_; refine H_of_R (R_move (v := a1) rfl ?_)
    refine vl_n ?_; refine H_of_R (R_assign (v := a1) rfl ?_)
    refine vl_e ?_; refine WPc_ret ?_; refine resH_of rfl ?_; exact H
  · have H := H2 hh; clear H1 H2
    refine WPc_skip ?_; exact H
/-! ### impl.before$1 -/
def i_before_c1.sh (a0 a1 f0 : Value) (h : Heap) (Q : Value → Heap → Prop) : Prop := box 27 a0 h fun t3 h => box 27 a1 h fun t4 h => load1 f0 h fun t6 => fld 0 t3 fun t7 => load1 t7 h fun t8 => load1 f0 h fun t10 => fld 0 t4 fun t11 => load1 t11 h fun t12 => i_rank.call #[t6, t8] h fun t9 h => still1 f0 t10 h ∧ still1 t11 t12 h ∧ i_rank.call #[t10, t12] h fun t13 h => cmpI (fun a b => decide (a < b)) t9 t13 fun t14 => Q t14 h
theorem i_before_c1.body (a0 a1 f0 : Value) (h : Heap) (Q : Value → Heap → Prop) (H : i_before_c1.sh a0 a1 f0 h Q) : i_before_c1.call #[a0, a1, f0] h Q := by
  refine callsH_of (args := [a0, a1, f0]) Try.func125 rfl rfl ?_; unfold i_before_c1.sh at H; refine WPc_seq' ?_; refine W_region (by kernel_rfl) ?_; refine vl_n ?_; refine H_box H fun t3 h H => ?_; refine vl_n ?_; refine H_box H fun t4 h H => ?_; refine vl_n ?_; refine H_of_R (R_assign (v := (.bool false)) rfl ?_)
  refine vl_e ?_; refine WPc_seq' ?_; refine W_drawn [0, 0, 2, 7, 0, 0, 32, 127, 255, 511] (.take 0 (.take 1 (.take 2 (.take 4 (.take 5 (.take 6 (.alt 3 (.alt 7 (.take 8 (.take 9 .done)) .none) .none))))))) mixed (by kernel_rfl) ?_; refine tkL rfl ?_; refine R_load1 T1_22 H fun at6 t6 hat6 _ H => ?_; refine tkP rfl ?_; refine R_fld TF_27_0 H fun t7 H => ⟨fun _ => trivial, ?_⟩
  refine tkL rfl ?_; refine R_load1 T1_3 H fun at8 t8 hat8 _ H => ?_; refine tkL rfl ?_; refine R_load1 T1_22 H fun at10 t10 hat10 _ H => ?_; refine tkP rfl ?_; refine R_fld TF_27_0 H fun t11 H => ⟨fun _ => trivial, ?_⟩
  refine tkL rfl ?_; refine R_load1 T1_3 H fun at12 t12 hat12 _ H => ?_; refine alt_n rfl ?_ vp_none
  refine H_call HB_126 H fun t9 h ⟨S, S_2, H⟩ => ⟨(hcons rfl (still_1 S_2 hat12) (hcons rfl (still_1 S hat10) (hskip rfl (hskip rfl hnil)))), ?_⟩
  refine alt_n rfl ?_ vp_none
  refine H_call HB_126 H fun t13 h H => ⟨(hskip rfl (hskip rfl hnil)), ?_⟩
  refine tkP rfl ?_; refine R_lss H fun t14 H => ⟨fun _ => trivial, ?_⟩
  refine tkP rfl ?_; refine R_assign (v := t14) rfl ⟨fun _ => trivial, ?_⟩
  refine vp_done ?_; refine WPc_ret ?_; refine resH_of rfl ?_; exact H
/-! ### impl.before -/
def i_before.sh (a0 : Value) (h : Heap) (Q : Value → Heap → Prop) : Prop := sl_Clone_inti.call #[a0] h fun t5 h => alloc [(.slice none 0 0)] 22 h fun t3 h => store1 t3 t5 h fun h => Q (.func (.func 125) #[] #[t3]) h
theorem i_before.body (a0 : Value) (h : Heap) (Q : Value → Heap → Prop) (H : i_before.sh a0 h Q) : i_before.call #[a0] h Q := by
  refine callsH_of (args := [a0]) Try.func83 rfl rfl ?_; unfold i_before.sh at H; refine WPc_seq' ?_; refine W_region (by kernel_rfl) ?_; refine vl_n ?_; refine H_of_R (R_assign (v := .nilFunc) rfl ?_)
  refine vl_e ?_; refine WPc_seq' ?_; refine W_region (by kernel_rfl) ?_; refine vl_n ?_; refine H_of_R (R_move (v := a0) rfl ?_)
  refine vl_n ?_; refine H_call HB_124 H fun t5 h H => ?_; refine vl_n ?_; refine H_alloc TV_22 H fun t3 h H => ?_; refine vl_n ?_; refine H_store1 TS_22 H fun h H => ?_; refine vl_e ?_; refine WPc_seq' ?_; refine W_region (by kernel_rfl) ?_; refine vl_n ?_; refine H_of_R (R_mkFn (v := (.func (.func 125) #[] #[t3])) rfl ?_)
  refine vl_n ?_; refine H_of_R (R_assign (v := (.func (.func 125) #[] #[t3])) rfl ?_)
  refine vl_e ?_; refine WPc_ret ?_; refine resH_of rfl ?_; exact H
/-! ### impl.options -/
def i_options.sh (a0 : Value) (h : Heap) (Q : Value → Heap → Prop) : Prop := box 24 a0 h fun t1 h => alloc [(.int .i64 0), (.bool false)] 126 h fun t2 h => fld 1 t1 fun t3 => load1 t3 h fun t4 => fld 2 t1 fun t5 => load1 t5 h fun t6 => buildV [(.int .i64 0), (.bool false)] [(0, 1, t4), (1, 1, t6)] fun t7 => storeN 2 t2 t7 h fun h => loadN 2 t2 h fun r2 => Q r2 h
theorem i_options.body (a0 : Value) (h : Heap) (Q : Value → Heap → Prop) (H : i_options.sh a0 h Q) : i_options.call #[a0] h Q := by
  refine callsH_of (args := [a0]) Try.func84 rfl rfl ?_; unfold i_options.sh at H; refine WPc_seq' ?_; refine W_region (by kernel_rfl) ?_; refine vl_n ?_; refine H_box H fun t1 h H => ?_; refine vl_n ?_; refine H_alloc TV_126 H fun t2 h H => ?_; refine vl_e ?_; refine WPc_seq' ?_; refine W_region (by kernel_rfl) ?_; refine vl_n ?_; refine H_of_R (R_fld TF_24_1 H fun t3 H => ?_)
  refine vl_n ?_; refine H_of_R (R_load1 T1_3 H fun _ t4 _ _ H => ?_)
  refine vl_n ?_; refine H_of_R (R_fld TF_24_2 H fun t5 H => ?_)
  refine vl_n ?_; refine H_of_R (R_load1 T1_4 H fun _ t6 _ _ H => ?_)
  refine vl_n ?_; refine H_of_R (R_build TB_126 rfl (by decide) H fun t7 H => ?_)
  refine vl_n ?_; refine H_storeN TS_126 H fun h H => ?_; refine vl_e ?_; refine WPc_ret ?_; refine resH_of rfl ?_; refine resL_N TN_126 ?_; refine loadN_imp H fun r2 H => ?_; exact H
/-! ### impl.grow -/
def i_grow.j1 (s5 : Value) (h : Heap) (Q : Value → Heap → Prop) : Prop := Q s5 h
def i_grow.j4 (s5 s14 s15 s16 : Value) (h : Heap) (K1 : List Value → Heap → Prop) (Q : Value → Heap → Prop) : Prop := arith (· + ·) s16 (.int .i64 1) fun t23 => K1 [t23] h
def i_grow.j3 (s5 s14 s15 s16 : Value) (h : Heap) (K1 : List Value → Heap → Prop) (Q : Value → Heap → Prop) : Prop := idx 2 s14 s16 fun t18 => loadN 2 t18 h fun t19 => alloc [(.int .i64 0), (.int .i64 0)] 27 h fun t7 h => storeN 2 t7 t19 h fun h => loadN 2 t7 h fun t21 => BTreeG_I_Set.call #[s5, t21] h fun t22 h => i_grow.j4 s5 s14 s15 s16 h K1 Q
def i_grow.l2.b (c5 c14 c15 s16 : Value) (h : Heap) (K1 : List Value → Heap → Prop) (Q : Value → Heap → Prop) : Prop := cmpI (fun a b => decide (a < b)) s16 c15 fun t17 => ifV t17 (i_grow.j3 c5 c14 c15 s16 h K1 Q) (i_grow.j1 c5 h Q)
def i_grow.sh (a0 a1 : Value) (h : Heap) (Q : Value → Heap → Prop) : Prop := box 24 a0 h fun t2 h => fld 0 t2 fun t8 => load1 t8 h fun t9 => loadN 3 t2 h fun t11 => i_before.call #[t9] h fun t10 h => stillN 3 t2 t11 h ∧ i_options.call #[t11] h fun t12 h => NewBTreeGOptions_I.call #[t10, t12] h fun t13 h => lenV a1 fun t15 => loopC (fun c s h K1 => i_grow.l2.b (c.getD 0 undef) (c.getD 1 undef) (c.getD 2 undef) (s.getD 0 undef) h K1 Q) [t13, a1, t15] [(.int .i64 0)] h
theorem i_grow.body (a0 a1 : Value) (h : Heap) (Q : Value → Heap → Prop) (H : i_grow.sh a0 a1 h Q) : i_grow.call #[a0, a1] h Q := by
  refine callsH_of (args := [a0, a1]) Try.func50 rfl rfl ?_; unfold i_grow.sh at H; refine WPc_seq' ?_; refine W_region (by kernel_rfl) ?_; refine vl_n ?_; refine H_box H fun t2 h H => ?_; refine vl_n ?_; refine H_of_R (R_assign (v := (.pointer none)) rfl ?_)
  refine vl_e ?_; refine WPc_seq' ?_; refine W_drawn [0, 1, 3, 0, 15, 31, 63] (.take 0 (.take 1 (.take 3 (.alt 2 (.alt 4 (.alt 5 (.take 6 .done) .none) .none) .none)))) mixed (by kernel_rfl) ?_; refine tkP rfl ?_; refine R_fld TF_24_0 H fun t8 H => ⟨fun _ => trivial, ?_⟩
  refine tkL rfl ?_; refine R_load1 T1_22 H fun at9 t9 hat9 _ H => ?_; refine tkL rfl ?_; refine R_loadN TN_24 H fun at11 xt11 hat11 _ H St11 hSt11 => ?_; refine alt_n rfl ?_ vp_none
  refine H_call HB_83 H fun t10 h ⟨S, H⟩ => ⟨(hcons rfl (hSt11 _ (still_N S hat11 rfl)) (hskip rfl hnil)), ?_⟩
  refine alt_n rfl ?_ vp_none
  refine H_call HB_84 H fun t12 h H => ⟨(hskip rfl hnil), ?_⟩
  refine alt_n rfl ?_ vp_none
  refine H_call HB_82 H fun t13 h H => ⟨hnil, ?_⟩
  refine tkP rfl ?_; refine R_assign (v := t13) rfl ⟨fun _ => trivial, ?_⟩
  refine vp_done ?_; refine WPc_seq (fun e h => i_grow.j1 (e 5) h Q) ?_ (fun e h H => ?_)
  rotate_left
  · unfold i_grow.j1 at H
    refine WPc_seq' ?_; refine W_region (by kernel_rfl) ?_; refine vl_n ?_; refine H_of_R (R_move (v := (e 5)) rfl ?_)
    refine vl_n ?_; refine H_of_R (R_assign (v := (e 5)) rfl ?_)
    refine vl_e ?_; refine WPc_ret ?_; refine resH_of rfl ?_; exact H
  refine WPc_seq' ?_; refine W_region (by kernel_rfl) ?_; refine vl_n ?_; refine H_of_R (R_move (v := a1) rfl ?_)
  refine vl_n ?_; refine H_of_R (R_len Try.underlying25 H fun t15 H => ?_)
  refine vl_n ?_; refine H_of_R (R_move (v := (.int .i64 0)) rfl ?_)
  refine vl_e ?_; refine WPc_block ?_; refine loop_at (fun e => [e 16]) (fun e => [e 5, e 14, e 15]) H rfl rfl ?_; intro K1 e1 h H hin1
  replace H : i_grow.l2.b (e1 5) (e1 14) (e1 15) (e1 16) h K1 Q := H
  unfold i_grow.l2.b at H; clear hin1; refine WPc_seq' ?_; refine W_region (by kernel_rfl) ?_; refine vl_n ?_; refine H_of_R (R_lss H fun t17 H => ?_)
  refine vl_e ?_; refine WPc_seq (fun e h => i_grow.j3 (e 5) (e 14) (e 15) (e 16) h K1 Q ∧ [e1 5, e1 14, e1 15] = [e 5, e 14, e 15]) ?_ (fun e h ⟨H, hq1⟩ => ?_)
  rotate_left
  · unfold i_grow.j3 at H
    refine WPc_seq (fun e h => i_grow.j4 (e 5) (e 14) (e 15) (e 16) h K1 Q ∧ [e1 5, e1 14, e1 15] = [e 5, e 14, e 15]) ?_ (fun e h ⟨H, hq1⟩ => ?_)
    rotate_left
    · unfold i_grow.j4 at H
      refine W_region (by kernel_rfl) ?_; refine vl_n ?_; refine H_of_R (R_add H fun t23 H => ?_)
      refine vl_n ?_; refine H_of_R (R_move (v := t23) rfl ?_)
      refine vl_e ?_; exact ⟨H, hq1⟩
    refine WPc_block ?_; refine WPc_seq' ?_; refine W_region (by kernel_rfl) ?_; refine vl_n ?_; refine H_of_R (R_idx TE_25 H fun t18 H => ?_)
    refine vl_n ?_; refine H_of_R (R_loadN TN_27 H fun _ t19 _ _ H _ _ => ?_)
    refine vl_n ?_; refine H_alloc TV_27 H fun t7 h H => ?_; refine vl_n ?_; refine H_storeN TS_27 H fun h H => ?_; refine vl_e ?_; refine W_region (by kernel_rfl) ?_; refine vl_n ?_; refine H_of_R (R_move (v := (e 5)) rfl ?_)
    refine vl_n ?_; refine H_of_R (R_loadN TN_27 H fun _ t21 _ _ H _ _ => ?_)
    refine vl_n ?_; refine H_call HB_79 H fun t22 h H => ?_; refine vl_e ?_; exact ⟨H, hq1⟩
  obtain ⟨b, hc, H1, H2⟩ := H; refine WPc_cond hc (fun hh => ?_) (fun hh => ?_)
  · have H := H1 hh; clear H1 H2
    refine WPc_skip ?_; exact ⟨H, rfl⟩
  · have H := H2 hh; clear H1 H2
    refine WPc_exit ?_; exact H
/-! ### (*pub/tidwallbtree.BTreeG[impl.Item]).DoorLeaf -/
def BTreeG_I_DoorLeaf.sh (a0 a1 : Value) (h : Heap) (Q : Value → Heap → Prop) : Prop := alloc [(.pointer none)] 88 h fun t4 h => BTreeG_I_newNode.call #[a0, (.bool true)] h fun t7 h => nilck t7 fun t10 => fld 2 t10 fun t11 => store1 t11 a1 h fun h => buildV [(.pointer none)] [(0, 1, t7)] fun t13 => storeN 1 t4 t13 h fun h => loadN 1 t4 h fun r4 => Q r4 h
theorem BTreeG_I_DoorLeaf.body (a0 a1 : Value) (h : Heap) (Q : Value → Heap → Prop) (H : BTreeG_I_DoorLeaf.sh a0 a1 h Q) : BTreeG_I_DoorLeaf.call #[a0, a1] h Q := by
  refine callsH_of (args := [a0, a1]) Try.func86 rfl rfl ?_; unfold BTreeG_I_DoorLeaf.sh at H; refine WPc_seq' ?_; refine W_region (by kernel_rfl) ?_; refine vl_n ?_; refine H_alloc TV_88 H fun t4 h H => ?_; refine vl_e ?_; refine WPc_seq' ?_; refine W_region (by kernel_rfl) ?_; refine vl_n ?_; refine H_of_R (R_move (v := a0) rfl ?_)
  refine vl_n ?_; refine H_call HB_127 H fun t7 h H => ?_; refine vl_n ?_; refine H_of_R (R_assign (v := t7) rfl ?_)
  refine vl_e ?_; refine WPc_seq' ?_; refine W_region (by kernel_rfl) ?_; refine vl_n ?_; refine H_of_R (R_move (v := t7) rfl ?_)
  refine vl_n ?_; refine H_of_R (R_move (v := a1) rfl ?_)
  refine vl_n ?_; refine H_of_R (R_nil H fun t10 H => ?_)
  refine vl_n ?_; refine H_of_R (R_fld TF_141_2 H fun t11 H => ?_)
  refine vl_n ?_; refine H_store1 TS_25 H fun h H => ?_; refine vl_e ?_; refine WPc_seq' ?_; refine W_region (by kernel_rfl) ?_; refine vl_n ?_; refine H_of_R (R_move (v := t7) rfl ?_)
  refine vl_n ?_; refine H_of_R (R_build TB_88 rfl (by decide) H fun t13 H => ?_)
  refine vl_n ?_; refine H_storeN TS_88 H fun h H => ?_; refine vl_e ?_; refine WPc_ret ?_; refine resH_of rfl ?_; refine resL_N TN_88 ?_; refine loadN_imp H fun r4 H => ?_; exact H
/-! ### (pub/tidwallbtree.DoorNode[impl.Item]).DoorUpdateCount -/
def DoorNode_I_DoorUpdateCount.sh (a0 : Value) (h : Heap) (Q : Value → Heap → Prop) : Prop := box 88 a0 h fun t1 h => fld 0 t1 fun t2 => load1 t2 h fun t3 => node_I_updateCount.call #[t3] h fun t4 h => Q (.tuple #[]) h
theorem DoorNode_I_DoorUpdateCount.body (a0 : Value) (h : Heap) (Q : Value → Heap → Prop) (H : DoorNode_I_DoorUpdateCount.sh a0 h Q) : DoorNode_I_DoorUpdateCount.call #[a0] h Q := by
  refine callsH_of (args := [a0]) Try.func87 rfl rfl ?_; unfold DoorNode_I_DoorUpdateCount.sh at H; refine WPc_seq' ?_; refine W_region (by kernel_rfl) ?_; refine vl_n ?_; refine H_box H fun t1 h H => ?_; refine vl_e ?_; refine W_region (by kernel_rfl) ?_; refine vl_n ?_; refine H_of_R (R_fld TF_88_0 H fun t2 H => ?_)
  refine vl_n ?_; refine H_of_R (R_load1 T1_86 H fun _ t3 _ _ H => ?_)
  refine vl_n ?_; refine H_call HB_128 H fun t4 h H => ?_; refine vl_e ?_; refine resH_of rfl ?_; exact H
/-! ### (*pub/tidwallbtree.BTreeG[impl.Item]).DoorInner -/
def BTreeG_I_DoorInner.sh (a0 a1 : Value) (h : Heap) (Q : Value → Heap → Prop) : Prop := alloc [(.pointer none)] 88 h fun t4 h => BTreeG_I_newNode.call #[a0, (.bool false)] h fun t7 h => nilck t7 fun t10 => fld 2 t10 fun t11 => store1 t11 a1 h fun h => buildV [(.pointer none)] [(0, 1, t7)] fun t13 => storeN 1 t4 t13 h fun h => loadN 1 t4 h fun r4 => Q r4 h
theorem BTreeG_I_DoorInner.body (a0 a1 : Value) (h : Heap) (Q : Value → Heap → Prop) (H : BTreeG_I_DoorInner.sh a0 a1 h Q) : BTreeG_I_DoorInner.call #[a0, a1] h Q := by
  refine callsH_of (args := [a0, a1]) Try.func88 rfl rfl ?_; unfold BTreeG_I_DoorInner.sh at H; refine WPc_seq' ?_; refine W_region (by kernel_rfl) ?_; refine vl_n ?_; refine H_alloc TV_88 H fun t4 h H => ?_; refine vl_e ?_; refine WPc_seq' ?_; refine W_region (by kernel_rfl) ?_; refine vl_n ?_; refine H_of_R (R_move (v := a0) rfl ?_)
  refine vl_n ?_; refine H_call HB_127 H fun t7 h H => ?_; refine vl_n ?_; refine H_of_R (R_assign (v := t7) rfl ?_)
  refine vl_e ?_; refine WPc_seq' ?_; refine W_region (by kernel_rfl) ?_; refine vl_n ?_; refine H_of_R (R_move (v := t7) rfl ?_)
  refine vl_n ?_; refine H_of_R (R_move (v := a1) rfl ?_)
  refine vl_n ?_; refine H_of_R (R_nil H fun t10 H => ?_)
  refine vl_n ?_; refine H_of_R (R_fld TF_141_2 H fun t11 H => ?_)
  refine vl_n ?_; refine H_store1 TS_25 H fun h H => ?_; refine vl_e ?_; refine WPc_seq' ?_; refine W_region (by kernel_rfl) ?_; refine vl_n ?_; refine H_of_R (R_move (v := t7) rfl ?_)
  refine vl_n ?_; refine H_of_R (R_build TB_88 rfl (by decide) H fun t13 H => ?_)
  refine vl_n ?_; refine H_storeN TS_88 H fun h H => ?_; refine vl_e ?_; refine WPc_ret ?_; refine resH_of rfl ?_; refine resL_N TN_88 ?_; refine loadN_imp H fun r4 H => ?_; exact H
/-! ### (pub/tidwallbtree.DoorNode[impl.Item]).DoorAppend -/
def DoorNode_I_DoorAppend.sh (a0 a1 : Value) (h : Heap) (Q : Value → Heap → Prop) : Prop := box 88 a0 h fun t2 h => box 88 a1 h fun t3 h => fld 0 t2 fun t4 => load1 t4 h fun t5 => nilck t5 fun t6 => fld 3 t6 fun t7 => load1 t7 h fun t8 => fld 0 t2 fun t9 => load1 t9 h fun t10 => nilck t10 fun t11 => fld 3 t11 fun t12 => load1 t12 h fun t13 => nilck t13 fun t14 => load1 t14 h fun t15 => fld 0 t3 fun t16 => load1 t16 h fun t17 => mkSl (if 1 * 1 = 0 then [] else zeros [(.pointer none)] 1) 1 [(0 * 1, 1, t17)] 86 h fun t18 h => still1 t4 t5 h ∧ still1 t7 t8 h ∧ still1 t9 t10 h ∧ still1 t12 t13 h ∧ still1 t14 t15 h ∧ app 86 1 8 [(.pointer none)] t15 t18 h fun t19 h => still1 t4 t5 h ∧ still1 t7 t8 h ∧ nilck t8 fun t20 => store1 t20 t19 h fun h => Q (.tuple #[]) h
theorem DoorNode_I_DoorAppend.body (a0 a1 : Value) (h : Heap) (Q : Value → Heap → Prop) (H : DoorNode_I_DoorAppend.sh a0 a1 h Q) : DoorNode_I_DoorAppend.call #[a0, a1] h Q := by
  refine callsH_of (args := [a0, a1]) Try.func89 rfl rfl ?_; unfold DoorNode_I_DoorAppend.sh at H; refine WPc_seq' ?_; refine W_region (by kernel_rfl) ?_; refine vl_n ?_; refine H_box H fun t2 h H => ?_; refine vl_n ?_; refine H_box H fun t3 h H => ?_; refine vl_e ?_; refine W_drawn [0, 1, 3, 7, 15, 0, 32, 96, 224, 480, 992, 2016, 0, 4096, 12288, 32736, 65535, 131071] (.take 0 (.take 1 (.take 2 (.take 3 (.take 4 (.take 5 (.take 6 (.take 7 (.take 8 (.take 9 (.take 10 (.take 11 (.take 12 (.take 13 (.alt 14 (.alt 15 (.take 16 (.alt 17 .done .none)) .none) .none))))))))))))))) mixed (by kernel_rfl) ?_; refine tkP rfl ?_; refine R_fld TF_88_0 H fun t4 H => ⟨fun _ => trivial, ?_⟩
  refine tkL rfl ?_; refine R_load1 T1_86 H fun at5 t5 hat5 _ H => ?_; refine tkP rfl ?_; refine R_nil H fun t6 H => ⟨fun _ => trivial, ?_⟩
  refine tkP rfl ?_; refine R_fld TF_141_3 H fun t7 H => ⟨fun _ => trivial, ?_⟩
  refine tkL rfl ?_; refine R_load1 T1_139 H fun at8 t8 hat8 _ H => ?_; refine tkP rfl ?_; refine R_fld TF_88_0 H fun t9 H => ⟨fun _ => trivial, ?_⟩
  refine tkL rfl ?_; refine R_load1 T1_86 H fun at10 t10 hat10 _ H => ?_; refine tkP rfl ?_; refine R_nil H fun t11 H => ⟨fun _ => trivial, ?_⟩
  refine tkP rfl ?_; refine R_fld TF_141_3 H fun t12 H => ⟨fun _ => trivial, ?_⟩
  refine tkL rfl ?_; refine R_load1 T1_139 H fun at13 t13 hat13 _ H => ?_; refine tkP rfl ?_; refine R_nil H fun t14 H => ⟨fun _ => trivial, ?_⟩
  refine tkL rfl ?_; refine R_load1 T1_138 H fun at15 t15 hat15 _ H => ?_; refine tkP rfl ?_; refine R_fld TF_88_0 H fun t16 H => ⟨fun _ => trivial, ?_⟩
  refine tkL rfl ?_; refine R_load1 T1_86 H fun at17 t17 hat17 _ H => ?_; refine alt_n rfl ?_ vp_none
  refine H_mkSl TZ_138 (by decide) rfl H rfl fun t18 h ⟨S, S_2, S_3, S_4, S_5, H⟩ => ⟨(hskip rfl (hcons rfl (still_1 S_5 hat15) (hcons rfl (still_1 S_4 hat13) (hcons rfl (still_1 S_3 hat10) (hcons rfl (still_1 S_2 hat8) (hcons rfl (still_1 S hat5) hnil)))))), ?_⟩
  refine alt_n rfl ?_ vp_none
  refine H_app TZ_138 TU_138 H fun t19 h ⟨S_6, S_7, H⟩ => ⟨(hskip rfl (hskip rfl (hskip rfl (hcons rfl (still_1 S_7 hat8) (hcons rfl (still_1 S_6 hat5) hnil))))), ?_⟩
  refine tkP rfl ?_; refine R_nil H fun t20 H => ⟨fun _ => trivial, ?_⟩
  refine alt_n rfl ?_ vp_none
  refine H_store1 TS_138 H fun h H => ⟨(hskip rfl (hskip rfl hnil)), ?_⟩
  refine vp_done ?_; refine resH_of rfl ?_; exact H
end Go.Proofs.Ytljecmjdmdjldaa
end
section
namespace Go.Proofs.Ytljecmjdmdjldaa
open Go.Hp
set_option maxRecDepth 100000
set_option maxHeartbeats 8000000
/-! ### impl.planted -/
def i_planted.j2 (s4 s7 : Value) (h : Heap) (Q : Value → Heap → Prop) : Prop := loadN 1 s7 h fun t39 => DoorNode_I_DoorUpdateCount.call #[t39] h fun t40 h => loadN 1 s7 h fun t41 => storeN 1 s4 t41 h fun h => loadN 1 s4 h fun r4 => Q r4 h
def i_planted.j5 (s0 s4 s7 s27 s28 s29 : Value) (h : Heap) (K1 : List Value → Heap → Prop) (Q : Value → Heap → Prop) : Prop := arith (· + ·) s29 (.int .i64 1) fun t38 => K1 [t38] h
def i_planted.j4 (s0 s4 s7 s27 s28 s29 : Value) (h : Heap) (K1 : List Value → Heap → Prop) (Q : Value → Heap → Prop) : Prop := idx 3 s27 s29 fun t31 => loadN 3 t31 h fun t32 => alloc [(.slice none 0 0), (.slice none 0 0), (.int .i64 0)] 37 h fun t9 h => storeN 3 t9 t32 h fun h => loadN 1 s7 h fun t33 => loadN 3 t9 h fun t35 => i_planted.call #[s0, t35] h fun t36 h => stillN 1 s7 t33 h ∧ DoorNode_I_DoorAppend.call #[t33, t36] h fun t37 h => i_planted.j5 s0 s4 s7 s27 s28 s29 h K1 Q
def i_planted.l3.b (c0 c4 c7 c27 c28 s29 : Value) (h : Heap) (K1 : List Value → Heap → Prop) (Q : Value → Heap → Prop) : Prop := cmpI (fun a b => decide (a < b)) s29 c28 fun t30 => ifV t30 (i_planted.j4 c0 c4 c7 c27 c28 s29 h K1 Q) (i_planted.j2 c4 c7 h Q)
def i_planted.j1 (s0 s3 s4 s5 : Value) (h : Heap) (Q : Value → Heap → Prop) : Prop := BTreeG_I_DoorInner.call #[s0, s5] h fun t25 h => alloc [(.pointer none)] 88 h fun t7 h => storeN 1 t7 t25 h fun h => fld 1 s3 fun t26 => load1 t26 h fun t27 => lenV t27 fun t28 => loopC (fun c s h K1 => i_planted.l3.b (c.getD 0 undef) (c.getD 1 undef) (c.getD 2 undef) (c.getD 3 undef) (c.getD 4 undef) (s.getD 0 undef) h K1 Q) [s0, s4, t7, t27, t28] [(.int .i64 0)] h
def i_planted.sh (a0 a1 : Value) (h : Heap) (Q : Value → Heap → Prop) : Prop := box 37 a1 h fun t3 h => alloc [(.pointer none)] 88 h fun t4 h => fld 0 t3 fun t10 => load1 t10 h fun t11 => app 27 2 16 [(.int .i64 0), (.int .i64 0)] (.slice none 0 0) t11 h fun t12 h => fld 1 t3 fun t13 => load1 t13 h fun t14 => lenV t14 fun t15 => cmpI (fun a b => a == b) t15 (.int .i64 0) fun t16 => ifV t16 (BTreeG_I_DoorLeaf.call #[a0, t12] h fun t19 h => alloc [(.pointer none)] 88 h fun t6 h => storeN 1 t6 t19 h fun h => loadN 1 t6 h fun t20 => DoorNode_I_DoorUpdateCount.call #[t20] h fun t21 h => loadN 1 t6 h fun t22 => storeN 1 t4 t22 h fun h => loadN 1 t4 h fun r4 => Q r4 h) (i_planted.j1 a0 t3 t4 t12 h Q)
theorem i_planted.body (a0 a1 : Value) (h : Heap) (Q : Value → Heap → Prop) (H : i_planted.sh a0 a1 h Q) : i_planted.call #[a0, a1] h Q := by
  refine callsH_of (args := [a0, a1]) Try.func52 rfl rfl ?_; unfold i_planted.sh at H; refine WPc_seq' ?_; refine W_region (by kernel_rfl) ?_; refine vl_n ?_; refine H_box H fun t3 h H => ?_; refine vl_n ?_; refine H_alloc TV_88 H fun t4 h H => ?_; refine vl_e ?_; refine WPc_seq' ?_; refine W_region (by kernel_rfl) ?_; refine vl_n ?_; refine H_of_R (R_fld TF_37_0 H fun t10 H => ?_)
  refine vl_n ?_; refine H_of_R (R_load1 T1_25 H fun _ t11 _ _ H => ?_)
  refine vl_n ?_; refine H_app TZ_25 TU_25 H fun t12 h H => ?_; refine vl_n ?_; refine H_of_R (R_assign (v := t12) rfl ?_)
  refine vl_e ?_; refine WPc_seq (fun e h => i_planted.j1 (e 0) (e 3) (e 4) (e 5) h Q) ?_ (fun e h H => ?_)
  rotate_left
  · unfold i_planted.j1 at H
    refine WPc_seq' ?_; refine W_region (by kernel_rfl) ?_; refine vl_n ?_; refine H_of_R (R_move (v := (e 0)) rfl ?_)
    refine vl_n ?_; refine H_of_R (R_move (v := (e 5)) rfl ?_)
    refine vl_n ?_; refine H_call HB_88 H fun t25 h H => ?_; refine vl_n ?_; refine H_alloc TV_88 H fun t7 h H => ?_; refine vl_n ?_; refine H_storeN TS_88 H fun h H => ?_; refine vl_e ?_; refine WPc_seq (fun e h => i_planted.j2 (e 4) (e 7) h Q) ?_ (fun e h H => ?_)
    rotate_left
    · unfold i_planted.j2 at H
      refine WPc_seq' ?_; refine W_region (by kernel_rfl) ?_; refine vl_n ?_; refine H_of_R (R_loadN TN_88 H fun _ t39 _ _ H _ _ => ?_)
      refine vl_n ?_; refine H_call HB_87 H fun t40 h H => ?_; refine vl_e ?_; refine WPc_seq' ?_; refine W_region (by kernel_rfl) ?_; refine vl_n ?_; refine H_of_R (R_loadN TN_88 H fun _ t41 _ _ H _ _ => ?_)
      refine vl_n ?_; refine H_storeN TS_88 H fun h H => ?_; refine vl_e ?_; refine WPc_ret ?_; refine resH_of rfl ?_; refine resL_N TN_88 ?_; refine loadN_imp H fun r4 H => ?_; exact H
    refine WPc_seq' ?_; refine W_region (by kernel_rfl) ?_; refine vl_n ?_; refine H_of_R (R_fld TF_37_1 H fun t26 H => ?_)
    refine vl_n ?_; refine H_of_R (R_load1 T1_35 H fun _ t27 _ _ H => ?_)
    refine vl_n ?_; refine H_of_R (R_len Try.underlying35 H fun t28 H => ?_)
    refine vl_n ?_; refine H_of_R (R_move (v := (.int .i64 0)) rfl ?_)
    refine vl_e ?_; refine WPc_block ?_; refine loop_at (fun e => [e 29]) (fun e => [e 0, e 4, e 7, e 27, e 28]) H rfl rfl ?_; intro K1 e1 h H hin1
    replace H : i_planted.l3.b (e1 0) (e1 4) (e1 7) (e1 27) (e1 28) (e1 29) h K1 Q := H
    unfold i_planted.l3.b at H; clear hin1; refine WPc_seq' ?_; refine W_region (by kernel_rfl) ?_; refine vl_n ?_; refine H_of_R (R_lss H fun t30 H => ?_)
    refine vl_e ?_; refine WPc_seq (fun e h => i_planted.j4 (e 0) (e 4) (e 7) (e 27) (e 28) (e 29) h K1 Q ∧ [e1 0, e1 4, e1 7, e1 27, e1 28] = [e 0, e 4, e 7, e 27, e 28]) ?_ (fun e h ⟨H, hq1⟩ => ?_)
    rotate_left
    · unfold i_planted.j4 at H
      refine WPc_seq (fun e h => i_planted.j5 (e 0) (e 4) (e 7) (e 27) (e 28) (e 29) h K1 Q ∧ [e1 0, e1 4, e1 7, e1 27, e1 28] = [e 0, e 4, e 7, e 27, e 28]) ?_ (fun e h ⟨H, hq1⟩ => ?_)
      rotate_left
      · unfold i_planted.j5 at H
        refine W_region (by kernel_rfl) ?_; refine vl_n ?_; refine H_of_R (R_add H fun t38 H => ?_)
        refine vl_n ?_; refine H_of_R (R_move (v := t38) rfl ?_)
        refine vl_e ?_; exact ⟨H, hq1⟩
      refine WPc_block ?_; refine WPc_seq' ?_; refine W_region (by kernel_rfl) ?_; refine vl_n ?_; refine H_of_R (R_idx TE_35 H fun t31 H => ?_)
      refine vl_n ?_; refine H_of_R (R_loadN TN_37 H fun _ t32 _ _ H _ _ => ?_)
      refine vl_n ?_; refine H_alloc TV_37 H fun t9 h H => ?_; refine vl_n ?_; refine H_storeN TS_37 H fun h H => ?_; refine vl_e ?_; refine W_drawn [0, 0, 0, 6, 15] (.take 0 (.take 1 (.take 2 (.alt 3 (.alt 4 .done .none) .none)))) mixed (by kernel_rfl) ?_; refine tkL rfl ?_; refine R_loadN TN_88 H fun at33 xt33 hat33 _ H St33 hSt33 => ?_; refine tkP rfl ?_; refine R_move (v := (e 0)) rfl ⟨fun _ => trivial, ?_⟩
      refine tkL rfl ?_; refine R_loadN TN_37 H fun at35 xt35 hat35 _ H St35 hSt35 => ?_; refine alt_n rfl ?_ vp_none
      refine H_call HB_52 H fun t36 h ⟨S, H⟩ => ⟨(hskip rfl (hcons rfl (hSt33 _ (still_N S hat33 rfl)) hnil)), ?_⟩
      refine alt_n rfl ?_ vp_none
      refine H_call HB_89 H fun t37 h H => ⟨(hskip rfl hnil), ?_⟩
      refine vp_done ?_; exact ⟨H, hq1⟩
    obtain ⟨b, hc, H1, H2⟩ := H; refine WPc_cond hc (fun hh => ?_) (fun hh => ?_)
    · have H := H1 hh; clear H1 H2
      refine WPc_skip ?_; exact ⟨H, rfl⟩
    · have H := H2 hh; clear H1 H2
      refine WPc_exit ?_; exact H
  refine WPc_seq' ?_; refine W_region (by kernel_rfl) ?_; refine vl_n ?_; refine H_of_R (R_fld TF_37_1 H fun t13 H => ?_)
  refine vl_n ?_; refine H_of_R (R_load1 T1_35 H fun _ t14 _ _ H => ?_)
  refine vl_n ?_; refine H_of_R (R_len Try.underlying35 H fun t15 H => ?_)
  refine vl_n ?_; refine H_of_R (R_eqI H fun t16 H => ?_)
  refine vl_e ?_; obtain ⟨b, hc, H1, H2⟩ := H; refine WPc_cond hc (fun hh => ?_) (fun hh => ?_)
  · have H := H1 hh; clear H1 H2
    refine WPc_seq' ?_; refine W_region (by kernel_rfl) ?_; refine vl_n ?_; refine H_of_R (R_move (v := a0) rfl ?_)
    refine vl_n ?_; refine H_of_R (R_move (v := t12) rfl ?_)
    refine vl_n ?_; refine H_call HB_86 H fun t19 h H => ?_; refine vl_n ?_; refine H_alloc TV_88 H fun t6 h H => ?_; refine vl_n ?_; refine H_storeN TS_88 H fun h H => ?_; refine vl_e ?_; refine WPc_seq' ?_; refine W_region (by kernel_rfl) ?_; refine vl_n ?_; refine H_of_R (R_loadN TN_88 H fun _ t20 _ _ H _ _ => ?_)
    refine vl_n ?_; refine H_call HB_87 H fun t21 h H => ?_; refine vl_e ?_; refine WPc_seq' ?_; refine W_region (by kernel_rfl) ?_; refine vl_n ?_; refine H_of_R (R_loadN TN_88 H fun _ t22 _ _ H _ _ => ?_)
    refine vl_n ?_; refine H_storeN TS_88 H fun h H => ?_; refine vl_e ?_; refine WPc_ret ?_; refine resH_of rfl ?_; refine resL_N TN_88 ?_; refine loadN_imp H fun r4 H => ?_; exact H
  · have H := H2 hh; clear H1 H2
    refine WPc_skip ?_; exact H
/-! ### laws.exMake -/
def l_exMake.sh (h : Heap) (Q : Value → Heap → Prop) : Prop := alloc [(.slice none 0 0), (.int .i64 0), (.bool false)] 24 h fun t0 h => buildV [(.slice none 0 0), (.int .i64 0), (.bool false)] [(1, 1, (.int .i64 2))] fun t1 => storeN 3 t0 t1 h fun h => loadN 3 t0 h fun r0 => Q r0 h
theorem l_exMake.body (h : Heap) (Q : Value → Heap → Prop) (H : l_exMake.sh h Q) : l_exMake.call #[] h Q := by
  refine callsH_of (args := []) Try.func49 rfl rfl ?_; unfold l_exMake.sh at H; refine WPc_seq' ?_; refine W_region (by kernel_rfl) ?_; refine vl_n ?_; refine H_alloc TV_24 H fun t0 h H => ?_; refine vl_e ?_; refine WPc_seq' ?_; refine W_region (by kernel_rfl) ?_; refine vl_n ?_; refine H_of_R (R_build TB_24 rfl (by decide) H fun t1 H => ?_)
  refine vl_n ?_; refine H_storeN TS_24 H fun h H => ?_; refine vl_e ?_; refine WPc_ret ?_; refine resH_of rfl ?_; refine resL_N TN_24 ?_; refine loadN_imp H fun r0 H => ?_; exact H
/-! ### spec.Place -/
def s_Place.j1 (s0 s1 s5 s8 : Value) (h : Heap) (Q : Value → Heap → Prop) : Prop := lenV s1 fun t27 => cmpI (fun a b => decide (a < b)) s8 t27 fun t28 => br t28 true (loadN 2 s5 h fun t31 => idx 2 s1 s8 fun t34 => loadN 2 t34 h fun t35 => s_Before.call #[s0, t31, t35] h fun t36 h => notV t36 fun t37 => Q (.tuple #[s8, t37]) h) (Q (.tuple #[s8, (.bool false)]) h)
def s_Place.j3 (s0 s1 s5 s8 : Value) (h : Heap) (K1 : List Value → Heap → Prop) (Q : Value → Heap → Prop) : Prop := arith (· + ·) s8 (.int .i64 1) fun t23 => K1 [t23] h
def s_Place.l2.b (c0 c1 c5 s8 : Value) (h : Heap) (K1 : List Value → Heap → Prop) (Q : Value → Heap → Prop) : Prop := lenV c1 fun t11 => cmpI (fun a b => decide (a < b)) s8 t11 fun t12 => br t12 true (idx 2 c1 s8 fun t17 => loadN 2 t17 h fun t18 => loadN 2 c5 h fun t19 => s_Before.call #[c0, t18, t19] h fun t20 h => ifV t20 (s_Place.j3 c0 c1 c5 s8 h K1 Q) (s_Place.j1 c0 c1 c5 s8 h Q)) (s_Place.j1 c0 c1 c5 s8 h Q)
def s_Place.sh (a0 a1 a2 : Value) (h : Heap) (Q : Value → Heap → Prop) : Prop := box 27 a2 h fun t5 h => loopC (fun c s h K1 => s_Place.l2.b (c.getD 0 undef) (c.getD 1 undef) (c.getD 2 undef) (s.getD 0 undef) h K1 Q) [a0, a1, t5] [(.int .i64 0)] h
theorem s_Place.body (a0 a1 a2 : Value) (h : Heap) (Q : Value → Heap → Prop) (H : s_Place.sh a0 a1 a2 h Q) : s_Place.call #[a0, a1, a2] h Q := by
  refine callsH_of (args := [a0, a1, a2]) Try.func18 rfl rfl ?_; unfold s_Place.sh at H; refine WPc_seq' ?_; refine W_region (by kernel_rfl) ?_; refine vl_n ?_; refine H_box H fun t5 h H => ?_; refine vl_n ?_; refine H_of_R (R_assign (v := (.int .i64 0)) rfl ?_)
  refine vl_n ?_; refine H_of_R (R_assign (v := (.bool false)) rfl ?_)
  refine vl_e ?_; refine WPc_seq' ?_; refine W_region (by kernel_rfl) ?_; refine vl_n ?_; refine H_of_R (R_assign (v := (.int .i64 0)) rfl ?_)
  refine vl_e ?_; refine WPc_seq (fun e h => s_Place.j1 (e 0) (e 1) (e 5) (e 8) h Q) ?_ (fun e h H => ?_)
  rotate_left
  · unfold s_Place.j1 at H
    refine WPc_seq' ?_; refine W_drawn [0, 0, 0, 4, 14, 30, 62, 62, 62, 62, 830, 1854, 4094, 8190, 16382, 8191, 65535] (.take 0 (.take 1 (.take 2 (.take 3 (.take 4 (.take 5 (.take 6 (.take 7 (.take 8 (.take 9 (.take 10 (.take 11 (.alt 12 (.take 13 (.take 14 (.take 15 (.take 16 .done)))) .none))))))))))))) mixed (by kernel_rfl) ?_; refine tkP rfl ?_; refine R_move (v := (e 8)) rfl ⟨fun _ => trivial, ?_⟩
    refine tkP rfl ?_; refine R_move (v := (e 8)) rfl ⟨fun _ => trivial, ?_⟩
    refine tkP rfl ?_; refine R_move (v := (e 1)) rfl ⟨fun _ => trivial, ?_⟩
    refine tkP rfl ?_; refine R_len Try.underlying25 H fun t27 H => ⟨fun _ => trivial, ?_⟩
    refine tkP rfl ?_; refine R_lss H fun t28 H => ⟨fun _ => trivial, ?_⟩
    refine tkP rfl ?_; refine R_move (v := t28) rfl ⟨fun _ => trivial, ?_⟩
    obtain ⟨b, hb, H1, H2⟩ := H
    cases b
    · have H := H2 rfl; clear H1 H2
      refine tk_s rfl rfl (nbT hb) ?_; refine tk_s rfl rfl (nbT hb) ?_; refine tk_s rfl rfl (nbT hb) ?_; refine tk_s rfl rfl (nbT hb) ?_; refine tk_s rfl rfl (nbT hb) ?_; refine tk_s rfl rfl (nbT hb) ?_; refine alt_s rfl rfl (nbT hb) ?_ vp_none
      refine tk_s rfl rfl (nbT hb) ?_; refine tkP rfl ?_; refine R_pickC (v := (.bool false)) false hb rfl ⟨fun _ => trivial, ?_⟩
      refine tkP rfl ?_; refine R_assign (v := (e 8)) rfl ⟨fun _ => trivial, ?_⟩
      refine tkP rfl ?_; refine R_assign (v := (.bool false)) rfl ⟨fun _ => trivial, ?_⟩
      refine vp_done ?_; refine WPc_ret ?_; refine resH_of rfl ?_; exact H
    · have H := H1 rfl; clear H1 H2
      refine tkPy rfl rfl hb ?_; refine R_move (v := (e 0)) rfl ⟨fun _ => trivial, ?_⟩
      refine tkLy rfl rfl hb ?_; refine R_loadN TN_27 H fun at31 xt31 hat31 _ H St31 hSt31 => ?_; refine tkPy rfl rfl hb ?_; refine R_move (v := (e 1)) rfl ⟨fun _ => trivial, ?_⟩
      refine tkPy rfl rfl hb ?_; refine R_move (v := (e 8)) rfl ⟨fun _ => trivial, ?_⟩
      refine tkPy rfl rfl hb ?_; refine R_idx TE_25 H fun t34 H => ⟨fun _ => trivial, ?_⟩
      refine tkLy rfl rfl hb ?_; refine R_loadN TN_27 H fun at35 xt35 hat35 _ H St35 hSt35 => ?_; refine alt_y rfl rfl hb ?_ vp_none
      refine H_call HB_48 H fun t36 h H => ⟨(hskip rfl (hskip rfl hnil)), ?_⟩
      refine tkPy rfl rfl hb ?_; refine R_not H fun t37 H => ⟨fun _ => trivial, ?_⟩
      refine tkP rfl ?_; refine R_pickC (v := t37) true hb rfl ⟨fun _ => trivial, ?_⟩
      refine tkP rfl ?_; refine R_assign (v := (e 8)) rfl ⟨fun _ => trivial, ?_⟩
      refine tkP rfl ?_; refine R_assign (v := t37) rfl ⟨fun _ => trivial, ?_⟩
      refine vp_done ?_; refine WPc_ret ?_; refine resH_of rfl ?_; exact H
  refine WPc_block ?_; refine loop_at (fun e => [e 8]) (fun e => [e 0, e 1, e 5]) H rfl rfl ?_; intro K1 e1 h H hin1
  replace H : s_Place.l2.b (e1 0) (e1 1) (e1 5) (e1 8) h K1 Q := H
  unfold s_Place.l2.b at H; clear hin1; refine WPc_seq (fun e h => s_Place.j3 (e 0) (e 1) (e 5) (e 8) h K1 Q ∧ [e1 0, e1 1, e1 5] = [e 0, e 1, e 5]) ?_ (fun e h ⟨H, hq1⟩ => ?_)
  rotate_left
  · unfold s_Place.j3 at H
    refine WPc_block ?_; refine W_region (by kernel_rfl) ?_; refine vl_n ?_; refine H_of_R (R_move (v := (e 8)) rfl ?_)
    refine vl_n ?_; refine H_of_R (R_add H fun t23 H => ?_)
    refine vl_n ?_; refine H_of_R (R_assign (v := t23) rfl ?_)
    refine vl_e ?_; exact ⟨H, hq1⟩
  refine WPc_seq' ?_; refine W_drawn [0, 0, 2, 7, 15, 31, 31, 31, 223, 479, 31, 2047, 4095] (.take 0 (.take 1 (.take 2 (.take 3 (.take 4 (.take 5 (.take 6 (.take 7 (.take 8 (.take 9 (.take 10 (.alt 11 (.take 12 .done) .none)))))))))))) mixed (by kernel_rfl) ?_; refine tkP rfl ?_; refine R_move (v := (e1 8)) rfl ⟨fun _ => trivial, ?_⟩
  refine tkP rfl ?_; refine R_move (v := (e1 1)) rfl ⟨fun _ => trivial, ?_⟩
  refine tkP rfl ?_; refine R_len Try.underlying25 H fun t11 H => ⟨fun _ => trivial, ?_⟩
  refine tkP rfl ?_; refine R_lss H fun t12 H => ⟨fun _ => trivial, ?_⟩
  refine tkP rfl ?_; refine R_move (v := t12) rfl ⟨fun _ => trivial, ?_⟩
  obtain ⟨b, hb, H1, H2⟩ := H
  cases b
  · have H := H2 rfl; clear H1 H2
    refine tk_s rfl rfl (nbT hb) ?_; refine tk_s rfl rfl (nbT hb) ?_; refine tk_s rfl rfl (nbT hb) ?_; refine tk_s rfl rfl (nbT hb) ?_; refine tk_s rfl rfl (nbT hb) ?_; refine tk_s rfl rfl (nbT hb) ?_; refine alt_s rfl rfl (nbT hb) ?_ vp_none
    refine tkP rfl ?_; refine R_pickC (v := (.bool false)) false hb rfl ⟨fun _ => trivial, ?_⟩
    refine vp_done ?_; refine WPc_cond (t := false) rfl (fun hh => by cases hh) (fun _ => ?_)
    refine WPc_exit ?_; exact H
  · have H := H1 rfl; clear H1 H2
    refine tkPy rfl rfl hb ?_; refine R_move (v := (e1 0)) rfl ⟨fun _ => trivial, ?_⟩
    refine tkPy rfl rfl hb ?_; refine R_move (v := (e1 1)) rfl ⟨fun _ => trivial, ?_⟩
    refine tkPy rfl rfl hb ?_; refine R_move (v := (e1 8)) rfl ⟨fun _ => trivial, ?_⟩
    refine tkPy rfl rfl hb ?_; refine R_idx TE_25 H fun t17 H => ⟨fun _ => trivial, ?_⟩
    refine tkLy rfl rfl hb ?_; refine R_loadN TN_27 H fun at18 xt18 hat18 _ H St18 hSt18 => ?_; refine tkLy rfl rfl hb ?_; refine R_loadN TN_27 H fun at19 xt19 hat19 _ H St19 hSt19 => ?_; refine alt_y rfl rfl hb ?_ vp_none
    refine H_call HB_48 H fun t20 h H => ⟨(hskip rfl (hskip rfl hnil)), ?_⟩
    refine tkP rfl ?_; refine R_pickC (v := t20) true hb rfl ⟨fun _ => trivial, ?_⟩
    refine vp_done ?_; obtain ⟨b_2, hc, H1, H2⟩ := H; refine WPc_cond hc (fun hh => ?_) (fun hh => ?_)
    · have H := H1 hh; clear H1 H2
      refine WPc_skip ?_; exact ⟨H, rfl⟩
    · have H := H2 hh; clear H1 H2
      refine WPc_exit ?_; exact H
/-! ### laws.zzFits3 -/
def l_zzFits3.j2 (h : Heap) (Q : Value → Heap → Prop) : Prop := Q (.bool true) h
def l_zzFits3.j1 (s1 : Value) (h : Heap) (Q : Value → Heap → Prop) : Prop := fld 1 s1 fun t7 => load1 t7 h fun t8 => lenV t8 fun t9 => cmpI (fun a b => decide (a > b)) t9 (.int .i64 2147483647) fun t10 => ifV t10 (Q (.bool false) h) (l_zzFits3.j2 h Q)
def l_zzFits3.sh (a0 : Value) (h : Heap) (Q : Value → Heap → Prop) : Prop := box 37 a0 h fun t1 h => fld 0 t1 fun t3 => load1 t3 h fun t4 => lenV t4 fun t5 => cmpI (fun a b => decide (a > b)) t5 (.int .i64 2147483647) fun t6 => ifV t6 (Q (.bool false) h) (l_zzFits3.j1 t1 h Q)
theorem l_zzFits3.body (a0 : Value) (h : Heap) (Q : Value → Heap → Prop) (H : l_zzFits3.sh a0 h Q) : l_zzFits3.call #[a0] h Q := by
  refine callsH_of (args := [a0]) Try.func19 rfl rfl ?_; unfold l_zzFits3.sh at H; refine WPc_seq' ?_; refine W_region (by kernel_rfl) ?_; refine vl_n ?_; refine H_box H fun t1 h H => ?_; refine vl_n ?_; refine H_of_R (R_assign (v := (.bool false)) rfl ?_)
  refine vl_e ?_; refine WPc_seq (fun e h => l_zzFits3.j1 (e 1) h Q) ?_ (fun e h H => ?_)
  rotate_left
  · unfold l_zzFits3.j1 at H
    refine WPc_seq (fun e h => l_zzFits3.j2 h Q) ?_ (fun e h H => ?_)
    rotate_left
    · unfold l_zzFits3.j2 at H
      refine WPc_seq' ?_; refine W_region (by kernel_rfl) ?_; refine vl_n ?_; refine H_of_R (R_assign (v := (.bool true)) rfl ?_)
      refine vl_e ?_; refine WPc_ret ?_; refine resH_of rfl ?_; exact H
    refine WPc_seq' ?_; refine W_region (by kernel_rfl) ?_; refine vl_n ?_; refine H_of_R (R_fld TF_37_1 H fun t7 H => ?_)
    refine vl_n ?_; refine H_of_R (R_load1 T1_35 H fun _ t8 _ _ H => ?_)
    refine vl_n ?_; refine H_of_R (R_len Try.underlying35 H fun t9 H => ?_)
    refine vl_n ?_; refine H_of_R (R_gtr H fun t10 H => ?_)
    refine vl_e ?_; obtain ⟨b, hc, H1, H2⟩ := H; refine WPc_cond hc (fun hh => ?_) (fun hh => ?_)
    · have H := H1 hh; clear H1 H2
      refine WPc_seq' ?_; refine W_region (by kernel_rfl) ?_; refine vl_n ?_; refine H_of_R (R_assign (v := (.bool false)) rfl ?_)
      refine vl_e ?_; refine WPc_ret ?_; refine resH_of rfl ?_; exact H
    · have H := H2 hh; clear H1 H2
      refine WPc_skip ?_; exact H
  refine WPc_seq' ?_; refine W_region (by kernel_rfl) ?_; refine vl_n ?_; refine H_of_R (R_fld TF_37_0 H fun t3 H => ?_)
  refine vl_n ?_; refine H_of_R (R_load1 T1_25 H fun _ t4 _ _ H => ?_)
  refine vl_n ?_; refine H_of_R (R_len Try.underlying25 H fun t5 H => ?_)
  refine vl_n ?_; refine H_of_R (R_gtr H fun t6 H => ?_)
  refine vl_e ?_; obtain ⟨b, hc, H1, H2⟩ := H; refine WPc_cond hc (fun hh => ?_) (fun hh => ?_)
  · have H := H1 hh; clear H1 H2
    refine WPc_seq' ?_; refine W_region (by kernel_rfl) ?_; refine vl_n ?_; refine H_of_R (R_assign (v := (.bool false)) rfl ?_)
    refine vl_e ?_; refine WPc_ret ?_; refine resH_of rfl ?_; exact H
  · have H := H2 hh; clear H1 H2
    refine WPc_skip ?_; exact H
end Go.Proofs.Ytljecmjdmdjldaa
end
section
namespace Go.Proofs.Ytljecmjdmdjldaa
open Go.Hp
set_option maxRecDepth 100000
set_option maxHeartbeats 8000000
/-! ### spec.NodeItems -/
def s_NodeItems.j1 (s3 : Value) (h : Heap) (Q : Value → Heap → Prop) : Prop := Q s3 h
def s_NodeItems.j4 (s1 s3 s11 s12 : Value) (h : Heap) (K1 : List Value → Heap → Prop) (Q : Value → Heap → Prop) : Prop := arith (· + ·) s12 (.int .i64 1) fun t41 => K1 [s3, t41] h
def s_NodeItems.j5 (s1 s3 s4 s11 s12 : Value) (h : Heap) (K1 : List Value → Heap → Prop) (Q : Value → Heap → Prop) : Prop := fld 0 s1 fun t29 => load1 t29 h fun t30 => lenV t30 fun t31 => cmpI (fun a b => decide (a < b)) s4 t31 fun t32 => ifV t32 (fld 0 s1 fun t34 => load1 t34 h fun t35 => idx 2 t35 s4 fun t37 => loadN 2 t37 h fun t38 => mkSl (if 1 * 2 = 0 then [] else zeros [(.int .i64 0), (.int .i64 0)] 1) 1 [(0 * 2, 2, t38)] 27 h fun t39 h => app 27 2 16 [(.int .i64 0), (.int .i64 0)] s3 t39 h fun t40 h => s_NodeItems.j4 s1 t40 s11 s12 h K1 Q) (s_NodeItems.j4 s1 s3 s11 s12 h K1 Q)
def s_NodeItems.j3 (s1 s3 s11 s12 : Value) (h : Heap) (K1 : List Value → Heap → Prop) (Q : Value → Heap → Prop) : Prop := fld 1 s1 fun t16 => load1 t16 h fun t17 => lenV t17 fun t18 => cmpI (fun a b => decide (a < b)) s12 t18 fun t19 => ifV t19 (fld 1 s1 fun t21 => load1 t21 h fun t22 => idx 3 t22 s12 fun t24 => loadN 3 t24 h fun t25 => s_NodeItems.call #[t25] h fun t26 h => app 27 2 16 [(.int .i64 0), (.int .i64 0)] s3 t26 h fun t27 h => s_NodeItems.j5 s1 t27 s12 s11 s12 h K1 Q) (s_NodeItems.j5 s1 s3 s12 s11 s12 h K1 Q)
def s_NodeItems.l2.b (c1 c11 s3 s12 : Value) (h : Heap) (K1 : List Value → Heap → Prop) (Q : Value → Heap → Prop) : Prop := cmpI (fun a b => decide (a < b)) s12 c11 fun t13 => ifV t13 (s_NodeItems.j3 c1 s3 c11 s12 h K1 Q) (s_NodeItems.j1 s3 h Q)
def s_NodeItems.sh (a0 : Value) (h : Heap) (Q : Value → Heap → Prop) : Prop := box 37 a0 h fun t1 h => fld 1 t1 fun t5 => load1 t5 h fun t6 => lenV t6 fun t7 => fld 0 t1 fun t8 => load1 t8 h fun t9 => lenV t9 fun t10 => max2V t7 t10 fun t11 => loopC (fun c s h K1 => s_NodeItems.l2.b (c.getD 0 undef) (c.getD 1 undef) (s.getD 0 undef) (s.getD 1 undef) h K1 Q) [t1, t11] [(.slice none 0 0), (.int .i64 0)] h
theorem s_NodeItems.body (a0 : Value) (h : Heap) (Q : Value → Heap → Prop) (H : s_NodeItems.sh a0 h Q) : s_NodeItems.call #[a0] h Q := by
  refine callsH_of (args := [a0]) Try.func22 rfl rfl ?_; unfold s_NodeItems.sh at H; refine WPc_seq' ?_; refine W_region (by kernel_rfl) ?_; refine vl_n ?_; refine H_box H fun t1 h H => ?_; refine vl_n ?_; refine H_of_R (R_assign (v := (.slice none 0 0)) rfl ?_)
  refine vl_e ?_; refine WPc_seq' ?_; refine W_region (by kernel_rfl) ?_; refine vl_n ?_; refine H_of_R (R_assign (v := (.slice none 0 0)) rfl ?_)
  refine vl_e ?_; refine WPc_seq (fun e h => s_NodeItems.j1 (e 3) h Q) ?_ (fun e h H => ?_)
  rotate_left
  · unfold s_NodeItems.j1 at H
    refine WPc_seq' ?_; refine W_region (by kernel_rfl) ?_; refine vl_n ?_; refine H_of_R (R_move (v := (e 3)) rfl ?_)
    refine vl_n ?_; refine H_of_R (R_assign (v := (e 3)) rfl ?_)
    refine vl_e ?_; refine WPc_ret ?_; refine resH_of rfl ?_; exact H
  refine WPc_seq' ?_; refine W_region (by kernel_rfl) ?_; refine vl_n ?_; refine H_of_R (R_fld TF_37_1 H fun t5 H => ?_)
  refine vl_n ?_; refine H_of_R (R_load1 T1_35 H fun _ t6 _ _ H => ?_)
  refine vl_n ?_; refine H_of_R (R_len Try.underlying35 H fun t7 H => ?_)
  refine vl_n ?_; refine H_of_R (R_fld TF_37_0 H fun t8 H => ?_)
  refine vl_n ?_; refine H_of_R (R_load1 T1_25 H fun _ t9 _ _ H => ?_)
  refine vl_n ?_; refine H_of_R (R_len Try.underlying25 H fun t10 H => ?_)
  refine vl_n ?_; refine H_of_R (R_max H fun t11 H => ?_)
  refine vl_n ?_; refine H_of_R (R_move (v := (.int .i64 0)) rfl ?_)
  refine vl_e ?_; refine WPc_block ?_; refine loop_at (fun e => [e 3, e 12]) (fun e => [e 1, e 11]) H rfl rfl ?_; intro K1 e1 h H hin1
  replace H : s_NodeItems.l2.b (e1 1) (e1 11) (e1 3) (e1 12) h K1 Q := H
  unfold s_NodeItems.l2.b at H; clear hin1; refine WPc_seq' ?_; refine W_region (by kernel_rfl) ?_; refine vl_n ?_; refine H_of_R (R_lss H fun t13 H => ?_)
  refine vl_e ?_; refine WPc_seq (fun e h => s_NodeItems.j3 (e 1) (e 3) (e 11) (e 12) h K1 Q ∧ [e1 1, e1 11] = [e 1, e 11]) ?_ (fun e h ⟨H, hq1⟩ => ?_)
  rotate_left
  · unfold s_NodeItems.j3 at H
    refine WPc_seq (fun e h => s_NodeItems.j4 (e 1) (e 3) (e 11) (e 12) h K1 Q ∧ [e1 1, e1 11] = [e 1, e 11]) ?_ (fun e h ⟨H, hq1⟩ => ?_)
    rotate_left
    · unfold s_NodeItems.j4 at H
      refine W_region (by kernel_rfl) ?_; refine vl_n ?_; refine H_of_R (R_add H fun t41 H => ?_)
      refine vl_n ?_; refine H_of_R (R_move (v := t41) rfl ?_)
      refine vl_e ?_; exact ⟨H, hq1⟩
    refine WPc_block ?_; refine WPc_seq' ?_; refine W_region (by kernel_rfl) ?_; refine vl_n ?_; refine H_of_R (R_move (v := (e 12)) rfl ?_)
    refine vl_n ?_; refine H_of_R (R_assign (v := (e 12)) rfl ?_)
    refine vl_e ?_; refine WPc_seq (fun e h => s_NodeItems.j5 (e 1) (e 3) (e 4) (e 11) (e 12) h K1 Q ∧ [e1 1, e1 11] = [e 1, e 11]) ?_ (fun e h ⟨H, hq1⟩ => ?_)
    rotate_left
    · unfold s_NodeItems.j5 at H
      refine WPc_seq' ?_; refine W_region (by kernel_rfl) ?_; refine vl_n ?_; refine H_of_R (R_move (v := (e 4)) rfl ?_)
      refine vl_n ?_; refine H_of_R (R_fld TF_37_0 H fun t29 H => ?_)
      refine vl_n ?_; refine H_of_R (R_load1 T1_25 H fun _ t30 _ _ H => ?_)
      refine vl_n ?_; refine H_of_R (R_len Try.underlying25 H fun t31 H => ?_)
      refine vl_n ?_; refine H_of_R (R_lss H fun t32 H => ?_)
      refine vl_e ?_; obtain ⟨b, hc, H1, H2⟩ := H; refine WPc_cond hc (fun hh => ?_) (fun hh => ?_)
      · have H := H1 hh; clear H1 H2
        refine W_region (by kernel_rfl) ?_; refine vl_n ?_; refine H_of_R (R_move (v := (e 3)) rfl ?_)
        refine vl_n ?_; refine H_of_R (R_fld TF_37_0 H fun t34 H => ?_)
        refine vl_n ?_; refine H_of_R (R_load1 T1_25 H fun _ t35 _ _ H => ?_)
        refine vl_n ?_; refine H_of_R (R_move (v := (e 4)) rfl ?_)
        refine vl_n ?_; refine H_of_R (R_idx TE_25 H fun t37 H => ?_)
        refine vl_n ?_; refine H_of_R (R_loadN TN_27 H fun _ t38 _ _ H _ _ => ?_)
        refine vl_n ?_; refine H_mkSl TZ_25 (by decide) rfl H rfl fun t39 h H => ?_; refine vl_n ?_; refine H_app TZ_25 TU_25 H fun t40 h H => ?_; refine vl_n ?_; refine H_of_R (R_assign (v := t40) rfl ?_)
        refine vl_e ?_; exact ⟨H, hq1⟩
      · have H := H2 hh; clear H1 H2
        refine WPc_skip ?_; exact ⟨H, hq1⟩
    refine WPc_seq' ?_; refine W_region (by kernel_rfl) ?_; refine vl_n ?_; refine H_of_R (R_move (v := (e 12)) rfl ?_)
    refine vl_n ?_; refine H_of_R (R_fld TF_37_1 H fun t16 H => ?_)
    refine vl_n ?_; refine H_of_R (R_load1 T1_35 H fun _ t17 _ _ H => ?_)
    refine vl_n ?_; refine H_of_R (R_len Try.underlying35 H fun t18 H => ?_)
    refine vl_n ?_; refine H_of_R (R_lss H fun t19 H => ?_)
    refine vl_e ?_; obtain ⟨b, hc, H1, H2⟩ := H; refine WPc_cond hc (fun hh => ?_) (fun hh => ?_)
    · have H := H1 hh; clear H1 H2
      refine W_region (by kernel_rfl) ?_; refine vl_n ?_; refine H_of_R (R_move (v := (e 3)) rfl ?_)
      refine vl_n ?_; refine H_of_R (R_fld TF_37_1 H fun t21 H => ?_)
      refine vl_n ?_; refine H_of_R (R_load1 T1_35 H fun _ t22 _ _ H => ?_)
      refine vl_n ?_; refine H_of_R (R_move (v := (e 12)) rfl ?_)
      refine vl_n ?_; refine H_of_R (R_idx TE_35 H fun t24 H => ?_)
      refine vl_n ?_; refine H_of_R (R_loadN TN_37 H fun _ t25 _ _ H _ _ => ?_)
      refine vl_n ?_; refine H_call HB_22 H fun t26 h H => ?_; refine vl_n ?_; refine H_app TZ_25 TU_25 H fun t27 h H => ?_; refine vl_n ?_; refine H_of_R (R_assign (v := t27) rfl ?_)
      refine vl_e ?_; exact ⟨H, hq1⟩
    · have H := H2 hh; clear H1 H2
      refine WPc_skip ?_; exact ⟨H, hq1⟩
  obtain ⟨b, hc, H1, H2⟩ := H; refine WPc_cond hc (fun hh => ?_) (fun hh => ?_)
  · have H := H1 hh; clear H1 H2
    refine WPc_skip ?_; exact ⟨H, rfl⟩
  · have H := H2 hh; clear H1 H2
    refine WPc_exit ?_; exact H
/-! ### spec.Width -/
def s_Width.j1 (s0 : Value) (h : Heap) (Q : Value → Heap → Prop) : Prop := Q s0 h
def s_Width.sh (a0 : Value) (h : Heap) (Q : Value → Heap → Prop) : Prop := cmpI (fun a b => a == b) a0 (.int .i64 0) fun t4 => ifV t4 (Q (.int .i64 32) h) (s_Width.j1 a0 h Q)
theorem s_Width.body (a0 : Value) (h : Heap) (Q : Value → Heap → Prop) (H : s_Width.sh a0 h Q) : s_Width.call #[a0] h Q := by
  refine callsH_of (args := [a0]) Try.func31 rfl rfl ?_; unfold s_Width.sh at H; refine WPc_seq' ?_; refine W_region (by kernel_rfl) ?_; refine vl_n ?_; refine H_of_R (R_assign (v := (.int .i64 0)) rfl ?_)
  refine vl_e ?_; refine WPc_seq (fun e h => s_Width.j1 (e 0) h Q) ?_ (fun e h H => ?_)
  rotate_left
  · unfold s_Width.j1 at H
    refine WPc_seq' ?_; refine W_region (by kernel_rfl) ?_; refine vl_n ?_; refine H_of_R (R_move (v := (e 0)) rfl ?_)
    refine vl_n ?_; refine H_of_R (R_assign (v := (e 0)) rfl ?_)
    refine vl_e ?_; refine WPc_ret ?_; refine resH_of rfl ?_; exact H
  refine WPc_seq' ?_; refine W_region (by kernel_rfl) ?_; refine vl_n ?_; refine H_of_R (R_move (v := a0) rfl ?_)
  refine vl_n ?_; refine H_of_R (R_eqI H fun t4 H => ?_)
  refine vl_e ?_; obtain ⟨b, hc, H1, H2⟩ := H; refine WPc_cond hc (fun hh => ?_) (fun hh => ?_)
  · have H := H1 hh; clear H1 H2
    refine WPc_seq' ?_; refine W_region (by kernel_rfl) ?_; refine vl_n ?_; refine H_of_R (R_assign (v := (.int .i64 32)) rfl ?_)
    refine vl_e ?_; refine WPc_ret ?_; refine resH_of rfl ?_; exact H
  · have H := H2 hh; clear H1 H2
    refine WPc_skip ?_; exact H
/-! ### spec.Filled -/
def s_Filled.j2 (h : Heap) (Q : Value → Heap → Prop) : Prop := Q (.bool true) h
def s_Filled.j5 (s0 s24 s25 s26 : Value) (h : Heap) (K1 : List Value → Heap → Prop) (Q : Value → Heap → Prop) : Prop := arith (· + ·) s26 (.int .i64 1) fun t36 => K1 [t36] h
def s_Filled.j4 (s0 s24 s25 s26 : Value) (h : Heap) (K1 : List Value → Heap → Prop) (Q : Value → Heap → Prop) : Prop := idx 3 s24 s26 fun t28 => loadN 3 t28 h fun t29 => alloc [(.slice none 0 0), (.slice none 0 0), (.int .i64 0)] 37 h fun t8 h => storeN 3 t8 t29 h fun h => arith (· - ·) s0 (.int .i64 1) fun t32 => loadN 3 t8 h fun t33 => s_Filled.call #[s0, t32, t33] h fun t34 h => notV t34 fun t35 => ifV t35 (Q (.bool false) h) (s_Filled.j5 s0 s24 s25 s26 h K1 Q)
def s_Filled.l3.b (c0 c24 c25 s26 : Value) (h : Heap) (K1 : List Value → Heap → Prop) (Q : Value → Heap → Prop) : Prop := cmpI (fun a b => decide (a < b)) s26 c25 fun t27 => ifV t27 (s_Filled.j4 c0 c24 c25 s26 h K1 Q) (s_Filled.j2 h Q)
def s_Filled.j1 (s0 s5 : Value) (h : Heap) (Q : Value → Heap → Prop) : Prop := fld 1 s5 fun t23 => load1 t23 h fun t24 => lenV t24 fun t25 => loopC (fun c s h K1 => s_Filled.l3.b (c.getD 0 undef) (c.getD 1 undef) (c.getD 2 undef) (s.getD 0 undef) h K1 Q) [s0, t24, t25] [(.int .i64 0)] h
def s_Filled.sh (a0 a1 a2 : Value) (h : Heap) (Q : Value → Heap → Prop) : Prop := box 37 a2 h fun t5 h => fld 0 t5 fun t9 => load1 t9 h fun t10 => lenV t10 fun t11 => cmpI (fun a b => decide (a < b)) t11 a1 fun t13 => br t13 false (fld 0 t5 fun t15 => load1 t15 h fun t16 => lenV t16 fun t17 => arith (· * ·) (.int .i64 2) a0 fun t19 => arith (· - ·) t19 (.int .i64 1) fun t20 => cmpI (fun a b => decide (a > b)) t17 t20 fun t21 => ifV t21 (Q (.bool false) h) (s_Filled.j1 a0 t5 h Q)) (Q (.bool false) h)
theorem s_Filled.body (a0 a1 a2 : Value) (h : Heap) (Q : Value → Heap → Prop) (H : s_Filled.sh a0 a1 a2 h Q) : s_Filled.call #[a0, a1, a2] h Q := by
  refine callsH_of (args := [a0, a1, a2]) Try.func33 rfl rfl ?_; unfold s_Filled.sh at H; refine WPc_seq' ?_; refine W_region (by kernel_rfl) ?_; refine vl_n ?_; refine H_box H fun t5 h H => ?_; refine vl_n ?_; refine H_of_R (R_assign (v := (.bool false)) rfl ?_)
  refine vl_e ?_; refine WPc_seq (fun e h => s_Filled.j1 (e 0) (e 5) h Q) ?_ (fun e h H => ?_)
  rotate_left
  · unfold s_Filled.j1 at H
    refine WPc_seq (fun e h => s_Filled.j2 h Q) ?_ (fun e h H => ?_)
    rotate_left
    · unfold s_Filled.j2 at H
      refine WPc_seq' ?_; refine W_region (by kernel_rfl) ?_; refine vl_n ?_; refine H_of_R (R_assign (v := (.bool true)) rfl ?_)
      refine vl_e ?_; refine WPc_ret ?_; refine resH_of rfl ?_; exact H
    refine WPc_seq' ?_; refine W_region (by kernel_rfl) ?_; refine vl_n ?_; refine H_of_R (R_fld TF_37_1 H fun t23 H => ?_)
    refine vl_n ?_; refine H_of_R (R_load1 T1_35 H fun _ t24 _ _ H => ?_)
    refine vl_n ?_; refine H_of_R (R_len Try.underlying35 H fun t25 H => ?_)
    refine vl_n ?_; refine H_of_R (R_move (v := (.int .i64 0)) rfl ?_)
    refine vl_e ?_; refine WPc_block ?_; refine loop_at (fun e => [e 26]) (fun e => [e 0, e 24, e 25]) H rfl rfl ?_; intro K1 e1 h H hin1
    replace H : s_Filled.l3.b (e1 0) (e1 24) (e1 25) (e1 26) h K1 Q := H
    unfold s_Filled.l3.b at H; clear hin1; refine WPc_seq' ?_; refine W_region (by kernel_rfl) ?_; refine vl_n ?_; refine H_of_R (R_lss H fun t27 H => ?_)
    refine vl_e ?_; refine WPc_seq (fun e h => s_Filled.j4 (e 0) (e 24) (e 25) (e 26) h K1 Q ∧ [e1 0, e1 24, e1 25] = [e 0, e 24, e 25]) ?_ (fun e h ⟨H, hq1⟩ => ?_)
    rotate_left
    · unfold s_Filled.j4 at H
      refine WPc_seq (fun e h => s_Filled.j5 (e 0) (e 24) (e 25) (e 26) h K1 Q ∧ [e1 0, e1 24, e1 25] = [e 0, e 24, e 25]) ?_ (fun e h ⟨H, hq1⟩ => ?_)
      rotate_left
      · unfold s_Filled.j5 at H
        refine W_region (by kernel_rfl) ?_; refine vl_n ?_; refine H_of_R (R_add H fun t36 H => ?_)
        refine vl_n ?_; refine H_of_R (R_move (v := t36) rfl ?_)
        refine vl_e ?_; exact ⟨H, hq1⟩
      refine WPc_block ?_; refine WPc_seq' ?_; refine W_region (by kernel_rfl) ?_; refine vl_n ?_; refine H_of_R (R_idx TE_35 H fun t28 H => ?_)
      refine vl_n ?_; refine H_of_R (R_loadN TN_37 H fun _ t29 _ _ H _ _ => ?_)
      refine vl_n ?_; refine H_alloc TV_37 H fun t8 h H => ?_; refine vl_n ?_; refine H_storeN TS_37 H fun h H => ?_; refine vl_e ?_; refine WPc_seq' ?_; refine W_region (by kernel_rfl) ?_; refine vl_n ?_; refine H_of_R (R_move (v := (e 0)) rfl ?_)
      refine vl_n ?_; refine H_of_R (R_move (v := (e 0)) rfl ?_)
      refine vl_n ?_; refine H_of_R (R_sub H fun t32 H => ?_)
      refine vl_n ?_; refine H_of_R (R_loadN TN_37 H fun _ t33 _ _ H _ _ => ?_)
      refine vl_n ?_; refine H_call HB_33 H fun t34 h H => ?_; refine vl_n ?_; refine H_of_R (R_not H fun t35 H => ?_)
      refine vl_e ?_; obtain ⟨b, hc, H1, H2⟩ := H; refine WPc_cond hc (fun hh => ?_) (fun hh => ?_)
      · have H := H1 hh; clear H1 H2
        refine WPc_seq' ?_; refine W_region (by kernel_rfl) ?_; refine vl_n ?_; refine H_of_R (R_assign (v := (.bool false)) rfl ?_)
        refine vl_e ?_; refine WPc_ret ?_; refine resH_of rfl ?_; exact H
      · have H := H2 hh; clear H1 H2
        refine WPc_skip ?_; exact ⟨H, hq1⟩
    obtain ⟨b, hc, H1, H2⟩ := H; refine WPc_cond hc (fun hh => ?_) (fun hh => ?_)
    · have H := H1 hh; clear H1 H2
      refine WPc_skip ?_; exact ⟨H, rfl⟩
    · have H := H2 hh; clear H1 H2
      refine WPc_exit ?_; exact H
  refine WPc_seq' ?_; refine W_region (by kernel_rfl) ?_; refine vl_n ?_; refine H_of_R (R_fld TF_37_0 H fun t9 H => ?_)
  refine vl_n ?_; refine H_of_R (R_load1 T1_25 H fun _ t10 _ _ H => ?_)
  refine vl_n ?_; refine H_of_R (R_len Try.underlying25 H fun t11 H => ?_)
  refine vl_n ?_; refine H_of_R (R_move (v := a1) rfl ?_)
  refine vl_n ?_; refine H_of_R (R_lss H fun t13 H => ?_)
  refine vl_n ?_; refine H_of_R (R_move (v := t13) rfl ?_)
  obtain ⟨b, hb, H1, H2⟩ := H
  cases b
  · have H := H1 rfl; clear H1 H2
    refine vl_y rfl hb ?_; refine H_of_R (R_fld TF_37_0 H fun t15 H => ?_)
    refine vl_y rfl hb ?_; refine H_of_R (R_load1 T1_25 H fun _ t16 _ _ H => ?_)
    refine vl_y rfl hb ?_; refine H_of_R (R_len Try.underlying25 H fun t17 H => ?_)
    refine vl_y rfl hb ?_; refine H_of_R (R_move (v := a0) rfl ?_)
    refine vl_y rfl hb ?_; refine H_of_R (R_mul H fun t19 H => ?_)
    refine vl_y rfl hb ?_; refine H_of_R (R_sub H fun t20 H => ?_)
    refine vl_y rfl hb ?_; refine H_of_R (R_gtr H fun t21 H => ?_)
    refine vl_n ?_; refine H_of_R (R_pickC (v := t21) false hb rfl ?_)
    refine vl_e ?_; obtain ⟨b_2, hc, H1, H2⟩ := H; refine WPc_cond hc (fun hh => ?_) (fun hh => ?_)
    · have H := H1 hh; clear H1 H2
      refine WPc_seq' ?_; refine W_region (by kernel_rfl) ?_; refine vl_n ?_; refine H_of_R (R_assign (v := (.bool false)) rfl ?_)
      refine vl_e ?_; refine WPc_ret ?_; refine resH_of rfl ?_; exact H
    · have H := H2 hh; clear H1 H2
      refine WPc_skip ?_; exact H
  · have H := H2 rfl; clear H1 H2
    refine vl_s rfl (nbF hb) ?_; refine vl_s rfl (nbF hb) ?_; refine vl_s rfl (nbF hb) ?_; refine vl_s rfl (nbF hb) ?_; refine vl_s rfl (nbF hb) ?_; refine vl_s rfl (nbF hb) ?_; refine vl_s rfl (nbF hb) ?_; refine vl_n ?_; refine H_of_R (R_pickC (v := (.bool true)) true hb rfl ?_)
    refine vl_e ?_; refine WPc_cond (t := true) rfl (fun _ => ?_) (fun hh => by cases hh)
    refine WPc_seq' ?_; refine W_region (by kernel_rfl) ?_; refine vl_n ?_; refine H_of_R (R_assign (v := (.bool false)) rfl ?_)
    refine vl_e ?_; refine WPc_ret ?_; refine resH_of rfl ?_; exact H
/-! ### spec.Levels -/
def s_Levels.j3 (s4 s5 : Value) (h : Heap) (Q : Value → Heap → Prop) : Prop := arith (· + ·) s4 (.int .i64 1) fun t54 => Q (.tuple #[t54, s5]) h
def s_Levels.j6 (s4 s5 s32 s33 s34 : Value) (h : Heap) (K1 : List Value → Heap → Prop) (Q : Value → Heap → Prop) : Prop := arith (· + ·) s34 (.int .i64 1) fun t52 => K1 [s5, t52] h
def s_Levels.j5 (s4 s5 s32 s33 s34 : Value) (h : Heap) (K1 : List Value → Heap → Prop) (Q : Value → Heap → Prop) : Prop := idx 3 s32 s34 fun t36 => loadN 3 t36 h fun t37 => alloc [(.slice none 0 0), (.slice none 0 0), (.int .i64 0)] 37 h fun t7 h => storeN 3 t7 t37 h fun h => loadN 3 t7 h fun t39 => s_Levels.call #[t39] h fun t40 h => extr 0 t40 fun t41 => extr 1 t40 fun t42 => br s5 true (br t42 true (cmpI (fun a b => a == b) t41 s4 fun t50 => s_Levels.j6 s4 t50 s32 s33 s34 h K1 Q) (s_Levels.j6 s4 (.bool false) s32 s33 s34 h K1 Q)) (s_Levels.j6 s4 (.bool false) s32 s33 s34 h K1 Q)
def s_Levels.l4.b (c4 c32 c33 s5 s34 : Value) (h : Heap) (K1 : List Value → Heap → Prop) (Q : Value → Heap → Prop) : Prop := cmpI (fun a b => decide (a < b)) s34 c33 fun t35 => ifV t35 (s_Levels.j5 c4 s5 c32 c33 s34 h K1 Q) (s_Levels.j3 c4 s5 h Q)
def s_Levels.j2 (s1 : Value) (h : Heap) (Q : Value → Heap → Prop) : Prop := fld 1 s1 fun t23 => load1 t23 h fun t24 => idx 3 t24 (.int .i64 0) fun t25 => loadN 3 t25 h fun t26 => s_Levels.call #[t26] h fun t27 h => extr 0 t27 fun t28 => extr 1 t27 fun t29 => fld 1 s1 fun t30 => load1 t30 h fun t31 => slc 3 t31 (some (.int .i64 1)) none none fun t32 => lenV t32 fun t33 => loopC (fun c s h K1 => s_Levels.l4.b (c.getD 0 undef) (c.getD 1 undef) (c.getD 2 undef) (s.getD 0 undef) (s.getD 1 undef) h K1 Q) [t28, t32, t33] [t29, (.int .i64 0)] h
def s_Levels.j1 (s1 : Value) (h : Heap) (Q : Value → Heap → Prop) : Prop := fld 1 s1 fun t14 => load1 t14 h fun t15 => lenV t15 fun t16 => fld 0 s1 fun t17 => load1 t17 h fun t18 => lenV t18 fun t19 => arith (· + ·) t19 (.int .i64 1) fun t20 => cmpI (fun a b => a != b) t16 t20 fun t21 => ifV t21 (Q (.tuple #[(.int .i64 0), (.bool false)]) h) (s_Levels.j2 s1 h Q)
def s_Levels.sh (a0 : Value) (h : Heap) (Q : Value → Heap → Prop) : Prop := box 37 a0 h fun t1 h => fld 1 t1 fun t10 => load1 t10 h fun t11 => lenV t11 fun t12 => cmpI (fun a b => a == b) t12 (.int .i64 0) fun t13 => ifV t13 (Q (.tuple #[(.int .i64 1), (.bool true)]) h) (s_Levels.j1 t1 h Q)
theorem s_Levels.body (a0 : Value) (h : Heap) (Q : Value → Heap → Prop) (H : s_Levels.sh a0 h Q) : s_Levels.call #[a0] h Q := by
  refine callsH_of (args := [a0]) Try.func34 rfl rfl ?_; unfold s_Levels.sh at H; refine WPc_seq' ?_; refine W_region (by kernel_rfl) ?_; refine vl_n ?_; refine H_box H fun t1 h H => ?_; refine vl_n ?_; refine H_of_R (R_assign (v := (.int .i64 0)) rfl ?_)
  refine vl_n ?_; refine H_of_R (R_assign (v := (.bool false)) rfl ?_)
  refine vl_e ?_; refine WPc_seq (fun e h => s_Levels.j1 (e 1) h Q) ?_ (fun e h H => ?_)
  rotate_left
  · unfold s_Levels.j1 at H
    refine WPc_seq (fun e h => s_Levels.j2 (e 1) h Q) ?_ (fun e h H => ?_)
    rotate_left
    · unfold s_Levels.j2 at H
      refine WPc_seq' ?_; refine W_region (by kernel_rfl) ?_; refine vl_n ?_; refine H_of_R (R_fld TF_37_1 H fun t23 H => ?_)
      refine vl_n ?_; refine H_of_R (R_load1 T1_35 H fun _ t24 _ _ H => ?_)
      refine vl_n ?_; refine H_of_R (R_idx TE_35 H fun t25 H => ?_)
      refine vl_n ?_; refine H_of_R (R_loadN TN_37 H fun _ t26 _ _ H _ _ => ?_)
      refine vl_n ?_; refine H_call HB_34 H fun t27 h H => ?_; refine vl_n ?_; refine H_of_R (R_move (v := t27) rfl ?_)
      refine vl_n ?_; refine H_of_R (R_ext H fun t28 H => ?_)
      refine vl_n ?_; refine H_of_R (R_ext H fun t29 H => ?_)
      refine vl_n ?_; refine H_of_R (R_assign (v := t28) rfl ?_)
      refine vl_n ?_; refine H_of_R (R_assign (v := t29) rfl ?_)
      refine vl_e ?_; refine WPc_seq (fun e h => s_Levels.j3 (e 4) (e 5) h Q) ?_ (fun e h H => ?_)
      rotate_left
      · unfold s_Levels.j3 at H
        refine WPc_seq' ?_; refine W_region (by kernel_rfl) ?_; refine vl_n ?_; refine H_of_R (R_move (v := (e 4)) rfl ?_)
        refine vl_n ?_; refine H_of_R (R_add H fun t54 H => ?_)
        refine vl_n ?_; refine H_of_R (R_move (v := (e 5)) rfl ?_)
        refine vl_n ?_; refine H_of_R (R_assign (v := t54) rfl ?_)
        refine vl_n ?_; refine H_of_R (R_assign (v := (e 5)) rfl ?_)
        refine vl_e ?_; refine WPc_ret ?_; refine resH_of rfl ?_; exact H
      refine WPc_seq' ?_; refine W_region (by kernel_rfl) ?_; refine vl_n ?_; refine H_of_R (R_fld TF_37_1 H fun t30 H => ?_)
      refine vl_n ?_; refine H_of_R (R_load1 T1_35 H fun _ t31 _ _ H => ?_)
      refine vl_n ?_; refine H_of_R (R_slice TE_35 (by decide) H fun t32 H => ?_)
      refine vl_n ?_; refine H_of_R (R_len Try.underlying35 H fun t33 H => ?_)
      refine vl_n ?_; refine H_of_R (R_move (v := (.int .i64 0)) rfl ?_)
      refine vl_e ?_; refine WPc_block ?_; refine loop_at (fun e => [e 5, e 34]) (fun e => [e 4, e 32, e 33]) H rfl rfl ?_; intro K1 e1 h H hin1
      replace H : s_Levels.l4.b (e1 4) (e1 32) (e1 33) (e1 5) (e1 34) h K1 Q := H
      unfold s_Levels.l4.b at H; clear hin1; refine WPc_seq' ?_; refine W_region (by kernel_rfl) ?_; refine vl_n ?_; refine H_of_R (R_lss H fun t35 H => ?_)
      refine vl_e ?_; refine WPc_seq (fun e h => s_Levels.j5 (e 4) (e 5) (e 32) (e 33) (e 34) h K1 Q ∧ [e1 4, e1 32, e1 33] = [e 4, e 32, e 33]) ?_ (fun e h ⟨H, hq1⟩ => ?_)
      rotate_left
      · unfold s_Levels.j5 at H
        refine WPc_seq (fun e h => s_Levels.j6 (e 4) (e 5) (e 32) (e 33) (e 34) h K1 Q ∧ [e1 4, e1 32, e1 33] = [e 4, e 32, e 33]) ?_ (fun e h ⟨H, hq1⟩ => ?_)
        rotate_left
        · unfold s_Levels.j6 at H
          refine W_region (by kernel_rfl) ?_; refine vl_n ?_; refine H_of_R (R_add H fun t52 H => ?_)
          refine vl_n ?_; refine H_of_R (R_move (v := t52) rfl ?_)
          refine vl_e ?_; exact ⟨H, hq1⟩
        refine WPc_block ?_; refine WPc_seq' ?_; refine W_region (by kernel_rfl) ?_; refine vl_n ?_; refine H_of_R (R_idx TE_35 H fun t36 H => ?_)
        refine vl_n ?_; refine H_of_R (R_loadN TN_37 H fun _ t37 _ _ H _ _ => ?_)
        refine vl_n ?_; refine H_alloc TV_37 H fun t7 h H => ?_; refine vl_n ?_; refine H_storeN TS_37 H fun h H => ?_; refine vl_e ?_; refine WPc_seq' ?_; refine W_region (by kernel_rfl) ?_; refine vl_n ?_; refine H_of_R (R_loadN TN_37 H fun _ t39 _ _ H _ _ => ?_)
        refine vl_n ?_; refine H_call HB_34 H fun t40 h H => ?_; refine vl_n ?_; refine H_of_R (R_move (v := t40) rfl ?_)
        refine vl_n ?_; refine H_of_R (R_ext H fun t41 H => ?_)
        refine vl_n ?_; refine H_of_R (R_ext H fun t42 H => ?_)
        refine vl_n ?_; refine H_of_R (R_assign (v := t41) rfl ?_)
        refine vl_n ?_; refine H_of_R (R_assign (v := t42) rfl ?_)
        refine vl_e ?_; refine W_region (by kernel_rfl) ?_; refine vl_n ?_; refine H_of_R (R_move (v := (e 5)) rfl ?_)
        refine vl_n ?_; refine H_of_R (R_move (v := (e 5)) rfl ?_)
        obtain ⟨b, hb, H1, H2⟩ := H
        cases b
        · have H := H2 rfl; clear H1 H2
          refine vl_s rfl (nbT hb) ?_; refine vl_n ?_; refine H_of_R (R_pickC (v := (.bool false)) false hb rfl ?_)
          refine vl_n ?_; refine H_of_R (R_move (v := (.bool false)) rfl ?_)
          refine vl_s rfl (nbT rfl) ?_; refine vl_s rfl (nbT rfl) ?_; refine vl_s rfl (nbT rfl) ?_; refine vl_n ?_; refine H_of_R (R_pickC (v := (.bool false)) false rfl rfl ?_)
          refine vl_n ?_; refine H_of_R (R_assign (v := (.bool false)) rfl ?_)
          refine vl_e ?_; exact ⟨H, hq1⟩
        · have H := H1 rfl; clear H1 H2
          refine vl_y rfl hb ?_; refine H_of_R (R_move (v := t42) rfl ?_)
          refine vl_n ?_; refine H_of_R (R_pickC (v := t42) true hb rfl ?_)
          refine vl_n ?_; refine H_of_R (R_move (v := t42) rfl ?_)
          obtain ⟨b_2, hb_2, H1, H2⟩ := H
          cases b_2
          · have H := H2 rfl; clear H1 H2
            refine vl_s rfl (nbT hb_2) ?_; refine vl_s rfl (nbT hb_2) ?_; refine vl_s rfl (nbT hb_2) ?_; refine vl_n ?_; refine H_of_R (R_pickC (v := (.bool false)) false hb_2 rfl ?_)
            refine vl_n ?_; refine H_of_R (R_assign (v := (.bool false)) rfl ?_)
            refine vl_e ?_; exact ⟨H, hq1⟩
          · have H := H1 rfl; clear H1 H2
            refine vl_y rfl hb_2 ?_; refine H_of_R (R_move (v := t41) rfl ?_)
            refine vl_y rfl hb_2 ?_; refine H_of_R (R_move (v := (e 4)) rfl ?_)
            refine vl_y rfl hb_2 ?_; refine H_of_R (R_eqI H fun t50 H => ?_)
            refine vl_n ?_; refine H_of_R (R_pickC (v := t50) true hb_2 rfl ?_)
            refine vl_n ?_; refine H_of_R (R_assign (v := t50) rfl ?_)
            refine vl_e ?_; exact ⟨H, hq1⟩
      obtain ⟨b, hc, H1, H2⟩ := H; refine WPc_cond hc (fun hh => ?_) (fun hh => ?_)
      · have H := H1 hh; clear H1 H2
        refine WPc_skip ?_; exact ⟨H, rfl⟩
      · have H := H2 hh; clear H1 H2
        refine WPc_exit ?_; exact H
    refine WPc_seq' ?_; refine W_region (by kernel_rfl) ?_; refine vl_n ?_; refine H_of_R (R_fld TF_37_1 H fun t14 H => ?_)
    refine vl_n ?_; refine H_of_R (R_load1 T1_35 H fun _ t15 _ _ H => ?_)
    refine vl_n ?_; refine H_of_R (R_len Try.underlying35 H fun t16 H => ?_)
    refine vl_n ?_; refine H_of_R (R_fld TF_37_0 H fun t17 H => ?_)
    refine vl_n ?_; refine H_of_R (R_load1 T1_25 H fun _ t18 _ _ H => ?_)
    refine vl_n ?_; refine H_of_R (R_len Try.underlying25 H fun t19 H => ?_)
    refine vl_n ?_; refine H_of_R (R_add H fun t20 H => ?_)
    refine vl_n ?_; refine H_of_R (R_neI H fun t21 H => ?_)
    refine vl_e ?_; obtain ⟨b, hc, H1, H2⟩ := H; refine WPc_cond hc (fun hh => ?_) (fun hh => ?_)
    · have H := H1 hh; clear H1 H2
      refine WPc_seq' ?_; refine W_region (by kernel_rfl) ?_; refine vl_n ?_; refine H_of_R (R_assign (v := (.int .i64 0)) rfl ?_)
      refine vl_n ?_; refine H_of_R (R_assign (v := (.bool false)) rfl ?_)
      refine vl_e ?_; refine WPc_ret ?_; refine resH_of rfl ?_; exact H
    · have H := H2 hh; clear H1 H2
      refine WPc_skip ?_; exact H
  refine WPc_seq' ?_; refine W_region (by kernel_rfl) ?_; refine vl_n ?_; refine H_of_R (R_fld TF_37_1 H fun t10 H => ?_)
  refine vl_n ?_; refine H_of_R (R_load1 T1_35 H fun _ t11 _ _ H => ?_)
  refine vl_n ?_; refine H_of_R (R_len Try.underlying35 H fun t12 H => ?_)
  refine vl_n ?_; refine H_of_R (R_eqI H fun t13 H => ?_)
  refine vl_e ?_; obtain ⟨b, hc, H1, H2⟩ := H; refine WPc_cond hc (fun hh => ?_) (fun hh => ?_)
  · have H := H1 hh; clear H1 H2
    refine WPc_seq' ?_; refine W_region (by kernel_rfl) ?_; refine vl_n ?_; refine H_of_R (R_assign (v := (.int .i64 1)) rfl ?_)
    refine vl_n ?_; refine H_of_R (R_assign (v := (.bool true)) rfl ?_)
    refine vl_e ?_; refine WPc_ret ?_; refine resH_of rfl ?_; exact H
  · have H := H2 hh; clear H1 H2
    refine WPc_skip ?_; exact H
/-! ### spec.Valid -/
def s_Valid.j1 (s2 s3 : Value) (h : Heap) (Q : Value → Heap → Prop) : Prop := loadN 3 s3 h fun t18 => s_Levels.call #[t18] h fun t19 h => extr 0 t19 fun t20 => extr 1 t19 fun t21 => br t21 true (fld 1 s2 fun t24 => load1 t24 h fun t25 => loadN 3 s3 h fun t27 => s_Width.call #[t25] h fun t26 h => stillN 3 s3 t27 h ∧ s_Filled.call #[t26, (.int .i64 1), t27] h fun t28 h => br t28 true (fld 0 s2 fun t31 => load1 t31 h fun t32 => loadN 3 s3 h fun t33 => s_NodeItems.call #[t33] h fun t34 h => still1 t31 t32 h ∧ s_Rising.call #[t32, t34] h fun t35 h => Q t35 h) (Q (.bool false) h)) (Q (.bool false) h)
def s_Valid.sh (a0 a1 : Value) (h : Heap) (Q : Value → Heap → Prop) : Prop := box 24 a0 h fun t2 h => box 37 a1 h fun t3 h => fld 0 t3 fun t7 => load1 t7 h fun t8 => lenV t8 fun t9 => cmpI (fun a b => a == b) t9 (.int .i64 0) fun t10 => br t10 true (fld 1 t3 fun t12 => load1 t12 h fun t13 => lenV t13 fun t14 => cmpI (fun a b => a == b) t14 (.int .i64 0) fun t15 => ifV t15 (Q (.bool true) h) (s_Valid.j1 t2 t3 h Q)) (s_Valid.j1 t2 t3 h Q)
theorem s_Valid.body (a0 a1 : Value) (h : Heap) (Q : Value → Heap → Prop) (H : s_Valid.sh a0 a1 h Q) : s_Valid.call #[a0, a1] h Q := by
  refine callsH_of (args := [a0, a1]) Try.func53 rfl rfl ?_; unfold s_Valid.sh at H; refine WPc_seq' ?_; refine W_region (by kernel_rfl) ?_; refine vl_n ?_; refine H_box H fun t2 h H => ?_; refine vl_n ?_; refine H_box H fun t3 h H => ?_; refine vl_n ?_; refine H_of_R (R_assign (v := (.bool false)) rfl ?_)
  refine vl_e ?_; refine WPc_seq (fun e h => s_Valid.j1 (e 2) (e 3) h Q) ?_ (fun e h H => ?_)
  rotate_left
  · unfold s_Valid.j1 at H
    refine WPc_seq' ?_; refine W_region (by kernel_rfl) ?_; refine vl_n ?_; refine H_of_R (R_loadN TN_37 H fun _ t18 _ _ H _ _ => ?_)
    refine vl_n ?_; refine H_call HB_34 H fun t19 h H => ?_; refine vl_n ?_; refine H_of_R (R_move (v := t19) rfl ?_)
    refine vl_n ?_; refine H_of_R (R_ext H fun t20 H => ?_)
    refine vl_n ?_; refine H_of_R (R_ext H fun t21 H => ?_)
    refine vl_n ?_; refine H_of_R (R_assign (v := t20) rfl ?_)
    refine vl_n ?_; refine H_of_R (R_assign (v := t21) rfl ?_)
    refine vl_e ?_; refine WPc_seq' ?_; refine W_drawn [0, 1, 3, 7, 15, 3, 63, 127, 255, 511, 1023, 511, 2559, 8191, 16383, 32767] (.take 0 (.take 1 (.take 2 (.take 3 (.take 5 (.alt 4 (.alt 6 (.take 7 (.take 8 (.take 9 (.take 10 (.take 11 (.alt 12 (.alt 13 (.take 14 (.take 15 .done)) .none) .none)))))) .none) .none)))))) mixed (by kernel_rfl) ?_; refine tkP rfl ?_; refine R_move (v := t21) rfl ⟨fun _ => trivial, ?_⟩
    refine tkP rfl ?_; refine R_move (v := t21) rfl ⟨fun _ => trivial, ?_⟩
    obtain ⟨b, hb, H1, H2⟩ := H
    cases b
    · have H := H2 rfl; clear H1 H2
      refine tk_s rfl rfl (nbT hb) ?_; refine tk_s rfl rfl (nbT hb) ?_; refine tk_s rfl rfl (nbT hb) ?_; refine alt_s rfl rfl (nbT hb) ?_ vp_none
      refine alt_s rfl rfl (nbT hb) ?_ vp_none
      refine tkP rfl ?_; refine R_pickC (v := (.bool false)) false hb rfl ⟨fun _ => trivial, ?_⟩
      refine tkP rfl ?_; refine R_move (v := (.bool false)) rfl ⟨fun _ => trivial, ?_⟩
      refine tk_s rfl rfl (nbT rfl) ?_; refine tk_s rfl rfl (nbT rfl) ?_; refine tk_s rfl rfl (nbT rfl) ?_; refine alt_s rfl rfl (nbT rfl) ?_ vp_none
      refine alt_s rfl rfl (nbT rfl) ?_ vp_none
      refine tkP rfl ?_; refine R_pickC (v := (.bool false)) false rfl rfl ⟨fun _ => trivial, ?_⟩
      refine tkP rfl ?_; refine R_assign (v := (.bool false)) rfl ⟨fun _ => trivial, ?_⟩
      refine vp_done ?_; refine WPc_ret ?_; refine resH_of rfl ?_; exact H
    · have H := H1 rfl; clear H1 H2
      refine tkPy rfl rfl hb ?_; refine R_fld TF_24_1 H fun t24 H => ⟨fun _ => trivial, ?_⟩
      refine tkLy rfl rfl hb ?_; refine R_load1 T1_3 H fun at25 t25 hat25 _ H => ?_; refine tkLy rfl rfl hb ?_; refine R_loadN TN_37 H fun at27 xt27 hat27 _ H St27 hSt27 => ?_; refine alt_y rfl rfl hb ?_ vp_none
      refine H_call HB_31 H fun t26 h ⟨S, H⟩ => ⟨(hcons rfl (hSt27 _ (still_N S hat27 rfl)) (hskip rfl hnil)), ?_⟩
      refine alt_y rfl rfl hb ?_ vp_none
      refine H_call HB_33 H fun t28 h H => ⟨(hskip rfl hnil), ?_⟩
      refine tkP rfl ?_; refine R_pickC (v := t28) true hb rfl ⟨fun _ => trivial, ?_⟩
      refine tkP rfl ?_; refine R_move (v := t28) rfl ⟨fun _ => trivial, ?_⟩
      obtain ⟨b_2, hb_2, H1, H2⟩ := H
      cases b_2
      · have H := H2 rfl; clear H1 H2
        refine tk_s rfl rfl (nbT hb_2) ?_; refine tk_s rfl rfl (nbT hb_2) ?_; refine tk_s rfl rfl (nbT hb_2) ?_; refine alt_s rfl rfl (nbT hb_2) ?_ vp_none
        refine alt_s rfl rfl (nbT hb_2) ?_ vp_none
        refine tkP rfl ?_; refine R_pickC (v := (.bool false)) false hb_2 rfl ⟨fun _ => trivial, ?_⟩
        refine tkP rfl ?_; refine R_assign (v := (.bool false)) rfl ⟨fun _ => trivial, ?_⟩
        refine vp_done ?_; refine WPc_ret ?_; refine resH_of rfl ?_; exact H
      · have H := H1 rfl; clear H1 H2
        refine tkPy rfl rfl hb_2 ?_; refine R_fld TF_24_0 H fun t31 H => ⟨fun _ => trivial, ?_⟩
        refine tkLy rfl rfl hb_2 ?_; refine R_load1 T1_22 H fun at32 t32 hat32 _ H => ?_; refine tkLy rfl rfl hb_2 ?_; refine R_loadN TN_37 H fun at33 xt33 hat33 _ H St33 hSt33 => ?_; refine alt_y rfl rfl hb_2 ?_ vp_none
        refine H_call HB_22 H fun t34 h ⟨S_2, H⟩ => ⟨(hskip rfl (hcons rfl (still_1 S_2 hat32) hnil)), ?_⟩
        refine alt_y rfl rfl hb_2 ?_ vp_none
        refine H_call HB_15 H fun t35 h H => ⟨(hskip rfl hnil), ?_⟩
        refine tkP rfl ?_; refine R_pickC (v := t35) true hb_2 rfl ⟨fun _ => trivial, ?_⟩
        refine tkP rfl ?_; refine R_assign (v := t35) rfl ⟨fun _ => trivial, ?_⟩
        refine vp_done ?_; refine WPc_ret ?_; refine resH_of rfl ?_; exact H
  refine WPc_seq' ?_; refine W_region (by kernel_rfl) ?_; refine vl_n ?_; refine H_of_R (R_fld TF_37_0 H fun t7 H => ?_)
  refine vl_n ?_; refine H_of_R (R_load1 T1_25 H fun _ t8 _ _ H => ?_)
  refine vl_n ?_; refine H_of_R (R_len Try.underlying25 H fun t9 H => ?_)
  refine vl_n ?_; refine H_of_R (R_eqI H fun t10 H => ?_)
  refine vl_n ?_; refine H_of_R (R_move (v := t10) rfl ?_)
  obtain ⟨b, hb, H1, H2⟩ := H
  cases b
  · have H := H2 rfl; clear H1 H2
    refine vl_s rfl (nbT hb) ?_; refine vl_s rfl (nbT hb) ?_; refine vl_s rfl (nbT hb) ?_; refine vl_s rfl (nbT hb) ?_; refine vl_n ?_; refine H_of_R (R_pickC (v := (.bool false)) false hb rfl ?_)
    refine vl_e ?_; refine WPc_cond (t := false) rfl (fun hh => by cases hh) (fun _ => ?_)
    refine WPc_skip ?_; exact H
  · have H := H1 rfl; clear H1 H2
    refine vl_y rfl hb ?_; refine H_of_R (R_fld TF_37_1 H fun t12 H => ?_)
    refine vl_y rfl hb ?_; refine H_of_R (R_load1 T1_35 H fun _ t13 _ _ H => ?_)
    refine vl_y rfl hb ?_; refine H_of_R (R_len Try.underlying35 H fun t14 H => ?_)
    refine vl_y rfl hb ?_; refine H_of_R (R_eqI H fun t15 H => ?_)
    refine vl_n ?_; refine H_of_R (R_pickC (v := t15) true hb rfl ?_)
    refine vl_e ?_; obtain ⟨b_2, hc, H1, H2⟩ := H; refine WPc_cond hc (fun hh => ?_) (fun hh => ?_)
    · have H := H1 hh; clear H1 H2
      refine WPc_seq' ?_; refine W_region (by kernel_rfl) ?_; refine vl_n ?_; refine H_of_R (R_assign (v := (.bool true)) rfl ?_)
      refine vl_e ?_; refine WPc_ret ?_; refine resH_of rfl ?_; exact H
    · have H := H2 hh; clear H1 H2
      refine WPc_skip ?_; exact H
end Go.Proofs.Ytljecmjdmdjldaa
end
section
namespace Go.Proofs.Ytljecmjdmdjldaa
open Go.Hp
set_option maxRecDepth 100000
set_option maxHeartbeats 8000000
/-! ### laws.valid -/
def l_valid.sh (a0 a1 : Value) (h : Heap) (Q : Value → Heap → Prop) : Prop := box 24 a0 h fun t2 h => box 37 a1 h fun t3 h => loadN 3 t2 h fun t5 => l_fits.call #[t5] h fun t6 h => br t6 true (loadN 3 t2 h fun t8 => loadN 3 t3 h fun t9 => s_Valid.call #[t8, t9] h fun t10 h => Q t10 h) (Q (.bool false) h)
theorem l_valid.body (a0 a1 : Value) (h : Heap) (Q : Value → Heap → Prop) (H : l_valid.sh a0 a1 h Q) : l_valid.call #[a0, a1] h Q := by
  refine callsH_of (args := [a0, a1]) Try.func20 rfl rfl ?_; unfold l_valid.sh at H; refine WPc_seq' ?_; refine W_region (by kernel_rfl) ?_; refine vl_n ?_; refine H_box H fun t2 h H => ?_; refine vl_n ?_; refine H_box H fun t3 h H => ?_; refine vl_n ?_; refine H_of_R (R_assign (v := (.bool false)) rfl ?_)
  refine vl_e ?_; refine WPc_seq' ?_; refine W_region (by kernel_rfl) ?_; refine vl_n ?_; refine H_of_R (R_loadN TN_24 H fun _ t5 _ _ H _ _ => ?_)
  refine vl_n ?_; refine H_call HB_14 H fun t6 h H => ?_; refine vl_n ?_; refine H_of_R (R_move (v := t6) rfl ?_)
  obtain ⟨b, hb, H1, H2⟩ := H
  cases b
  · have H := H2 rfl; clear H1 H2
    refine vl_s rfl (nbT hb) ?_; refine vl_s rfl (nbT hb) ?_; refine vl_s rfl (nbT hb) ?_; refine vl_n ?_; refine H_of_R (R_pickC (v := (.bool false)) false hb rfl ?_)
    refine vl_n ?_; refine H_of_R (R_assign (v := (.bool false)) rfl ?_)
    refine vl_e ?_; refine WPc_ret ?_; refine resH_of rfl ?_; exact H
  · have H := H1 rfl; clear H1 H2
    refine vl_y rfl hb ?_; refine H_of_R (R_loadN TN_24 H fun _ t8 _ _ H _ _ => ?_)
    refine vl_y rfl hb ?_; refine H_of_R (R_loadN TN_37 H fun _ t9 _ _ H _ _ => ?_)
    refine vl_y rfl hb ?_; refine H_call HB_53 H fun t10 h H => ?_; refine vl_n ?_; refine H_of_R (R_pickC (v := t10) true hb rfl ?_)
    refine vl_n ?_; refine H_of_R (R_assign (v := t10) rfl ?_)
    refine vl_e ?_; refine WPc_ret ?_; refine resH_of rfl ?_; exact H
/-! ### (*pub/tidwallbtree.BTreeG[impl.Item]).DoorPlant -/
def BTreeG_I_DoorPlant.sh (a0 a1 : Value) (h : Heap) (Q : Value → Heap → Prop) : Prop := box 88 a1 h fun t3 h => fld 0 t3 fun t6 => load1 t6 h fun t7 => fld 0 t3 fun t8 => load1 t8 h fun t9 => nilck t9 fun t10 => fld 1 t10 fun t11 => load1 t11 h fun t12 => nilck a0 fun t13 => fld 2 t13 fun t14 => store1 t14 t7 h fun h => nilck a0 fun t15 => fld 3 t15 fun t16 => store1 t16 t12 h fun h => Q (.tuple #[]) h
theorem BTreeG_I_DoorPlant.body (a0 a1 : Value) (h : Heap) (Q : Value → Heap → Prop) (H : BTreeG_I_DoorPlant.sh a0 a1 h Q) : BTreeG_I_DoorPlant.call #[a0, a1] h Q := by
  refine callsH_of (args := [a0, a1]) Try.func90 rfl rfl ?_; unfold BTreeG_I_DoorPlant.sh at H; refine WPc_seq' ?_; refine W_region (by kernel_rfl) ?_; refine vl_n ?_; refine H_box H fun t3 h H => ?_; refine vl_e ?_; refine W_drawn [0, 0, 0, 4, 0, 16, 48, 112, 240, 509, 1021, 2045, 4095, 8191, 16383] (.take 0 (.take 1 (.take 2 (.take 3 (.take 4 (.take 5 (.take 6 (.take 7 (.take 8 (.take 9 (.take 10 (.alt 11 (.take 12 (.take 13 (.alt 14 .done .none))) .none)))))))))))) mixed (by kernel_rfl) ?_; refine tkP rfl ?_; refine R_move (v := a0) rfl ⟨fun _ => trivial, ?_⟩
  refine tkP rfl ?_; refine R_move (v := a0) rfl ⟨fun _ => trivial, ?_⟩
  refine tkP rfl ?_; refine R_fld TF_88_0 H fun t6 H => ⟨fun _ => trivial, ?_⟩
  refine tkL rfl ?_; refine R_load1 T1_86 H fun at7 t7 hat7 _ H => ?_; refine tkP rfl ?_; refine R_fld TF_88_0 H fun t8 H => ⟨fun _ => trivial, ?_⟩
  refine tkL rfl ?_; refine R_load1 T1_86 H fun at9 t9 hat9 _ H => ?_; refine tkP rfl ?_; refine R_nil H fun t10 H => ⟨fun _ => trivial, ?_⟩
  refine tkP rfl ?_; refine R_fld TF_141_1 H fun t11 H => ⟨fun _ => trivial, ?_⟩
  refine tkL rfl ?_; refine R_load1 T1_3 H fun at12 t12 hat12 _ H => ?_; refine tkP rfl ?_; refine R_nil H fun t13 H => ⟨fun _ => trivial, ?_⟩
  refine tkP rfl ?_; refine R_fld TF_135_2 H fun t14 H => ⟨fun _ => trivial, ?_⟩
  refine alt_n rfl ?_ vp_none
  refine H_store1 TS_86 H fun h H => ⟨(hskip rfl (hskip rfl (hskip rfl hnil))), ?_⟩
  refine tkP rfl ?_; refine R_nil H fun t15 H => ⟨fun _ => trivial, ?_⟩
  refine tkP rfl ?_; refine R_fld TF_135_3 H fun t16 H => ⟨fun _ => trivial, ?_⟩
  refine alt_n rfl ?_ vp_none
  refine H_store1 TS_3 H fun h H => ⟨hnil, ?_⟩
  refine vp_done ?_; refine resH_of rfl ?_; exact H
/-! ### impl.stand -/
def i_stand.j1 (s5 : Value) (h : Heap) (Q : Value → Heap → Prop) : Prop := Q s5 h
def i_stand.sh (a0 a1 : Value) (h : Heap) (Q : Value → Heap → Prop) : Prop := box 24 a0 h fun t2 h => box 37 a1 h fun t3 h => loadN 3 t2 h fun t6 => i_grow.call #[t6, (.slice none 0 0)] h fun t7 h => fld 0 t3 fun t8 => load1 t8 h fun t9 => lenV t9 fun t10 => cmpI (fun a b => decide (a > b)) t10 (.int .i64 0) fun t11 => br t11 false (fld 1 t3 fun t13 => load1 t13 h fun t14 => lenV t14 fun t15 => cmpI (fun a b => decide (a > b)) t15 (.int .i64 0) fun t16 => ifV t16 (loadN 3 t3 h fun t20 => i_planted.call #[t7, t20] h fun t21 h => BTreeG_I_DoorPlant.call #[t7, t21] h fun t22 h => i_stand.j1 t7 h Q) (i_stand.j1 t7 h Q)) (loadN 3 t3 h fun t20_2 => i_planted.call #[t7, t20_2] h fun t21_2 h => BTreeG_I_DoorPlant.call #[t7, t21_2] h fun t22_2 h => i_stand.j1 t7 h Q)
theorem i_stand.body (a0 a1 : Value) (h : Heap) (Q : Value → Heap → Prop) (H : i_stand.sh a0 a1 h Q) : i_stand.call #[a0, a1] h Q := by
  refine callsH_of (args := [a0, a1]) Try.func55 rfl rfl ?_; unfold i_stand.sh at H; refine WPc_seq' ?_; refine W_region (by kernel_rfl) ?_; refine vl_n ?_; refine H_box H fun t2 h H => ?_; refine vl_n ?_; refine H_box H fun t3 h H => ?_; refine vl_n ?_; refine H_of_R (R_assign (v := (.pointer none)) rfl ?_)
  refine vl_e ?_; refine WPc_seq' ?_; refine W_region (by kernel_rfl) ?_; refine vl_n ?_; refine H_of_R (R_loadN TN_24 H fun _ t6 _ _ H _ _ => ?_)
  refine vl_n ?_; refine H_call HB_50 H fun t7 h H => ?_; refine vl_n ?_; refine H_of_R (R_assign (v := t7) rfl ?_)
  refine vl_e ?_; refine WPc_seq (fun e h => i_stand.j1 (e 5) h Q) ?_ (fun e h H => ?_)
  rotate_left
  · unfold i_stand.j1 at H
    refine WPc_seq' ?_; refine W_region (by kernel_rfl) ?_; refine vl_n ?_; refine H_of_R (R_move (v := (e 5)) rfl ?_)
    refine vl_n ?_; refine H_of_R (R_assign (v := (e 5)) rfl ?_)
    refine vl_e ?_; refine WPc_ret ?_; refine resH_of rfl ?_; exact H
  refine WPc_seq' ?_; refine W_region (by kernel_rfl) ?_; refine vl_n ?_; refine H_of_R (R_fld TF_37_0 H fun t8 H => ?_)
  refine vl_n ?_; refine H_of_R (R_load1 T1_25 H fun _ t9 _ _ H => ?_)
  refine vl_n ?_; refine H_of_R (R_len Try.underlying25 H fun t10 H => ?_)
  refine vl_n ?_; refine H_of_R (R_gtr H fun t11 H => ?_)
  refine vl_n ?_; refine H_of_R (R_move (v := t11) rfl ?_)
  obtain ⟨b, hb, H1, H2⟩ := H
  cases b
  · have H := H1 rfl; clear H1 H2
    refine vl_y rfl hb ?_; refine H_of_R (R_fld TF_37_1 H fun t13 H => ?_)
    refine vl_y rfl hb ?_; refine H_of_R (R_load1 T1_35 H fun _ t14 _ _ H => ?_)
    refine vl_y rfl hb ?_; refine H_of_R (R_len Try.underlying35 H fun t15 H => ?_)
    refine vl_y rfl hb ?_; refine H_of_R (R_gtr H fun t16 H => ?_)
    refine vl_n ?_; refine H_of_R (R_pickC (v := t16) false hb rfl ?_)
    refine vl_e ?_; obtain ⟨b_2, hc, H1, H2⟩ := H; refine WPc_cond hc (fun hh => ?_) (fun hh => ?_)
    · have H := H1 hh; clear H1 H2
      refine W_region (by kernel_rfl) ?_; refine vl_n ?_; refine H_of_R (R_move (v := t7) rfl ?_)
      refine vl_n ?_; refine H_of_R (R_move (v := t7) rfl ?_)
      refine vl_n ?_; refine H_of_R (R_loadN TN_37 H fun _ t20 _ _ H _ _ => ?_)
      refine vl_n ?_; refine H_call HB_52 H fun t21 h H => ?_; refine vl_n ?_; refine H_call HB_90 H fun t22 h H => ?_; refine vl_e ?_; exact H
    · have H := H2 hh; clear H1 H2
      refine WPc_skip ?_; exact H
  · have H := H2 rfl; clear H1 H2
    refine vl_s rfl (nbF hb) ?_; refine vl_s rfl (nbF hb) ?_; refine vl_s rfl (nbF hb) ?_; refine vl_s rfl (nbF hb) ?_; refine vl_n ?_; refine H_of_R (R_pickC (v := (.bool true)) true hb rfl ?_)
    refine vl_e ?_; refine WPc_cond (t := true) rfl (fun _ => ?_) (fun hh => by cases hh)
    refine W_region (by kernel_rfl) ?_; refine vl_n ?_; refine H_of_R (R_move (v := t7) rfl ?_)
    refine vl_n ?_; refine H_of_R (R_move (v := t7) rfl ?_)
    refine vl_n ?_; refine H_of_R (R_loadN TN_37 H fun _ t20_2 _ _ H _ _ => ?_)
    refine vl_n ?_; refine H_call HB_52 H fun t21_2 h H => ?_; refine vl_n ?_; refine H_call HB_90 H fun t22_2 h H => ?_; refine vl_e ?_; exact H
/-! ### (*pub/tidwallbtree.BTreeG[impl.Item]).Len -/
def BTreeG_I_Len.sh (a0 : Value) (h : Heap) (Q : Value → Heap → Prop) : Prop := nilck a0 fun t4 => fld 3 t4 fun t5 => load1 t5 h fun t6 => Q t6 h
theorem BTreeG_I_Len.body (a0 : Value) (h : Heap) (Q : Value → Heap → Prop) (H : BTreeG_I_Len.sh a0 h Q) : BTreeG_I_Len.call #[a0] h Q := by
  refine callsH_of (args := [a0]) Try.func57 rfl rfl ?_; unfold BTreeG_I_Len.sh at H; refine WPc_seq' ?_; refine W_region (by kernel_rfl) ?_; refine vl_n ?_; refine H_of_R (R_assign (v := (.int .i64 0)) rfl ?_)
  refine vl_e ?_; refine WPc_seq' ?_; refine W_region (by kernel_rfl) ?_; refine vl_n ?_; refine H_of_R (R_move (v := a0) rfl ?_)
  refine vl_n ?_; refine H_of_R (R_nil H fun t4 H => ?_)
  refine vl_n ?_; refine H_of_R (R_fld TF_135_3 H fun t5 H => ?_)
  refine vl_n ?_; refine H_of_R (R_load1 T1_3 H fun _ t6 _ _ H => ?_)
  refine vl_n ?_; refine H_of_R (R_assign (v := t6) rfl ?_)
  refine vl_e ?_; refine WPc_ret ?_; refine resH_of rfl ?_; exact H
/-! ### (*pub/tidwallbtree.BTreeG[impl.Item]).lock -/
def BTreeG_I_lock.sh (a0 a1 : Value) (h : Heap) (Q : Value → Heap → Prop) : Prop := Q (.bool false) h
theorem BTreeG_I_lock.body (a0 a1 : Value) (h : Heap) (Q : Value → Heap → Prop) (H : BTreeG_I_lock.sh a0 a1 h Q) : BTreeG_I_lock.call #[a0, a1] h Q := by
  refine callsH_of (args := [a0, a1]) Try.func92 rfl rfl ?_; unfold BTreeG_I_lock.sh at H; refine WPc_seq' ?_; refine W_region (by kernel_rfl) ?_; refine vl_n ?_; refine H_of_R (R_assign (v := (.bool false)) rfl ?_)
  refine vl_e ?_; refine WPc_seq' ?_; refine W_region (by kernel_rfl) ?_; refine vl_n ?_; refine H_of_R (R_assign (v := (.bool false)) rfl ?_)
  refine vl_e ?_; refine WPc_ret ?_; refine resH_of rfl ?_; exact H
/-! ### (*pub/tidwallbtree.BTreeG[impl.Item]).nodeItems -/
def BTreeG_I_nodeItems.j2 (s0 s2 s3 s9 : Value) (h : Heap) (Q : Value → Heap → Prop) : Prop := nilck s9 fun t56 => fld 3 t56 fun t57 => load1 t57 h fun t58 => nilck t58 fun t59 => load1 t59 h fun t60 => nilck s9 fun t62 => fld 3 t62 fun t63 => load1 t63 h fun t64 => nilck t64 fun t65 => load1 t65 h fun t66 => lenV t66 fun t67 => arith (· - ·) t67 (.int .i64 1) fun t68 => idx 1 t60 t68 fun t69 => BTreeG_I_nodeItems.call #[s0, t69, s2, s3] h fun t72 h => Q t72 h
def BTreeG_I_nodeItems.j5 (s0 s2 s3 s9 s10 : Value) (h : Heap) (K1 : List Value → Heap → Prop) (Q : Value → Heap → Prop) : Prop := arith (· + ·) s10 (.int .i64 1) fun t31 => K1 [s2, t31] h
def BTreeG_I_nodeItems.j4 (s0 s2 s3 s9 s10 : Value) (h : Heap) (K1 : List Value → Heap → Prop) (Q : Value → Heap → Prop) : Prop := nilck s9 fun t34 => fld 3 t34 fun t35 => load1 t35 h fun t36 => nilck t36 fun t37 => load1 t37 h fun t38 => idx 1 t38 s10 fun t40 => BTreeG_I_nodeItems.call #[s0, t40, s2, s3] h fun t43 h => nilck s9 fun t46 => fld 2 t46 fun t47 => load1 t47 h fun t48 => idx 2 t48 s10 fun t50 => loadN 2 t50 h fun t51 => mkSl (if 1 * 2 = 0 then [] else zeros [(.int .i64 0), (.int .i64 0)] 1) 1 [(0 * 2, 2, t51)] 27 h fun t52 h => app 27 2 16 [(.int .i64 0), (.int .i64 0)] t43 t52 h fun t53 h => BTreeG_I_nodeItems.j5 s0 t53 s3 s9 s10 h K1 Q
def BTreeG_I_nodeItems.l3.b (c0 c3 c9 s2 s10 : Value) (h : Heap) (K1 : List Value → Heap → Prop) (Q : Value → Heap → Prop) : Prop := nilck c9 fun t25 => fld 2 t25 fun t26 => load1 t26 h fun t27 => lenV t27 fun t28 => cmpI (fun a b => decide (a < b)) s10 t28 fun t29 => ifV t29 (BTreeG_I_nodeItems.j4 c0 s2 c3 c9 s10 h K1 Q) (BTreeG_I_nodeItems.j2 c0 s2 c3 c9 h Q)
def BTreeG_I_nodeItems.j1 (s0 s2 s3 s9 : Value) (h : Heap) (Q : Value → Heap → Prop) : Prop := loopC (fun c s h K1 => BTreeG_I_nodeItems.l3.b (c.getD 0 undef) (c.getD 1 undef) (c.getD 2 undef) (s.getD 0 undef) (s.getD 1 undef) h K1 Q) [s0, s3, s9] [s2, (.int .i64 0)] h
def BTreeG_I_nodeItems.sh (a0 a1 a2 a3 : Value) (h : Heap) (Q : Value → Heap → Prop) : Prop := BTreeG_I_isoLoad.call #[a0, a1, a3] h fun t14 h => node_I_leaf.call #[t14] h fun t16 h => ifV t16 (nilck t14 fun t19 => fld 2 t19 fun t20 => load1 t20 h fun t21 => app 27 2 16 [(.int .i64 0), (.int .i64 0)] a2 t21 h fun t22 h => Q t22 h) (BTreeG_I_nodeItems.j1 a0 a2 a3 t14 h Q)
theorem BTreeG_I_nodeItems.body (a0 a1 a2 a3 : Value) (h : Heap) (Q : Value → Heap → Prop) (H : BTreeG_I_nodeItems.sh a0 a1 a2 a3 h Q) : BTreeG_I_nodeItems.call #[a0, a1, a2, a3] h Q := by
  refine callsH_of (args := [a0, a1, a2, a3]) Try.func129 rfl rfl ?_; unfold BTreeG_I_nodeItems.sh at H; refine WPc_seq' ?_; refine W_region (by kernel_rfl) ?_; refine vl_n ?_; refine H_of_R (R_assign (v := (.slice none 0 0)) rfl ?_)
  refine vl_e ?_; refine WPc_seq' ?_; refine W_region (by kernel_rfl) ?_; refine vl_n ?_; refine H_of_R (R_move (v := a0) rfl ?_)
  refine vl_n ?_; refine H_of_R (R_move (v := a1) rfl ?_)
  refine vl_n ?_; refine H_of_R (R_move (v := a3) rfl ?_)
  refine vl_n ?_; refine H_call HB_97 H fun t14 h H => ?_; refine vl_n ?_; refine H_of_R (R_assign (v := t14) rfl ?_)
  refine vl_e ?_; refine WPc_seq (fun e h => BTreeG_I_nodeItems.j1 (e 0) (e 2) (e 3) (e 9) h Q) ?_ (fun e h H => ?_)
  rotate_left
  · unfold BTreeG_I_nodeItems.j1 at H
    refine WPc_seq (fun e h => BTreeG_I_nodeItems.j2 (e 0) (e 2) (e 3) (e 9) h Q) ?_ (fun e h H => ?_)
    rotate_left
    · unfold BTreeG_I_nodeItems.j2 at H
      refine WPc_seq' ?_; refine W_drawn [0, 0, 2, 6, 14, 30, 62, 0, 128, 384, 896, 1920, 3968, 8064, 16256, 32766, 0, 0, 262143, 524287] (.take 0 (.take 1 (.take 2 (.take 3 (.take 4 (.take 5 (.take 6 (.take 7 (.take 8 (.take 9 (.take 10 (.take 11 (.take 12 (.take 13 (.take 14 (.take 15 (.take 16 (.take 17 (.alt 18 (.take 19 .done) .none))))))))))))))))))) mixed (by kernel_rfl) ?_; refine tkP rfl ?_; refine R_move (v := (e 0)) rfl ⟨fun _ => trivial, ?_⟩
      refine tkP rfl ?_; refine R_move (v := (e 9)) rfl ⟨fun _ => trivial, ?_⟩
      refine tkP rfl ?_; refine R_nil H fun t56 H => ⟨fun _ => trivial, ?_⟩
      refine tkP rfl ?_; refine R_fld TF_141_3 H fun t57 H => ⟨fun _ => trivial, ?_⟩
      refine tkL rfl ?_; refine R_load1 T1_139 H fun at58 t58 hat58 _ H => ?_; refine tkP rfl ?_; refine R_nil H fun t59 H => ⟨fun _ => trivial, ?_⟩
      refine tkL rfl ?_; refine R_load1 T1_138 H fun at60 t60 hat60 _ H => ?_; refine tkP rfl ?_; refine R_move (v := (e 9)) rfl ⟨fun _ => trivial, ?_⟩
      refine tkP rfl ?_; refine R_nil H fun t62 H => ⟨fun _ => trivial, ?_⟩
      refine tkP rfl ?_; refine R_fld TF_141_3 H fun t63 H => ⟨fun _ => trivial, ?_⟩
      refine tkL rfl ?_; refine R_load1 T1_139 H fun at64 t64 hat64 _ H => ?_; refine tkP rfl ?_; refine R_nil H fun t65 H => ⟨fun _ => trivial, ?_⟩
      refine tkL rfl ?_; refine R_load1 T1_138 H fun at66 t66 hat66 _ H => ?_; refine tkP rfl ?_; refine R_len Try.underlying138 H fun t67 H => ⟨fun _ => trivial, ?_⟩
      refine tkP rfl ?_; refine R_sub H fun t68 H => ⟨fun _ => trivial, ?_⟩
      refine tkP rfl ?_; refine R_idx TE_138 H fun t69 H => ⟨fun _ => trivial, ?_⟩
      refine tkP rfl ?_; refine R_move (v := (e 2)) rfl ⟨fun _ => trivial, ?_⟩
      refine tkP rfl ?_; refine R_move (v := (e 3)) rfl ⟨fun _ => trivial, ?_⟩
      refine alt_n rfl ?_ vp_none
      refine H_call HB_129 H fun t72 h H => ⟨(hskip rfl (hskip rfl (hskip rfl (hskip rfl hnil)))), ?_⟩
      refine tkP rfl ?_; refine R_assign (v := t72) rfl ⟨fun _ => trivial, ?_⟩
      refine vp_done ?_; refine WPc_ret ?_; refine resH_of rfl ?_; exact H
    refine WPc_seq' ?_; refine W_region (by kernel_rfl) ?_; refine vl_n ?_; refine H_of_R (R_assign (v := (.int .i64 0)) rfl ?_)
    refine vl_e ?_; refine WPc_block ?_; refine loop_at (fun e => [e 2, e 10]) (fun e => [e 0, e 3, e 9]) H rfl rfl ?_; intro K1 e1 h H hin1
    replace H : BTreeG_I_nodeItems.l3.b (e1 0) (e1 3) (e1 9) (e1 2) (e1 10) h K1 Q := H
    unfold BTreeG_I_nodeItems.l3.b at H; clear hin1; refine WPc_seq (fun e h => BTreeG_I_nodeItems.j4 (e 0) (e 2) (e 3) (e 9) (e 10) h K1 Q ∧ [e1 0, e1 3, e1 9] = [e 0, e 3, e 9]) ?_ (fun e h ⟨H, hq1⟩ => ?_)
    rotate_left
    · unfold BTreeG_I_nodeItems.j4 at H
      refine WPc_seq (fun e h => BTreeG_I_nodeItems.j5 (e 0) (e 2) (e 3) (e 9) (e 10) h K1 Q ∧ [e1 0, e1 3, e1 9] = [e 0, e 3, e 9]) ?_ (fun e h ⟨H, hq1⟩ => ?_)
      rotate_left
      · unfold BTreeG_I_nodeItems.j5 at H
        refine W_region (by kernel_rfl) ?_; refine vl_n ?_; refine H_of_R (R_move (v := (e 10)) rfl ?_)
        refine vl_n ?_; refine H_of_R (R_add H fun t31 H => ?_)
        refine vl_n ?_; refine H_of_R (R_assign (v := t31) rfl ?_)
        refine vl_e ?_; exact ⟨H, hq1⟩
      refine WPc_block ?_; refine WPc_seq' ?_; refine W_region (by kernel_rfl) ?_; refine vl_n ?_; refine H_of_R (R_move (v := (e 0)) rfl ?_)
      refine vl_n ?_; refine H_of_R (R_move (v := (e 9)) rfl ?_)
      refine vl_n ?_; refine H_of_R (R_nil H fun t34 H => ?_)
      refine vl_n ?_; refine H_of_R (R_fld TF_141_3 H fun t35 H => ?_)
      refine vl_n ?_; refine H_of_R (R_load1 T1_139 H fun _ t36 _ _ H => ?_)
      refine vl_n ?_; refine H_of_R (R_nil H fun t37 H => ?_)
      refine vl_n ?_; refine H_of_R (R_load1 T1_138 H fun _ t38 _ _ H => ?_)
      refine vl_n ?_; refine H_of_R (R_move (v := (e 10)) rfl ?_)
      refine vl_n ?_; refine H_of_R (R_idx TE_138 H fun t40 H => ?_)
      refine vl_n ?_; refine H_of_R (R_move (v := (e 2)) rfl ?_)
      refine vl_n ?_; refine H_of_R (R_move (v := (e 3)) rfl ?_)
      refine vl_n ?_; refine H_call HB_129 H fun t43 h H => ?_; refine vl_n ?_; refine H_of_R (R_assign (v := t43) rfl ?_)
      refine vl_e ?_; refine W_region (by kernel_rfl) ?_; refine vl_n ?_; refine H_of_R (R_move (v := t43) rfl ?_)
      refine vl_n ?_; refine H_of_R (R_move (v := (e 9)) rfl ?_)
      refine vl_n ?_; refine H_of_R (R_nil H fun t46 H => ?_)
      refine vl_n ?_; refine H_of_R (R_fld TF_141_2 H fun t47 H => ?_)
      refine vl_n ?_; refine H_of_R (R_load1 T1_25 H fun _ t48 _ _ H => ?_)
      refine vl_n ?_; refine H_of_R (R_move (v := (e 10)) rfl ?_)
      refine vl_n ?_; refine H_of_R (R_idx TE_25 H fun t50 H => ?_)
      refine vl_n ?_; refine H_of_R (R_loadN TN_27 H fun _ t51 _ _ H _ _ => ?_)
      refine vl_n ?_; refine H_mkSl TZ_25 (by decide) rfl H rfl fun t52 h H => ?_; refine vl_n ?_; refine H_app TZ_25 TU_25 H fun t53 h H => ?_; refine vl_n ?_; refine H_of_R (R_assign (v := t53) rfl ?_)
      refine vl_e ?_; exact ⟨H, hq1⟩
    refine WPc_seq' ?_; refine W_region (by kernel_rfl) ?_; refine vl_n ?_; refine H_of_R (R_move (v := (e1 10)) rfl ?_)
    refine vl_n ?_; refine H_of_R (R_move (v := (e1 9)) rfl ?_)
    refine vl_n ?_; refine H_of_R (R_nil H fun t25 H => ?_)
    refine vl_n ?_; refine H_of_R (R_fld TF_141_2 H fun t26 H => ?_)
    refine vl_n ?_; refine H_of_R (R_load1 T1_25 H fun _ t27 _ _ H => ?_)
    refine vl_n ?_; refine H_of_R (R_len Try.underlying25 H fun t28 H => ?_)
    refine vl_n ?_; refine H_of_R (R_lss H fun t29 H => ?_)
    refine vl_e ?_; obtain ⟨b, hc, H1, H2⟩ := H; refine WPc_cond hc (fun hh => ?_) (fun hh => ?_)
    · have H := H1 hh; clear H1 H2
      refine WPc_skip ?_; exact ⟨H, rfl⟩
    · have H := H2 hh; clear H1 H2
      refine WPc_exit ?_; exact H
  refine WPc_seq' ?_; refine W_region (by kernel_rfl) ?_; refine vl_n ?_; refine H_of_R (R_move (v := t14) rfl ?_)
  refine vl_n ?_; refine H_call HB_94 H fun t16 h H => ?_; refine vl_e ?_; obtain ⟨b, hc, H1, H2⟩ := H; refine WPc_cond hc (fun hh => ?_) (fun hh => ?_)
  · have H := H1 hh; clear H1 H2
    refine WPc_seq' ?_; refine W_region (by kernel_rfl) ?_; refine vl_n ?_; refine H_of_R (R_move (v := a2) rfl ?_)
    refine vl_n ?_; refine H_of_R (R_move (v := t14) rfl ?_)
    refine vl_n ?_; refine H_of_R (R_nil H fun t19 H => ?_)
    refine vl_n ?_; refine H_of_R (R_fld TF_141_2 H fun t20 H => ?_)
    refine vl_n ?_; refine H_of_R (R_load1 T1_25 H fun _ t21 _ _ H => ?_)
    refine vl_n ?_; refine H_app TZ_25 TU_25 H fun t22 h H => ?_; refine vl_n ?_; refine H_of_R (R_assign (v := t22) rfl ?_)
    refine vl_e ?_; refine WPc_ret ?_; refine resH_of rfl ?_; exact H
  · have H := H2 hh; clear H1 H2
    refine WPc_skip ?_; exact H
/-! ### (*pub/tidwallbtree.BTreeG[impl.Item]).items -/
def BTreeG_I_items.j2 (s5 : Value) (h : Heap) (Q : Value → Heap → Prop) : Prop := Q s5 h
def BTreeG_I_items.j1 (s0 s1 : Value) (h : Heap) (Q : Value → Heap → Prop) : Prop := BTreeG_I_Len.call #[s0] h fun t12 h => mks 27 2 16 [(.int .i64 0), (.int .i64 0)] (.int .i64 0) t12 h fun t13 h => nilck s0 fun t15 => fld 2 t15 fun t16 => load1 t16 h fun t17 => neNilP t17 fun t18 => ifV t18 (nilck s0 fun t21 => fld 2 t21 fun t22 => BTreeG_I_nodeItems.call #[s0, t22, t13, s1] h fun t25 h => BTreeG_I_items.j2 t25 h Q) (BTreeG_I_items.j2 t13 h Q)
def BTreeG_I_items.sh (a0 a1 : Value) (h : Heap) (Q : Value → Heap → Prop) : Prop := BTreeG_I_lock.call #[a0, a1] h fun t8 h => ifV t8 (False) (BTreeG_I_items.j1 a0 a1 h Q)
theorem BTreeG_I_items.body (a0 a1 : Value) (h : Heap) (Q : Value → Heap → Prop) (H : BTreeG_I_items.sh a0 a1 h Q) : BTreeG_I_items.call #[a0, a1] h Q := by
  refine callsH_of (args := [a0, a1]) Try.func91 rfl rfl ?_; unfold BTreeG_I_items.sh at H; refine WPc_seq' ?_; refine W_region (by kernel_rfl) ?_; refine vl_n ?_; refine H_of_R (R_assign (v := (.slice none 0 0)) rfl ?_)
  refine vl_e ?_; refine WPc_seq (fun e h => BTreeG_I_items.j1 (e 0) (e 1) h Q) ?_ (fun e h H => ?_)
  rotate_left
  · unfold BTreeG_I_items.j1 at H
    refine WPc_seq' ?_; refine W_region (by kernel_rfl) ?_; refine vl_n ?_; refine H_of_R (R_move (v := (e 0)) rfl ?_)
    refine vl_n ?_; refine H_call HB_57 H fun t12 h H => ?_; refine vl_n ?_; refine H_mks TZ_25 rfl H fun t13 h H => ?_; refine vl_n ?_; refine H_of_R (R_assign (v := t13) rfl ?_)
    refine vl_e ?_; refine WPc_seq (fun e h => BTreeG_I_items.j2 (e 5) h Q) ?_ (fun e h H => ?_)
    rotate_left
    · unfold BTreeG_I_items.j2 at H
      refine WPc_seq' ?_; refine W_region (by kernel_rfl) ?_; refine vl_n ?_; refine H_of_R (R_move (v := (e 5)) rfl ?_)
      refine vl_n ?_; refine H_of_R (R_assign (v := (e 5)) rfl ?_)
      refine vl_e ?_; refine WPc_ret ?_; refine resH_of rfl ?_; exact H
    refine WPc_seq' ?_; refine W_region (by kernel_rfl) ?_; refine vl_n ?_; refine H_of_R (R_move (v := (e 0)) rfl ?_)
    refine vl_n ?_; refine H_of_R (R_nil H fun t15 H => ?_)
    refine vl_n ?_; refine H_of_R (R_fld TF_135_2 H fun t16 H => ?_)
    refine vl_n ?_; refine H_of_R (R_load1 T1_86 H fun _ t17 _ _ H => ?_)
    refine vl_n ?_; refine H_of_R (R_neNilP Try.underlying86 rfl H fun t18 H => ?_)
    refine vl_e ?_; obtain ⟨b, hc, H1, H2⟩ := H; refine WPc_cond hc (fun hh => ?_) (fun hh => ?_)
    · have H := H1 hh; clear H1 H2
      refine W_region (by kernel_rfl) ?_; refine vl_n ?_; refine H_of_R (R_move (v := (e 0)) rfl ?_)
      refine vl_n ?_; refine H_of_R (R_move (v := (e 0)) rfl ?_)
      refine vl_n ?_; refine H_of_R (R_nil H fun t21 H => ?_)
      refine vl_n ?_; refine H_of_R (R_fld TF_135_2 H fun t22 H => ?_)
      refine vl_n ?_; refine H_of_R (R_move (v := t13) rfl ?_)
      refine vl_n ?_; refine H_of_R (R_move (v := (e 1)) rfl ?_)
      refine vl_n ?_; refine H_call HB_129 H fun t25 h H => ?_; refine vl_n ?_; refine H_of_R (R_assign (v := t25) rfl ?_)
      refine vl_e ?_; exact H
    · have H := H2 hh; clear H1 H2
      refine WPc_skip ?_; exact H
  refine WPc_seq' ?_; refine W_region (by kernel_rfl) ?_; refine vl_n ?_; refine H_of_R (R_move (v := a0) rfl ?_)
  refine vl_n ?_; refine H_of_R (R_move (v := a1) rfl ?_)
  refine vl_n ?_; refine H_call HB_92 H fun t8 h H => ?_; refine vl_e ?_; obtain ⟨b, hc, H1, H2⟩ := H; refine WPc_cond hc (fun hh => ?_) (fun hh => ?_)
  · have H := H1 hh; clear H1 H2
    refine W_region (by kernel_rfl) ?_; refine vl_n ?_; refine H_of_R (R_move (v := a0) rfl ?_)
    refine vl_n ?_; refine H_of_R (R_move (v := a1) rfl ?_)
    refine vl_n ?_; exact H.elim
  · have H := H2 hh; clear H1 H2
    refine WPc_skip ?_; exact H
/-! ### (*pub/tidwallbtree.BTreeG[impl.Item]).Items -/
def BTreeG_I_Items.sh (a0 : Value) (h : Heap) (Q : Value → Heap → Prop) : Prop := BTreeG_I_items.call #[a0, (.bool false)] h fun t4 h => Q t4 h
theorem BTreeG_I_Items.body (a0 : Value) (h : Heap) (Q : Value → Heap → Prop) (H : BTreeG_I_Items.sh a0 h Q) : BTreeG_I_Items.call #[a0] h Q := by
  refine callsH_of (args := [a0]) Try.func56 rfl rfl ?_; unfold BTreeG_I_Items.sh at H; refine WPc_seq' ?_; refine W_region (by kernel_rfl) ?_; refine vl_n ?_; refine H_of_R (R_assign (v := (.slice none 0 0)) rfl ?_)
  refine vl_e ?_; refine WPc_seq' ?_; refine W_region (by kernel_rfl) ?_; refine vl_n ?_; refine H_of_R (R_move (v := a0) rfl ?_)
  refine vl_n ?_; refine H_call HB_91 H fun t4 h H => ?_; refine vl_n ?_; refine H_of_R (R_assign (v := t4) rfl ?_)
  refine vl_e ?_; refine WPc_ret ?_; refine resH_of rfl ?_; exact H
/-! ### (*pub/tidwallbtree.BTreeG[impl.Item]).Height -/
def BTreeG_I_Height.j2 (s3 : Value) (h : Heap) (Q : Value → Heap → Prop) : Prop := Q s3 h
def BTreeG_I_Height.j4 (s3 s4 : Value) (h : Heap) (K1 : List Value → Heap → Prop) (Q : Value → Heap → Prop) : Prop := nilck s4 fun t22 => fld 3 t22 fun t23 => load1 t23 h fun t24 => nilck t24 fun t25 => load1 t25 h fun t26 => idx 1 t26 (.int .i64 0) fun t27 => load1 t27 h fun t28 => K1 [s3, t28] h
def BTreeG_I_Height.l3.b (s3 s4 : Value) (h : Heap) (K1 : List Value → Heap → Prop) (Q : Value → Heap → Prop) : Prop := arith (· + ·) s3 (.int .i64 1) fun t18 => node_I_leaf.call #[s4] h fun t20 h => ifV t20 (BTreeG_I_Height.j2 t18 h Q) (BTreeG_I_Height.j4 t18 s4 h K1 Q)
def BTreeG_I_Height.j1 (s0 : Value) (h : Heap) (Q : Value → Heap → Prop) : Prop := nilck s0 fun t9 => fld 2 t9 fun t10 => load1 t10 h fun t11 => neNilP t11 fun t12 => ifV t12 (nilck s0 fun t14 => fld 2 t14 fun t15 => load1 t15 h fun t16 => loopC (fun c s h K1 => BTreeG_I_Height.l3.b (s.getD 0 undef) (s.getD 1 undef) h K1 Q) [] [(.int .i64 0), t16] h) (BTreeG_I_Height.j2 (.int .i64 0) h Q)
def BTreeG_I_Height.sh (a0 : Value) (h : Heap) (Q : Value → Heap → Prop) : Prop := BTreeG_I_lock.call #[a0, (.bool false)] h fun t6 h => ifV t6 (False) (BTreeG_I_Height.j1 a0 h Q)
theorem BTreeG_I_Height.body (a0 : Value) (h : Heap) (Q : Value → Heap → Prop) (H : BTreeG_I_Height.sh a0 h Q) : BTreeG_I_Height.call #[a0] h Q := by
  refine callsH_of (args := [a0]) Try.func58 rfl rfl ?_; unfold BTreeG_I_Height.sh at H; refine WPc_seq' ?_; refine W_region (by kernel_rfl) ?_; refine vl_n ?_; refine H_of_R (R_assign (v := (.int .i64 0)) rfl ?_)
  refine vl_e ?_; refine WPc_seq (fun e h => BTreeG_I_Height.j1 (e 0) h Q) ?_ (fun e h H => ?_)
  rotate_left
  · unfold BTreeG_I_Height.j1 at H
    refine WPc_seq' ?_; refine W_region (by kernel_rfl) ?_; refine vl_n ?_; refine H_of_R (R_assign (v := (.int .i64 0)) rfl ?_)
    refine vl_e ?_; refine WPc_seq (fun e h => BTreeG_I_Height.j2 (e 3) h Q) ?_ (fun e h H => ?_)
    rotate_left
    · unfold BTreeG_I_Height.j2 at H
      refine WPc_seq' ?_; refine W_region (by kernel_rfl) ?_; refine vl_n ?_; refine H_of_R (R_move (v := (e 3)) rfl ?_)
      refine vl_n ?_; refine H_of_R (R_assign (v := (e 3)) rfl ?_)
      refine vl_e ?_; refine WPc_ret ?_; refine resH_of rfl ?_; exact H
    refine WPc_seq' ?_; refine W_region (by kernel_rfl) ?_; refine vl_n ?_; refine H_of_R (R_move (v := (e 0)) rfl ?_)
    refine vl_n ?_; refine H_of_R (R_nil H fun t9 H => ?_)
    refine vl_n ?_; refine H_of_R (R_fld TF_135_2 H fun t10 H => ?_)
    refine vl_n ?_; refine H_of_R (R_load1 T1_86 H fun _ t11 _ _ H => ?_)
    refine vl_n ?_; refine H_of_R (R_neNilP Try.underlying86 rfl H fun t12 H => ?_)
    refine vl_e ?_; obtain ⟨b, hc, H1, H2⟩ := H; refine WPc_cond hc (fun hh => ?_) (fun hh => ?_)
    · have H := H1 hh; clear H1 H2
      refine WPc_seq' ?_; refine W_region (by kernel_rfl) ?_; refine vl_n ?_; refine H_of_R (R_move (v := (e 0)) rfl ?_)
      refine vl_n ?_; refine H_of_R (R_nil H fun t14 H => ?_)
      refine vl_n ?_; refine H_of_R (R_fld TF_135_2 H fun t15 H => ?_)
      refine vl_n ?_; refine H_of_R (R_load1 T1_86 H fun _ t16 _ _ H => ?_)
      refine vl_n ?_; refine H_of_R (R_assign (v := t16) rfl ?_)
      refine vl_e ?_; refine WPc_block ?_; refine loop_at (fun e => [e 3, e 4]) (fun e => []) H rfl rfl ?_; intro K1 e1 h H hin1
      replace H : BTreeG_I_Height.l3.b (e1 3) (e1 4) h K1 Q := H
      unfold BTreeG_I_Height.l3.b at H; clear hin1; refine WPc_block ?_; refine WPc_seq' ?_; refine W_region (by kernel_rfl) ?_; refine vl_n ?_; refine H_of_R (R_move (v := (e1 3)) rfl ?_)
      refine vl_n ?_; refine H_of_R (R_add H fun t18 H => ?_)
      refine vl_n ?_; refine H_of_R (R_assign (v := t18) rfl ?_)
      refine vl_e ?_; refine WPc_seq (fun e h => BTreeG_I_Height.j4 (e 3) (e 4) h K1 Q) ?_ (fun e h H => ?_)
      rotate_left
      · unfold BTreeG_I_Height.j4 at H
        refine W_region (by kernel_rfl) ?_; refine vl_n ?_; refine H_of_R (R_move (v := (e 4)) rfl ?_)
        refine vl_n ?_; refine H_of_R (R_nil H fun t22 H => ?_)
        refine vl_n ?_; refine H_of_R (R_fld TF_141_3 H fun t23 H => ?_)
        refine vl_n ?_; refine H_of_R (R_load1 T1_139 H fun _ t24 _ _ H => ?_)
        refine vl_n ?_; refine H_of_R (R_nil H fun t25 H => ?_)
        refine vl_n ?_; refine H_of_R (R_load1 T1_138 H fun _ t26 _ _ H => ?_)
        refine vl_n ?_; refine H_of_R (R_idx TE_138 H fun t27 H => ?_)
        refine vl_n ?_; refine H_of_R (R_load1 T1_86 H fun _ t28 _ _ H => ?_)
        refine vl_n ?_; refine H_of_R (R_assign (v := t28) rfl ?_)
        refine vl_e ?_; exact ⟨H, rfl⟩
      refine WPc_seq' ?_; refine W_region (by kernel_rfl) ?_; refine vl_n ?_; refine H_of_R (R_move (v := (e1 4)) rfl ?_)
      refine vl_n ?_; refine H_call HB_94 H fun t20 h H => ?_; refine vl_e ?_; obtain ⟨b, hc, H1, H2⟩ := H; refine WPc_cond hc (fun hh => ?_) (fun hh => ?_)
      · have H := H1 hh; clear H1 H2
        refine WPc_exit ?_; exact H
      · have H := H2 hh; clear H1 H2
        refine WPc_skip ?_; exact H
    · have H := H2 hh; clear H1 H2
      refine WPc_skip ?_; exact H
  refine WPc_seq' ?_; refine W_region (by kernel_rfl) ?_; refine vl_n ?_; refine H_of_R (R_move (v := a0) rfl ?_)
  refine vl_n ?_; refine H_call HB_92 H fun t6 h H => ?_; refine vl_e ?_; obtain ⟨b, hc, H1, H2⟩ := H; refine WPc_cond hc (fun hh => ?_) (fun hh => ?_)
  · have H := H1 hh; clear H1 H2
    refine W_region (by kernel_rfl) ?_; refine vl_n ?_; refine H_of_R (R_move (v := a0) rfl ?_)
    refine vl_n ?_; exact H.elim
  · have H := H2 hh; clear H1 H2
    refine WPc_skip ?_; exact H
/-! ### impl.NItems -/
def i_NItems.sh (a0 a1 : Value) (h : Heap) (Q : Value → Heap → Prop) : Prop := box 24 a0 h fun t2 h => box 37 a1 h fun t3 h => loadN 3 t2 h fun t8 => loadN 3 t3 h fun t9 => i_stand.call #[t8, t9] h fun t10 h => BTreeG_I_Items.call #[t10] h fun t12 h => BTreeG_I_Len.call #[t10] h fun t14 h => BTreeG_I_Height.call #[t10] h fun t16 h => Q (.tuple #[t12, t14, t16]) h
theorem i_NItems.body (a0 a1 : Value) (h : Heap) (Q : Value → Heap → Prop) (H : i_NItems.sh a0 a1 h Q) : i_NItems.call #[a0, a1] h Q := by
  refine callsH_of (args := [a0, a1]) Try.func23 rfl rfl ?_; unfold i_NItems.sh at H; refine WPc_seq' ?_; refine W_region (by kernel_rfl) ?_; refine vl_n ?_; refine H_box H fun t2 h H => ?_; refine vl_n ?_; refine H_box H fun t3 h H => ?_; refine vl_n ?_; refine H_of_R (R_assign (v := (.slice none 0 0)) rfl ?_)
  refine vl_n ?_; refine H_of_R (R_assign (v := (.int .i64 0)) rfl ?_)
  refine vl_n ?_; refine H_of_R (R_assign (v := (.int .i64 0)) rfl ?_)
  refine vl_e ?_; refine WPc_seq' ?_; refine W_region (by kernel_rfl) ?_; refine vl_n ?_; refine H_of_R (R_loadN TN_24 H fun _ t8 _ _ H _ _ => ?_)
  refine vl_n ?_; refine H_of_R (R_loadN TN_37 H fun _ t9 _ _ H _ _ => ?_)
  refine vl_n ?_; refine H_call HB_55 H fun t10 h H => ?_; refine vl_n ?_; refine H_of_R (R_assign (v := t10) rfl ?_)
  refine vl_e ?_; refine WPc_seq' ?_; refine W_region (by kernel_rfl) ?_; refine vl_n ?_; refine H_of_R (R_move (v := t10) rfl ?_)
  refine vl_n ?_; refine H_call HB_56 H fun t12 h H => ?_; refine vl_n ?_; refine H_of_R (R_move (v := t10) rfl ?_)
  refine vl_n ?_; refine H_call HB_57 H fun t14 h H => ?_; refine vl_n ?_; refine H_of_R (R_move (v := t10) rfl ?_)
  refine vl_n ?_; refine H_call HB_58 H fun t16 h H => ?_; refine vl_n ?_; refine H_of_R (R_assign (v := t12) rfl ?_)
  refine vl_n ?_; refine H_of_R (R_assign (v := t14) rfl ?_)
  refine vl_n ?_; refine H_of_R (R_assign (v := t16) rfl ?_)
  refine vl_e ?_; refine WPc_ret ?_; refine resH_of rfl ?_; exact H
/-! ### laws.exNode -/
def l_exNode.sh (h : Heap) (Q : Value → Heap → Prop) : Prop := alloc [(.slice none 0 0), (.slice none 0 0), (.int .i64 0)] 37 h fun t0 h => buildV [(.int .i64 0), (.int .i64 0)] [(0, 1, (.int .i64 4)), (1, 1, (.int .i64 1))] fun t1 => mkSl (if 1 * 2 = 0 then [] else zeros [(.int .i64 0), (.int .i64 0)] 1) 1 [(0 * 2, 2, t1)] 27 h fun t2 h => buildV [(.int .i64 0), (.int .i64 0)] [(0, 1, (.int .i64 2)), (1, 1, (.int .i64 2))] fun t3 => mkSl (if 1 * 2 = 0 then [] else zeros [(.int .i64 0), (.int .i64 0)] 1) 1 [(0 * 2, 2, t3)] 27 h fun t4 h => buildV [(.slice none 0 0), (.slice none 0 0), (.int .i64 0)] [(0, 1, t4)] fun t5 => buildV [(.int .i64 0), (.int .i64 0)] [(0, 1, (.int .i64 6)), (1, 1, (.int .i64 3))] fun t6 => mkSl (if 1 * 2 = 0 then [] else zeros [(.int .i64 0), (.int .i64 0)] 1) 1 [(0 * 2, 2, t6)] 27 h fun t7 h => buildV [(.slice none 0 0), (.slice none 0 0), (.int .i64 0)] [(0, 1, t7)] fun t8 => mkSl (if 2 * 3 = 0 then [] else zeros [(.slice none 0 0), (.slice none 0 0), (.int .i64 0)] 2) 2 [(0 * 3, 3, t5), (1 * 3, 3, t8)] 37 h fun t9 h => buildV [(.slice none 0 0), (.slice none 0 0), (.int .i64 0)] [(0, 1, t2), (1, 1, t9)] fun t10 => storeN 3 t0 t10 h fun h => loadN 3 t0 h fun r0 => Q r0 h
theorem l_exNode.body (h : Heap) (Q : Value → Heap → Prop) (H : l_exNode.sh h Q) : l_exNode.call #[] h Q := by
  refine callsH_of (args := []) Try.func54 rfl rfl ?_; unfold l_exNode.sh at H; refine WPc_seq' ?_; refine W_region (by kernel_rfl) ?_; refine vl_n ?_; refine H_alloc TV_37 H fun t0 h H => ?_; refine vl_e ?_; refine WPc_seq' ?_; refine W_region (by kernel_rfl) ?_; refine vl_n ?_; refine H_of_R (R_build TB_27 rfl (by decide) H fun t1 H => ?_)
  refine vl_n ?_; refine H_mkSl TZ_25 (by decide) rfl H rfl fun t2 h H => ?_; refine vl_n ?_; refine H_of_R (R_build TB_27 rfl (by decide) H fun t3 H => ?_)
  refine vl_n ?_; refine H_mkSl TZ_25 (by decide) rfl H rfl fun t4 h H => ?_; refine vl_n ?_; refine H_of_R (R_build TB_37 rfl (by decide) H fun t5 H => ?_)
  refine vl_n ?_; refine H_of_R (R_build TB_27 rfl (by decide) H fun t6 H => ?_)
  refine vl_n ?_; refine H_mkSl TZ_25 (by decide) rfl H rfl fun t7 h H => ?_; refine vl_n ?_; refine H_of_R (R_build TB_37 rfl (by decide) H fun t8 H => ?_)
  refine vl_n ?_; refine H_mkSl TZ_35 (by decide) rfl H rfl fun t9 h H => ?_; refine vl_n ?_; refine H_of_R (R_build TB_37 rfl (by decide) H fun t10 H => ?_)
  refine vl_n ?_; refine H_storeN TS_37 H fun h H => ?_; refine vl_e ?_; refine WPc_ret ?_; refine resH_of rfl ?_; refine resL_N TN_37 ?_; refine loadN_imp H fun r0 H => ?_; exact H
end Go.Proofs.Ytljecmjdmdjldaa
end
section
namespace Go.Proofs.Ytljecmjdmdjldaa
open Go.Hp
set_option maxRecDepth 100000
set_option maxHeartbeats 8000000
/-! ### (pub/tidwallbtree.DoorNode[impl.Item]).DoorItems -/
def DoorNode_I_DoorItems.sh (a0 : Value) (h : Heap) (Q : Value → Heap → Prop) : Prop := box 88 a0 h fun t1 h => fld 0 t1 fun t3 => load1 t3 h fun t4 => nilck t4 fun t5 => fld 2 t5 fun t6 => load1 t6 h fun t7 => Q t7 h
theorem DoorNode_I_DoorItems.body (a0 : Value) (h : Heap) (Q : Value → Heap → Prop) (H : DoorNode_I_DoorItems.sh a0 h Q) : DoorNode_I_DoorItems.call #[a0] h Q := by
  refine callsH_of (args := [a0]) Try.func101 rfl rfl ?_; unfold DoorNode_I_DoorItems.sh at H; refine WPc_seq' ?_; refine W_region (by kernel_rfl) ?_; refine vl_n ?_; refine H_box H fun t1 h H => ?_; refine vl_n ?_; refine H_of_R (R_assign (v := (.slice none 0 0)) rfl ?_)
  refine vl_e ?_; refine WPc_seq' ?_; refine W_region (by kernel_rfl) ?_; refine vl_n ?_; refine H_of_R (R_fld TF_88_0 H fun t3 H => ?_)
  refine vl_n ?_; refine H_of_R (R_load1 T1_86 H fun _ t4 _ _ H => ?_)
  refine vl_n ?_; refine H_of_R (R_nil H fun t5 H => ?_)
  refine vl_n ?_; refine H_of_R (R_fld TF_141_2 H fun t6 H => ?_)
  refine vl_n ?_; refine H_of_R (R_load1 T1_25 H fun _ t7 _ _ H => ?_)
  refine vl_n ?_; refine H_of_R (R_assign (v := t7) rfl ?_)
  refine vl_e ?_; refine WPc_ret ?_; refine resH_of rfl ?_; exact H
/-! ### (pub/tidwallbtree.DoorNode[impl.Item]).DoorCount -/
def DoorNode_I_DoorCount.sh (a0 : Value) (h : Heap) (Q : Value → Heap → Prop) : Prop := box 88 a0 h fun t1 h => fld 0 t1 fun t3 => load1 t3 h fun t4 => nilck t4 fun t5 => fld 1 t5 fun t6 => load1 t6 h fun t7 => Q t7 h
theorem DoorNode_I_DoorCount.body (a0 : Value) (h : Heap) (Q : Value → Heap → Prop) (H : DoorNode_I_DoorCount.sh a0 h Q) : DoorNode_I_DoorCount.call #[a0] h Q := by
  refine callsH_of (args := [a0]) Try.func102 rfl rfl ?_; unfold DoorNode_I_DoorCount.sh at H; refine WPc_seq' ?_; refine W_region (by kernel_rfl) ?_; refine vl_n ?_; refine H_box H fun t1 h H => ?_; refine vl_n ?_; refine H_of_R (R_assign (v := (.int .i64 0)) rfl ?_)
  refine vl_e ?_; refine WPc_seq' ?_; refine W_region (by kernel_rfl) ?_; refine vl_n ?_; refine H_of_R (R_fld TF_88_0 H fun t3 H => ?_)
  refine vl_n ?_; refine H_of_R (R_load1 T1_86 H fun _ t4 _ _ H => ?_)
  refine vl_n ?_; refine H_of_R (R_nil H fun t5 H => ?_)
  refine vl_n ?_; refine H_of_R (R_fld TF_141_1 H fun t6 H => ?_)
  refine vl_n ?_; refine H_of_R (R_load1 T1_3 H fun _ t7 _ _ H => ?_)
  refine vl_n ?_; refine H_of_R (R_assign (v := t7) rfl ?_)
  refine vl_e ?_; refine WPc_ret ?_; refine resH_of rfl ?_; exact H
/-! ### (pub/tidwallbtree.DoorNode[impl.Item]).DoorIsLeaf -/
def DoorNode_I_DoorIsLeaf.sh (a0 : Value) (h : Heap) (Q : Value → Heap → Prop) : Prop := box 88 a0 h fun t1 h => fld 0 t1 fun t3 => load1 t3 h fun t4 => node_I_leaf.call #[t4] h fun t5 h => Q t5 h
theorem DoorNode_I_DoorIsLeaf.body (a0 : Value) (h : Heap) (Q : Value → Heap → Prop) (H : DoorNode_I_DoorIsLeaf.sh a0 h Q) : DoorNode_I_DoorIsLeaf.call #[a0] h Q := by
  refine callsH_of (args := [a0]) Try.func103 rfl rfl ?_; unfold DoorNode_I_DoorIsLeaf.sh at H; refine WPc_seq' ?_; refine W_region (by kernel_rfl) ?_; refine vl_n ?_; refine H_box H fun t1 h H => ?_; refine vl_n ?_; refine H_of_R (R_assign (v := (.bool false)) rfl ?_)
  refine vl_e ?_; refine WPc_seq' ?_; refine W_region (by kernel_rfl) ?_; refine vl_n ?_; refine H_of_R (R_fld TF_88_0 H fun t3 H => ?_)
  refine vl_n ?_; refine H_of_R (R_load1 T1_86 H fun _ t4 _ _ H => ?_)
  refine vl_n ?_; refine H_call HB_94 H fun t5 h H => ?_; refine vl_n ?_; refine H_of_R (R_assign (v := t5) rfl ?_)
  refine vl_e ?_; refine WPc_ret ?_; refine resH_of rfl ?_; exact H
/-! ### (pub/tidwallbtree.DoorNode[impl.Item]).DoorKids -/
def DoorNode_I_DoorKids.sh (a0 : Value) (h : Heap) (Q : Value → Heap → Prop) : Prop := box 88 a0 h fun t1 h => fld 0 t1 fun t3 => load1 t3 h fun t4 => nilck t4 fun t5 => fld 3 t5 fun t6 => load1 t6 h fun t7 => nilck t7 fun t8 => load1 t8 h fun t9 => lenV t9 fun t10 => Q t10 h
theorem DoorNode_I_DoorKids.body (a0 : Value) (h : Heap) (Q : Value → Heap → Prop) (H : DoorNode_I_DoorKids.sh a0 h Q) : DoorNode_I_DoorKids.call #[a0] h Q := by
  refine callsH_of (args := [a0]) Try.func104 rfl rfl ?_; unfold DoorNode_I_DoorKids.sh at H; refine WPc_seq' ?_; refine W_region (by kernel_rfl) ?_; refine vl_n ?_; refine H_box H fun t1 h H => ?_; refine vl_n ?_; refine H_of_R (R_assign (v := (.int .i64 0)) rfl ?_)
  refine vl_e ?_; refine WPc_seq' ?_; refine W_region (by kernel_rfl) ?_; refine vl_n ?_; refine H_of_R (R_fld TF_88_0 H fun t3 H => ?_)
  refine vl_n ?_; refine H_of_R (R_load1 T1_86 H fun _ t4 _ _ H => ?_)
  refine vl_n ?_; refine H_of_R (R_nil H fun t5 H => ?_)
  refine vl_n ?_; refine H_of_R (R_fld TF_141_3 H fun t6 H => ?_)
  refine vl_n ?_; refine H_of_R (R_load1 T1_139 H fun _ t7 _ _ H => ?_)
  refine vl_n ?_; refine H_of_R (R_nil H fun t8 H => ?_)
  refine vl_n ?_; refine H_of_R (R_load1 T1_138 H fun _ t9 _ _ H => ?_)
  refine vl_n ?_; refine H_of_R (R_len Try.underlying138 H fun t10 H => ?_)
  refine vl_n ?_; refine H_of_R (R_assign (v := t10) rfl ?_)
  refine vl_e ?_; refine WPc_ret ?_; refine resH_of rfl ?_; exact H
/-! ### (pub/tidwallbtree.DoorNode[impl.Item]).DoorKid -/
def DoorNode_I_DoorKid.sh (a0 a1 : Value) (h : Heap) (Q : Value → Heap → Prop) : Prop := box 88 a0 h fun t2 h => alloc [(.pointer none)] 88 h fun t4 h => fld 0 t2 fun t5 => load1 t5 h fun t6 => nilck t6 fun t7 => fld 3 t7 fun t8 => load1 t8 h fun t9 => nilck t9 fun t10 => load1 t10 h fun t11 => idx 1 t11 a1 fun t13 => load1 t13 h fun t14 => buildV [(.pointer none)] [(0, 1, t14)] fun t15 => storeN 1 t4 t15 h fun h => loadN 1 t4 h fun r4 => Q r4 h
theorem DoorNode_I_DoorKid.body (a0 a1 : Value) (h : Heap) (Q : Value → Heap → Prop) (H : DoorNode_I_DoorKid.sh a0 a1 h Q) : DoorNode_I_DoorKid.call #[a0, a1] h Q := by
  refine callsH_of (args := [a0, a1]) Try.func105 rfl rfl ?_; unfold DoorNode_I_DoorKid.sh at H; refine WPc_seq' ?_; refine W_region (by kernel_rfl) ?_; refine vl_n ?_; refine H_box H fun t2 h H => ?_; refine vl_n ?_; refine H_alloc TV_88 H fun t4 h H => ?_; refine vl_e ?_; refine WPc_seq' ?_; refine W_region (by kernel_rfl) ?_; refine vl_n ?_; refine H_of_R (R_fld TF_88_0 H fun t5 H => ?_)
  refine vl_n ?_; refine H_of_R (R_load1 T1_86 H fun _ t6 _ _ H => ?_)
  refine vl_n ?_; refine H_of_R (R_nil H fun t7 H => ?_)
  refine vl_n ?_; refine H_of_R (R_fld TF_141_3 H fun t8 H => ?_)
  refine vl_n ?_; refine H_of_R (R_load1 T1_139 H fun _ t9 _ _ H => ?_)
  refine vl_n ?_; refine H_of_R (R_nil H fun t10 H => ?_)
  refine vl_n ?_; refine H_of_R (R_load1 T1_138 H fun _ t11 _ _ H => ?_)
  refine vl_n ?_; refine H_of_R (R_move (v := a1) rfl ?_)
  refine vl_n ?_; refine H_of_R (R_idx TE_138 H fun t13 H => ?_)
  refine vl_n ?_; refine H_of_R (R_load1 T1_86 H fun _ t14 _ _ H => ?_)
  refine vl_n ?_; refine H_of_R (R_build TB_88 rfl (by decide) H fun t15 H => ?_)
  refine vl_n ?_; refine H_storeN TS_88 H fun h H => ?_; refine vl_e ?_; refine WPc_ret ?_; refine resH_of rfl ?_; refine resL_N TN_88 ?_; refine loadN_imp H fun r4 H => ?_; exact H
end Go.Proofs.Ytljecmjdmdjldaa
end
section
namespace Go.Proofs.Ytljecmjdmdjldaa
open Go.Hp
set_option maxRecDepth 100000
set_option maxHeartbeats 8000000
/-! ### impl.lifted -/
def i_lifted.j1 (s2 s3 : Value) (h : Heap) (Q : Value → Heap → Prop) : Prop := loadN 3 s3 h fun t29 => storeN 3 s2 t29 h fun h => loadN 3 s2 h fun r2 => Q r2 h
def i_lifted.j4 (s1 s2 s3 s15 s16 : Value) (h : Heap) (K1 : List Value → Heap → Prop) (Q : Value → Heap → Prop) : Prop := arith (· + ·) s16 (.int .i64 1) fun t28 => K1 [t28] h
def i_lifted.j3 (s1 s2 s3 s15 s16 : Value) (h : Heap) (K1 : List Value → Heap → Prop) (Q : Value → Heap → Prop) : Prop := fld 1 s3 fun t19 => load1 t19 h fun t20 => loadN 1 s1 h fun t21 => DoorNode_I_DoorKid.call #[t21, s16] h fun t23 h => still1 t19 t20 h ∧ i_lifted.call #[t23] h fun t24 h => still1 t19 t20 h ∧ mkSl (if 1 * 3 = 0 then [] else zeros [(.slice none 0 0), (.slice none 0 0), (.int .i64 0)] 1) 1 [(0 * 3, 3, t24)] 37 h fun t25 h => still1 t19 t20 h ∧ app 37 3 56 [(.slice none 0 0), (.slice none 0 0), (.int .i64 0)] t20 t25 h fun t26 h => fld 1 s3 fun t27 => store1 t27 t26 h fun h => i_lifted.j4 s1 s2 s3 s15 s16 h K1 Q
def i_lifted.l2.b (c1 c2 c3 c15 s16 : Value) (h : Heap) (K1 : List Value → Heap → Prop) (Q : Value → Heap → Prop) : Prop := cmpI (fun a b => decide (a < b)) s16 c15 fun t17 => ifV t17 (i_lifted.j3 c1 c2 c3 c15 s16 h K1 Q) (i_lifted.j1 c2 c3 h Q)
def i_lifted.j5 (s2 s3 : Value) (h : Heap) (Q : Value → Heap → Prop) : Prop := loadN 3 s3 h fun t29 => storeN 3 s2 t29 h fun h => loadN 3 s2 h fun r2 => Q r2 h
def i_lifted.j8 (s1 s2 s3 s15 s16 : Value) (h : Heap) (K1 : List Value → Heap → Prop) (Q : Value → Heap → Prop) : Prop := arith (· + ·) s16 (.int .i64 1) fun t28 => K1 [t28] h
def i_lifted.j7 (s1 s2 s3 s15 s16 : Value) (h : Heap) (K1 : List Value → Heap → Prop) (Q : Value → Heap → Prop) : Prop := fld 1 s3 fun t19 => load1 t19 h fun t20 => loadN 1 s1 h fun t21 => DoorNode_I_DoorKid.call #[t21, s16] h fun t23 h => still1 t19 t20 h ∧ i_lifted.call #[t23] h fun t24 h => still1 t19 t20 h ∧ mkSl (if 1 * 3 = 0 then [] else zeros [(.slice none 0 0), (.slice none 0 0), (.int .i64 0)] 1) 1 [(0 * 3, 3, t24)] 37 h fun t25 h => still1 t19 t20 h ∧ app 37 3 56 [(.slice none 0 0), (.slice none 0 0), (.int .i64 0)] t20 t25 h fun t26 h => fld 1 s3 fun t27 => store1 t27 t26 h fun h => i_lifted.j8 s1 s2 s3 s15 s16 h K1 Q
def i_lifted.l6.b (c1 c2 c3 c15 s16 : Value) (h : Heap) (K1 : List Value → Heap → Prop) (Q : Value → Heap → Prop) : Prop := cmpI (fun a b => decide (a < b)) s16 c15 fun t17 => ifV t17 (i_lifted.j7 c1 c2 c3 c15 s16 h K1 Q) (i_lifted.j5 c2 c3 h Q)
def i_lifted.j9 (s2 s3 : Value) (h : Heap) (Q : Value → Heap → Prop) : Prop := loadN 3 s3 h fun t29 => storeN 3 s2 t29 h fun h => loadN 3 s2 h fun r2 => Q r2 h
def i_lifted.j12 (s1 s2 s3 s15 s16 : Value) (h : Heap) (K1 : List Value → Heap → Prop) (Q : Value → Heap → Prop) : Prop := arith (· + ·) s16 (.int .i64 1) fun t28 => K1 [t28] h
def i_lifted.j11 (s1 s2 s3 s15 s16 : Value) (h : Heap) (K1 : List Value → Heap → Prop) (Q : Value → Heap → Prop) : Prop := fld 1 s3 fun t19 => load1 t19 h fun t20 => loadN 1 s1 h fun t21 => DoorNode_I_DoorKid.call #[t21, s16] h fun t23 h => still1 t19 t20 h ∧ i_lifted.call #[t23] h fun t24 h => still1 t19 t20 h ∧ mkSl (if 1 * 3 = 0 then [] else zeros [(.slice none 0 0), (.slice none 0 0), (.int .i64 0)] 1) 1 [(0 * 3, 3, t24)] 37 h fun t25 h => still1 t19 t20 h ∧ app 37 3 56 [(.slice none 0 0), (.slice none 0 0), (.int .i64 0)] t20 t25 h fun t26 h => fld 1 s3 fun t27 => store1 t27 t26 h fun h => i_lifted.j12 s1 s2 s3 s15 s16 h K1 Q
def i_lifted.l10.b (c1 c2 c3 c15 s16 : Value) (h : Heap) (K1 : List Value → Heap → Prop) (Q : Value → Heap → Prop) : Prop := cmpI (fun a b => decide (a < b)) s16 c15 fun t17 => ifV t17 (i_lifted.j11 c1 c2 c3 c15 s16 h K1 Q) (i_lifted.j9 c2 c3 h Q)
def i_lifted.j13 (s2 s3 : Value) (h : Heap) (Q : Value → Heap → Prop) : Prop := loadN 3 s3 h fun t29 => storeN 3 s2 t29 h fun h => loadN 3 s2 h fun r2 => Q r2 h
def i_lifted.j16 (s1 s2 s3 s15 s16 : Value) (h : Heap) (K1 : List Value → Heap → Prop) (Q : Value → Heap → Prop) : Prop := arith (· + ·) s16 (.int .i64 1) fun t28 => K1 [t28] h
def i_lifted.j15 (s1 s2 s3 s15 s16 : Value) (h : Heap) (K1 : List Value → Heap → Prop) (Q : Value → Heap → Prop) : Prop := fld 1 s3 fun t19 => load1 t19 h fun t20 => loadN 1 s1 h fun t21 => DoorNode_I_DoorKid.call #[t21, s16] h fun t23 h => still1 t19 t20 h ∧ i_lifted.call #[t23] h fun t24 h => still1 t19 t20 h ∧ mkSl (if 1 * 3 = 0 then [] else zeros [(.slice none 0 0), (.slice none 0 0), (.int .i64 0)] 1) 1 [(0 * 3, 3, t24)] 37 h fun t25 h => still1 t19 t20 h ∧ app 37 3 56 [(.slice none 0 0), (.slice none 0 0), (.int .i64 0)] t20 t25 h fun t26 h => fld 1 s3 fun t27 => store1 t27 t26 h fun h => i_lifted.j16 s1 s2 s3 s15 s16 h K1 Q
def i_lifted.l14.b (c1 c2 c3 c15 s16 : Value) (h : Heap) (K1 : List Value → Heap → Prop) (Q : Value → Heap → Prop) : Prop := cmpI (fun a b => decide (a < b)) s16 c15 fun t17 => ifV t17 (i_lifted.j15 c1 c2 c3 c15 s16 h K1 Q) (i_lifted.j13 c2 c3 h Q)
def i_lifted.sh (a0 : Value) (h : Heap) (Q : Value → Heap → Prop) : Prop := box 88 a0 h fun t1 h => alloc [(.slice none 0 0), (.slice none 0 0), (.int .i64 0)] 37 h fun t2 h => loadN 1 t1 h fun t5 => loadN 1 t1 h fun t8 => (DoorNode_I_DoorItems.call #[t5] h fun t6 h => stillN 1 t1 t8 h ∧ (app 27 2 16 [(.int .i64 0), (.int .i64 0)] (.slice none 0 0) t6 h fun t7 h => stillN 1 t1 t8 h ∧ (DoorNode_I_DoorCount.call #[t8] h fun t9 h => buildV [(.slice none 0 0), (.slice none 0 0), (.int .i64 0)] [(0, 1, t7), (2, 1, t9)] fun t10 => alloc [(.slice none 0 0), (.slice none 0 0), (.int .i64 0)] 37 h fun t3 h => storeN 3 t3 t10 h fun h => loadN 1 t1 h fun t11 => DoorNode_I_DoorIsLeaf.call #[t11] h fun t12 h => notV t12 fun t13 => ifV t13 (loadN 1 t1 h fun t14 => DoorNode_I_DoorKids.call #[t14] h fun t15 h => loopC (fun c s h K1 => i_lifted.l2.b (c.getD 0 undef) (c.getD 1 undef) (c.getD 2 undef) (c.getD 3 undef) (s.getD 0 undef) h K1 Q) [t1, t2, t3, t15] [(.int .i64 0)] h) (i_lifted.j1 t2 t3 h Q)) ∧ (alloc [(.slice none 0 0), (.slice none 0 0), (.int .i64 0)] 37 h fun t3_2 h => stillN 1 t1 t8 h ∧ DoorNode_I_DoorCount.call #[t8] h fun t9_2 h => buildV [(.slice none 0 0), (.slice none 0 0), (.int .i64 0)] [(0, 1, t7), (2, 1, t9_2)] fun t10_2 => storeN 3 t3_2 t10_2 h fun h => loadN 1 t1 h fun t11_2 => DoorNode_I_DoorIsLeaf.call #[t11_2] h fun t12_2 h => notV t12_2 fun t13_2 => ifV t13_2 (loadN 1 t1 h fun t14_2 => DoorNode_I_DoorKids.call #[t14_2] h fun t15_2 h => loopC (fun c s h K1 => i_lifted.l6.b (c.getD 0 undef) (c.getD 1 undef) (c.getD 2 undef) (c.getD 3 undef) (s.getD 0 undef) h K1 Q) [t1, t2, t3_2, t15_2] [(.int .i64 0)] h) (i_lifted.j5 t2 t3_2 h Q))) ∧ (alloc [(.slice none 0 0), (.slice none 0 0), (.int .i64 0)] 37 h fun t3_3 h => stillN 1 t1 t8 h ∧ app 27 2 16 [(.int .i64 0), (.int .i64 0)] (.slice none 0 0) t6 h fun t7_2 h => stillN 1 t1 t8 h ∧ DoorNode_I_DoorCount.call #[t8] h fun t9_3 h => buildV [(.slice none 0 0), (.slice none 0 0), (.int .i64 0)] [(0, 1, t7_2), (2, 1, t9_3)] fun t10_3 => storeN 3 t3_3 t10_3 h fun h => loadN 1 t1 h fun t11_3 => DoorNode_I_DoorIsLeaf.call #[t11_3] h fun t12_3 h => notV t12_3 fun t13_3 => ifV t13_3 (loadN 1 t1 h fun t14_3 => DoorNode_I_DoorKids.call #[t14_3] h fun t15_3 h => loopC (fun c s h K1 => i_lifted.l10.b (c.getD 0 undef) (c.getD 1 undef) (c.getD 2 undef) (c.getD 3 undef) (s.getD 0 undef) h K1 Q) [t1, t2, t3_3, t15_3] [(.int .i64 0)] h) (i_lifted.j9 t2 t3_3 h Q))) ∧ (alloc [(.slice none 0 0), (.slice none 0 0), (.int .i64 0)] 37 h fun t3_4 h => stillN 1 t1 t5 h ∧ stillN 1 t1 t8 h ∧ DoorNode_I_DoorItems.call #[t5] h fun t6_2 h => stillN 1 t1 t8 h ∧ app 27 2 16 [(.int .i64 0), (.int .i64 0)] (.slice none 0 0) t6_2 h fun t7_3 h => stillN 1 t1 t8 h ∧ DoorNode_I_DoorCount.call #[t8] h fun t9_4 h => buildV [(.slice none 0 0), (.slice none 0 0), (.int .i64 0)] [(0, 1, t7_3), (2, 1, t9_4)] fun t10_4 => storeN 3 t3_4 t10_4 h fun h => loadN 1 t1 h fun t11_4 => DoorNode_I_DoorIsLeaf.call #[t11_4] h fun t12_4 h => notV t12_4 fun t13_4 => ifV t13_4 (loadN 1 t1 h fun t14_4 => DoorNode_I_DoorKids.call #[t14_4] h fun t15_4 h => loopC (fun c s h K1 => i_lifted.l14.b (c.getD 0 undef) (c.getD 1 undef) (c.getD 2 undef) (c.getD 3 undef) (s.getD 0 undef) h K1 Q) [t1, t2, t3_4, t15_4] [(.int .i64 0)] h) (i_lifted.j13 t2 t3_4 h Q))
theorem i_lifted.body (a0 : Value) (h : Heap) (Q : Value → Heap → Prop) (H : i_lifted.sh a0 h Q) : i_lifted.call #[a0] h Q := by
  refine callsH_of (args := [a0]) Try.func65 rfl rfl ?_; unfold i_lifted.sh at H; refine WPc_seq' ?_; refine W_region (by kernel_rfl) ?_; refine vl_n ?_; refine H_box H fun t1 h H => ?_; refine vl_n ?_; refine H_alloc TV_37 H fun t2 h H => ?_; refine vl_e ?_; refine WPc_seq' ?_; refine W_drawn [0, 1, 3, 0, 15, 31, 0, 127] (.take 0 (.take 3 (.alt 1 (.alt 2 (.alt 4 (.take 5 (.alt 6 (.alt 7 .done .none) .none)) (.alt 6 (.alt 4 (.take 5 (.alt 7 .done .none)) .none) .none)) (.alt 6 (.alt 2 (.alt 4 (.take 5 (.alt 7 .done .none)) .none) .none) .none)) (.alt 6 (.alt 1 (.alt 2 (.alt 4 (.take 5 (.alt 7 .done .none)) .none) .none) .none) .none)))) mixed (by kernel_rfl) ?_; refine tkL rfl ?_; refine R_loadN TN_88 H fun at5 xt5 hat5 _ H St5 hSt5 => ?_; refine tkL rfl ?_; refine R_loadN TN_88 H fun at8 xt8 hat8 _ H St8 hSt8 => ?_; obtain ⟨HA0, HA1⟩ := H; refine alt_n rfl ?_ ?_
  · have H := HA0; clear HA0 HA1
    refine H_call HB_101 H fun t6 h ⟨S, H⟩ => ⟨(hcons rfl (hSt8 _ (still_N S hat8 rfl)) (hskip rfl hnil)), ?_⟩
    obtain ⟨HA0, HA1⟩ := H; refine alt_n rfl ?_ ?_
    · have H := HA0; clear HA0 HA1
      refine H_app TZ_25 TU_25 H fun t7 h ⟨S_2, H⟩ => ⟨(hcons rfl (hSt8 _ (still_N S_2 hat8 rfl)) hnil), ?_⟩
      obtain ⟨HA0, HA1⟩ := H; refine alt_n rfl ?_ ?_
      · have H := HA0; clear HA0 HA1
        refine H_call HB_102 H fun t9 h H => ⟨(hskip rfl hnil), ?_⟩
        refine tkP rfl ?_; refine R_build TB_37 rfl (by decide) H fun t10 H => ⟨fun _ => trivial, ?_⟩
        refine alt_n rfl ?_ vp_none
        refine H_alloc TV_37 H fun t3 h H => ⟨hnil, ?_⟩
        refine alt_n rfl ?_ vp_none
        refine H_storeN TS_37 H fun h H => ⟨hnil, ?_⟩
        refine vp_done ?_; refine WPc_seq (fun e h => i_lifted.j1 (e 2) (e 3) h Q) ?_ (fun e h H => ?_)
        rotate_left
        · unfold i_lifted.j1 at H
          refine WPc_seq' ?_; refine W_region (by kernel_rfl) ?_; refine vl_n ?_; refine H_of_R (R_loadN TN_37 H fun _ t29 _ _ H _ _ => ?_)
          refine vl_n ?_; refine H_storeN TS_37 H fun h H => ?_; refine vl_e ?_; refine WPc_ret ?_; refine resH_of rfl ?_; refine resL_N TN_37 ?_; refine loadN_imp H fun r2 H => ?_; exact H
        refine WPc_seq' ?_; refine W_region (by kernel_rfl) ?_; refine vl_n ?_; refine H_of_R (R_loadN TN_88 H fun _ t11 _ _ H _ _ => ?_)
        refine vl_n ?_; refine H_call HB_103 H fun t12 h H => ?_; refine vl_n ?_; refine H_of_R (R_not H fun t13 H => ?_)
        refine vl_e ?_; obtain ⟨b, hc, H1, H2⟩ := H; refine WPc_cond hc (fun hh => ?_) (fun hh => ?_)
        · have H := H1 hh; clear H1 H2
          refine WPc_seq' ?_; refine W_region (by kernel_rfl) ?_; refine vl_n ?_; refine H_of_R (R_loadN TN_88 H fun _ t14 _ _ H _ _ => ?_)
          refine vl_n ?_; refine H_call HB_104 H fun t15 h H => ?_; refine vl_n ?_; refine H_of_R (R_move (v := (.int .i64 0)) rfl ?_)
          refine vl_e ?_; refine WPc_block ?_; refine loop_at (fun e => [e 16]) (fun e => [e 1, e 2, e 3, e 15]) H rfl rfl ?_; intro K1 e1 h H hin1
          replace H : i_lifted.l2.b (e1 1) (e1 2) (e1 3) (e1 15) (e1 16) h K1 Q := H
          unfold i_lifted.l2.b at H; clear hin1; refine WPc_seq' ?_; refine W_region (by kernel_rfl) ?_; refine vl_n ?_; refine H_of_R (R_lss H fun t17 H => ?_)
          refine vl_e ?_; refine WPc_seq (fun e h => i_lifted.j3 (e 1) (e 2) (e 3) (e 15) (e 16) h K1 Q ∧ [e1 1, e1 2, e1 3, e1 15] = [e 1, e 2, e 3, e 15]) ?_ (fun e h ⟨H, hq1⟩ => ?_)
          rotate_left
          · unfold i_lifted.j3 at H
            refine WPc_seq (fun e h => i_lifted.j4 (e 1) (e 2) (e 3) (e 15) (e 16) h K1 Q ∧ [e1 1, e1 2, e1 3, e1 15] = [e 1, e 2, e 3, e 15]) ?_ (fun e h ⟨H, hq1⟩ => ?_)
            rotate_left
            · unfold i_lifted.j4 at H
              refine W_region (by kernel_rfl) ?_; refine vl_n ?_; refine H_of_R (R_add H fun t28 H => ?_)
              refine vl_n ?_; refine H_of_R (R_move (v := t28) rfl ?_)
              refine vl_e ?_; exact ⟨H, hq1⟩
            refine WPc_block ?_; refine WPc_seq' ?_; refine W_region (by kernel_rfl) ?_; refine vl_n ?_; refine H_of_R (R_move (v := (e 16)) rfl ?_)
            refine vl_n ?_; refine H_of_R (R_assign (v := (e 16)) rfl ?_)
            refine vl_e ?_; refine W_drawn [0, 1, 0, 0, 12, 28, 60, 127, 255, 511] (.take 0 (.take 1 (.take 2 (.take 3 (.alt 4 (.alt 5 (.alt 6 (.alt 7 (.take 8 (.alt 9 .done .none)) .none) .none) .none) .none))))) mixed (by kernel_rfl) ?_; refine tkP rfl ?_; refine R_fld TF_37_1 H fun t19 H => ⟨fun _ => trivial, ?_⟩
            refine tkL rfl ?_; refine R_load1 T1_35 H fun at20 t20 hat20 _ H => ?_; refine tkL rfl ?_; refine R_loadN TN_88 H fun at21 xt21 hat21 _ H St21 hSt21 => ?_; refine tkP rfl ?_; refine R_move (v := (e 16)) rfl ⟨fun _ => trivial, ?_⟩
            refine alt_n rfl ?_ vp_none
            refine H_call HB_105 H fun t23 h ⟨S, H⟩ => ⟨(hskip rfl (hcons rfl (still_1 S hat20) hnil)), ?_⟩
            refine alt_n rfl ?_ vp_none
            refine H_call HB_65 H fun t24 h ⟨S_2, H⟩ => ⟨(hcons rfl (still_1 S_2 hat20) hnil), ?_⟩
            refine alt_n rfl ?_ vp_none
            refine H_mkSl TZ_35 (by decide) rfl H rfl fun t25 h ⟨S_3, H⟩ => ⟨(hcons rfl (still_1 S_3 hat20) hnil), ?_⟩
            refine alt_n rfl ?_ vp_none
            refine H_app TZ_35 TU_35 H fun t26 h H => ⟨(hskip rfl hnil), ?_⟩
            refine tkP rfl ?_; refine R_fld TF_37_1 H fun t27 H => ⟨fun _ => trivial, ?_⟩
            refine alt_n rfl ?_ vp_none
            refine H_store1 TS_35 H fun h H => ⟨hnil, ?_⟩
            refine vp_done ?_; exact ⟨H, hq1⟩
          obtain ⟨b, hc, H1, H2⟩ := H; refine WPc_cond hc (fun hh => ?_) (fun hh => ?_)
          · have H := H1 hh; clear H1 H2
            refine WPc_skip ?_; exact ⟨H, rfl⟩
          · have H := H2 hh; clear H1 H2
            refine WPc_exit ?_; exact H
        · have H := H2 hh; clear H1 H2
          refine WPc_skip ?_; exact H
      refine alt_n rfl ?_ vp_none
      have H := HA1; clear HA0 HA1
      refine H_alloc TV_37 H fun t3_2 h ⟨S_3, H⟩ => ⟨(hcons rfl (hSt8 _ (still_N S_3 hat8 rfl)) hnil), ?_⟩
      refine alt_n rfl ?_ vp_none
      refine H_call HB_102 H fun t9_2 h H => ⟨(hskip rfl hnil), ?_⟩
      refine tkP rfl ?_; refine R_build TB_37 rfl (by decide) H fun t10_2 H => ⟨fun _ => trivial, ?_⟩
      refine alt_n rfl ?_ vp_none
      refine H_storeN TS_37 H fun h H => ⟨hnil, ?_⟩
      refine vp_done ?_; refine WPc_seq (fun e h => i_lifted.j5 (e 2) (e 3) h Q) ?_ (fun e h H => ?_)
      rotate_left
      · unfold i_lifted.j5 at H
        refine WPc_seq' ?_; refine W_region (by kernel_rfl) ?_; refine vl_n ?_; refine H_of_R (R_loadN TN_37 H fun _ t29 _ _ H _ _ => ?_)
        refine vl_n ?_; refine H_storeN TS_37 H fun h H => ?_; refine vl_e ?_; refine WPc_ret ?_; refine resH_of rfl ?_; refine resL_N TN_37 ?_; refine loadN_imp H fun r2 H => ?_; exact H
      refine WPc_seq' ?_; refine W_region (by kernel_rfl) ?_; refine vl_n ?_; refine H_of_R (R_loadN TN_88 H fun _ t11_2 _ _ H _ _ => ?_)
      refine vl_n ?_; refine H_call HB_103 H fun t12_2 h H => ?_; refine vl_n ?_; refine H_of_R (R_not H fun t13_2 H => ?_)
      refine vl_e ?_; obtain ⟨b_2, hc_2, H1, H2⟩ := H; refine WPc_cond hc_2 (fun hh => ?_) (fun hh => ?_)
      · have H := H1 hh; clear H1 H2
        refine WPc_seq' ?_; refine W_region (by kernel_rfl) ?_; refine vl_n ?_; refine H_of_R (R_loadN TN_88 H fun _ t14_2 _ _ H _ _ => ?_)
        refine vl_n ?_; refine H_call HB_104 H fun t15_2 h H => ?_; refine vl_n ?_; refine H_of_R (R_move (v := (.int .i64 0)) rfl ?_)
        refine vl_e ?_; refine WPc_block ?_; refine loop_at (fun e => [e 16]) (fun e => [e 1, e 2, e 3, e 15]) H rfl rfl ?_; intro K1 e1 h H hin1
        replace H : i_lifted.l6.b (e1 1) (e1 2) (e1 3) (e1 15) (e1 16) h K1 Q := H
        unfold i_lifted.l6.b at H; clear hin1; refine WPc_seq' ?_; refine W_region (by kernel_rfl) ?_; refine vl_n ?_; refine H_of_R (R_lss H fun t17 H => ?_)
        refine vl_e ?_; refine WPc_seq (fun e h => i_lifted.j7 (e 1) (e 2) (e 3) (e 15) (e 16) h K1 Q ∧ [e1 1, e1 2, e1 3, e1 15] = [e 1, e 2, e 3, e 15]) ?_ (fun e h ⟨H, hq1⟩ => ?_)
        rotate_left
        · unfold i_lifted.j7 at H
          refine WPc_seq (fun e h => i_lifted.j8 (e 1) (e 2) (e 3) (e 15) (e 16) h K1 Q ∧ [e1 1, e1 2, e1 3, e1 15] = [e 1, e 2, e 3, e 15]) ?_ (fun e h ⟨H, hq1⟩ => ?_)
          rotate_left
          · unfold i_lifted.j8 at H
            refine W_region (by kernel_rfl) ?_; refine vl_n ?_; refine H_of_R (R_add H fun t28 H => ?_)
            refine vl_n ?_; refine H_of_R (R_move (v := t28) rfl ?_)
            refine vl_e ?_; exact ⟨H, hq1⟩
          refine WPc_block ?_; refine WPc_seq' ?_; refine W_region (by kernel_rfl) ?_; refine vl_n ?_; refine H_of_R (R_move (v := (e 16)) rfl ?_)
          refine vl_n ?_; refine H_of_R (R_assign (v := (e 16)) rfl ?_)
          refine vl_e ?_; refine W_drawn [0, 1, 0, 0, 12, 28, 60, 127, 255, 511] (.take 0 (.take 1 (.take 2 (.take 3 (.alt 4 (.alt 5 (.alt 6 (.alt 7 (.take 8 (.alt 9 .done .none)) .none) .none) .none) .none))))) mixed (by kernel_rfl) ?_; refine tkP rfl ?_; refine R_fld TF_37_1 H fun t19 H => ⟨fun _ => trivial, ?_⟩
          refine tkL rfl ?_; refine R_load1 T1_35 H fun at20 t20 hat20 _ H => ?_; refine tkL rfl ?_; refine R_loadN TN_88 H fun at21 xt21 hat21 _ H St21 hSt21 => ?_; refine tkP rfl ?_; refine R_move (v := (e 16)) rfl ⟨fun _ => trivial, ?_⟩
          refine alt_n rfl ?_ vp_none
          refine H_call HB_105 H fun t23 h ⟨S, H⟩ => ⟨(hskip rfl (hcons rfl (still_1 S hat20) hnil)), ?_⟩
          refine alt_n rfl ?_ vp_none
          refine H_call HB_65 H fun t24 h ⟨S_2, H⟩ => ⟨(hcons rfl (still_1 S_2 hat20) hnil), ?_⟩
          refine alt_n rfl ?_ vp_none
          refine H_mkSl TZ_35 (by decide) rfl H rfl fun t25 h ⟨S_3, H⟩ => ⟨(hcons rfl (still_1 S_3 hat20) hnil), ?_⟩
          refine alt_n rfl ?_ vp_none
          refine H_app TZ_35 TU_35 H fun t26 h H => ⟨(hskip rfl hnil), ?_⟩
          refine tkP rfl ?_; refine R_fld TF_37_1 H fun t27 H => ⟨fun _ => trivial, ?_⟩
          refine alt_n rfl ?_ vp_none
          refine H_store1 TS_35 H fun h H => ⟨hnil, ?_⟩
          refine vp_done ?_; exact ⟨H, hq1⟩
        obtain ⟨b, hc, H1, H2⟩ := H; refine WPc_cond hc (fun hh => ?_) (fun hh => ?_)
        · have H := H1 hh; clear H1 H2
          refine WPc_skip ?_; exact ⟨H, rfl⟩
        · have H := H2 hh; clear H1 H2
          refine WPc_exit ?_; exact H
      · have H := H2 hh; clear H1 H2
        refine WPc_skip ?_; exact H
    refine alt_n rfl ?_ vp_none
    have H := HA1; clear HA0 HA1
    refine H_alloc TV_37 H fun t3_3 h ⟨S_4, H⟩ => ⟨(hcons rfl (hSt8 _ (still_N S_4 hat8 rfl)) hnil), ?_⟩
    refine alt_n rfl ?_ vp_none
    refine H_app TZ_25 TU_25 H fun t7_2 h ⟨S_5, H⟩ => ⟨(hcons rfl (hSt8 _ (still_N S_5 hat8 rfl)) hnil), ?_⟩
    refine alt_n rfl ?_ vp_none
    refine H_call HB_102 H fun t9_3 h H => ⟨(hskip rfl hnil), ?_⟩
    refine tkP rfl ?_; refine R_build TB_37 rfl (by decide) H fun t10_3 H => ⟨fun _ => trivial, ?_⟩
    refine alt_n rfl ?_ vp_none
    refine H_storeN TS_37 H fun h H => ⟨hnil, ?_⟩
    refine vp_done ?_; refine WPc_seq (fun e h => i_lifted.j9 (e 2) (e 3) h Q) ?_ (fun e h H => ?_)
    rotate_left
    · unfold i_lifted.j9 at H
      refine WPc_seq' ?_; refine W_region (by kernel_rfl) ?_; refine vl_n ?_; refine H_of_R (R_loadN TN_37 H fun _ t29 _ _ H _ _ => ?_)
      refine vl_n ?_; refine H_storeN TS_37 H fun h H => ?_; refine vl_e ?_; refine WPc_ret ?_; refine resH_of rfl ?_; refine resL_N TN_37 ?_; refine loadN_imp H fun r2 H => ?_; exact H
    refine WPc_seq' ?_; refine W_region (by kernel_rfl) ?_; refine vl_n ?_; refine H_of_R (R_loadN TN_88 H fun _ t11_3 _ _ H _ _ => ?_)
    refine vl_n ?_; refine H_call HB_103 H fun t12_3 h H => ?_; refine vl_n ?_; refine H_of_R (R_not H fun t13_3 H => ?_)
    refine vl_e ?_; obtain ⟨b_3, hc_3, H1, H2⟩ := H; refine WPc_cond hc_3 (fun hh => ?_) (fun hh => ?_)
    · have H := H1 hh; clear H1 H2
      refine WPc_seq' ?_; refine W_region (by kernel_rfl) ?_; refine vl_n ?_; refine H_of_R (R_loadN TN_88 H fun _ t14_3 _ _ H _ _ => ?_)
      refine vl_n ?_; refine H_call HB_104 H fun t15_3 h H => ?_; refine vl_n ?_; refine H_of_R (R_move (v := (.int .i64 0)) rfl ?_)
      refine vl_e ?_; refine WPc_block ?_; refine loop_at (fun e => [e 16]) (fun e => [e 1, e 2, e 3, e 15]) H rfl rfl ?_; intro K1 e1 h H hin1
      replace H : i_lifted.l10.b (e1 1) (e1 2) (e1 3) (e1 15) (e1 16) h K1 Q := H
      unfold i_lifted.l10.b at H; clear hin1; refine WPc_seq' ?_; refine W_region (by kernel_rfl) ?_; refine vl_n ?_; refine H_of_R (R_lss H fun t17 H => ?_)
      refine vl_e ?_; refine WPc_seq (fun e h => i_lifted.j11 (e 1) (e 2) (e 3) (e 15) (e 16) h K1 Q ∧ [e1 1, e1 2, e1 3, e1 15] = [e 1, e 2, e 3, e 15]) ?_ (fun e h ⟨H, hq1⟩ => ?_)
      rotate_left
      · unfold i_lifted.j11 at H
        refine WPc_seq (fun e h => i_lifted.j12 (e 1) (e 2) (e 3) (e 15) (e 16) h K1 Q ∧ [e1 1, e1 2, e1 3, e1 15] = [e 1, e 2, e 3, e 15]) ?_ (fun e h ⟨H, hq1⟩ => ?_)
        rotate_left
        · unfold i_lifted.j12 at H
          refine W_region (by kernel_rfl) ?_; refine vl_n ?_; refine H_of_R (R_add H fun t28 H => ?_)
          refine vl_n ?_; refine H_of_R (R_move (v := t28) rfl ?_)
          refine vl_e ?_; exact ⟨H, hq1⟩
        refine WPc_block ?_; refine WPc_seq' ?_; refine W_region (by kernel_rfl) ?_; refine vl_n ?_; refine H_of_R (R_move (v := (e 16)) rfl ?_)
        refine vl_n ?_; refine H_of_R (R_assign (v := (e 16)) rfl ?_)
        refine vl_e ?_; refine W_drawn [0, 1, 0, 0, 12, 28, 60, 127, 255, 511] (.take 0 (.take 1 (.take 2 (.take 3 (.alt 4 (.alt 5 (.alt 6 (.alt 7 (.take 8 (.alt 9 .done .none)) .none) .none) .none) .none))))) mixed (by kernel_rfl) ?_; refine tkP rfl ?_; refine R_fld TF_37_1 H fun t19 H => ⟨fun _ => trivial, ?_⟩
        refine tkL rfl ?_; refine R_load1 T1_35 H fun at20 t20 hat20 _ H => ?_; refine tkL rfl ?_; refine R_loadN TN_88 H fun at21 xt21 hat21 _ H St21 hSt21 => ?_; refine tkP rfl ?_; refine R_move (v := (e 16)) rfl ⟨fun _ => trivial, ?_⟩
        refine alt_n rfl ?_ vp_none
        refine H_call HB_105 H fun t23 h ⟨S, H⟩ => ⟨(hskip rfl (hcons rfl (still_1 S hat20) hnil)), ?_⟩
        refine alt_n rfl ?_ vp_none
        refine H_call HB_65 H fun t24 h ⟨S_2, H⟩ => ⟨(hcons rfl (still_1 S_2 hat20) hnil), ?_⟩
        refine alt_n rfl ?_ vp_none
        refine H_mkSl TZ_35 (by decide) rfl H rfl fun t25 h ⟨S_3, H⟩ => ⟨(hcons rfl (still_1 S_3 hat20) hnil), ?_⟩
        refine alt_n rfl ?_ vp_none
        refine H_app TZ_35 TU_35 H fun t26 h H => ⟨(hskip rfl hnil), ?_⟩
        refine tkP rfl ?_; refine R_fld TF_37_1 H fun t27 H => ⟨fun _ => trivial, ?_⟩
        refine alt_n rfl ?_ vp_none
        refine H_store1 TS_35 H fun h H => ⟨hnil, ?_⟩
        refine vp_done ?_; exact ⟨H, hq1⟩
      obtain ⟨b, hc, H1, H2⟩ := H; refine WPc_cond hc (fun hh => ?_) (fun hh => ?_)
      · have H := H1 hh; clear H1 H2
        refine WPc_skip ?_; exact ⟨H, rfl⟩
      · have H := H2 hh; clear H1 H2
        refine WPc_exit ?_; exact H
    · have H := H2 hh; clear H1 H2
      refine WPc_skip ?_; exact H
  refine alt_n rfl ?_ vp_none
  have H := HA1; clear HA0 HA1
  refine H_alloc TV_37 H fun t3_4 h ⟨S_6, S_7, H⟩ => ⟨(hcons rfl (hSt8 _ (still_N S_7 hat8 rfl)) (hcons rfl (hSt5 _ (still_N S_6 hat5 rfl)) hnil)), ?_⟩
  refine alt_n rfl ?_ vp_none
  refine H_call HB_101 H fun t6_2 h ⟨S_8, H⟩ => ⟨(hcons rfl (hSt8 _ (still_N S_8 hat8 rfl)) (hskip rfl hnil)), ?_⟩
  refine alt_n rfl ?_ vp_none
  refine H_app TZ_25 TU_25 H fun t7_3 h ⟨S_9, H⟩ => ⟨(hcons rfl (hSt8 _ (still_N S_9 hat8 rfl)) hnil), ?_⟩
  refine alt_n rfl ?_ vp_none
  refine H_call HB_102 H fun t9_4 h H => ⟨(hskip rfl hnil), ?_⟩
  refine tkP rfl ?_; refine R_build TB_37 rfl (by decide) H fun t10_4 H => ⟨fun _ => trivial, ?_⟩
  refine alt_n rfl ?_ vp_none
  refine H_storeN TS_37 H fun h H => ⟨hnil, ?_⟩
  refine vp_done ?_; refine WPc_seq (fun e h => i_lifted.j13 (e 2) (e 3) h Q) ?_ (fun e h H => ?_)
  rotate_left
  · unfold i_lifted.j13 at H
    refine WPc_seq' ?_; refine W_region (by kernel_rfl) ?_; refine vl_n ?_; refine H_of_R (R_loadN TN_37 H fun _ t29 _ _ H _ _ => ?_)
    refine vl_n ?_; refine H_storeN TS_37 H fun h H => ?_; refine vl_e ?_; refine WPc_ret ?_; refine resH_of rfl ?_; refine resL_N TN_37 ?_; refine loadN_imp H fun r2 H => ?_; exact H
  refine WPc_seq' ?_; refine W_region (by kernel_rfl) ?_; refine vl_n ?_; refine H_of_R (R_loadN TN_88 H fun _ t11_4 _ _ H _ _ => ?_)
  refine vl_n ?_; refine H_call HB_103 H fun t12_4 h H => ?_; refine vl_n ?_; refine H_of_R (R_not H fun t13_4 H => ?_)
  refine vl_e ?_; obtain ⟨b_4, hc_4, H1, H2⟩ := H; refine WPc_cond hc_4 (fun hh => ?_) (fun hh => ?_)
  · have H := H1 hh; clear H1 H2
    refine WPc_seq' ?_; refine W_region (by kernel_rfl) ?_; refine vl_n ?_; refine H_of_R (R_loadN TN_88 H fun _ t14_4 _ _ H _ _ => ?_)
    refine vl_n ?_; refine H_call HB_104 H fun t15_4 h H => ?_; refine vl_n ?_; refine H_of_R (R_move (v := (.int .i64 0)) rfl ?_)
    refine vl_e ?_; refine WPc_block ?_; refine loop_at (fun e => [e 16]) (fun e => [e 1, e 2, e 3, e 15]) H rfl rfl ?_; intro K1 e1 h H hin1
    replace H : i_lifted.l14.b (e1 1) (e1 2) (e1 3) (e1 15) (e1 16) h K1 Q := H
    unfold i_lifted.l14.b at H; clear hin1; refine WPc_seq' ?_; refine W_region (by kernel_rfl) ?_; refine vl_n ?_; refine H_of_R (R_lss H fun t17 H => ?_)
    refine vl_e ?_; refine WPc_seq (fun e h => i_lifted.j15 (e 1) (e 2) (e 3) (e 15) (e 16) h K1 Q ∧ [e1 1, e1 2, e1 3, e1 15] = [e 1, e 2, e 3, e 15]) ?_ (fun e h ⟨H, hq1⟩ => ?_)
    rotate_left
    · unfold i_lifted.j15 at H
      refine WPc_seq (fun e h => i_lifted.j16 (e 1) (e 2) (e 3) (e 15) (e 16) h K1 Q ∧ [e1 1, e1 2, e1 3, e1 15] = [e 1, e 2, e 3, e 15]) ?_ (fun e h ⟨H, hq1⟩ => ?_)
      rotate_left
      · unfold i_lifted.j16 at H
        refine W_region (by kernel_rfl) ?_; refine vl_n ?_; refine H_of_R (R_add H fun t28 H => ?_)
        refine vl_n ?_; refine H_of_R (R_move (v := t28) rfl ?_)
        refine vl_e ?_; exact ⟨H, hq1⟩
      refine WPc_block ?_; refine WPc_seq' ?_; refine W_region (by kernel_rfl) ?_; refine vl_n ?_; refine H_of_R (R_move (v := (e 16)) rfl ?_)
      refine vl_n ?_; refine H_of_R (R_assign (v := (e 16)) rfl ?_)
      refine vl_e ?_; refine W_drawn [0, 1, 0, 0, 12, 28, 60, 127, 255, 511] (.take 0 (.take 1 (.take 2 (.take 3 (.alt 4 (.alt 5 (.alt 6 (.alt 7 (.take 8 (.alt 9 .done .none)) .none) .none) .none) .none))))) mixed (by kernel_rfl) ?_; refine tkP rfl ?_; refine R_fld TF_37_1 H fun t19 H => ⟨fun _ => trivial, ?_⟩
      refine tkL rfl ?_; refine R_load1 T1_35 H fun at20 t20 hat20 _ H => ?_; refine tkL rfl ?_; refine R_loadN TN_88 H fun at21 xt21 hat21 _ H St21 hSt21 => ?_; refine tkP rfl ?_; refine R_move (v := (e 16)) rfl ⟨fun _ => trivial, ?_⟩
      refine alt_n rfl ?_ vp_none
      refine H_call HB_105 H fun t23 h ⟨S, H⟩ => ⟨(hskip rfl (hcons rfl (still_1 S hat20) hnil)), ?_⟩
      refine alt_n rfl ?_ vp_none
      refine H_call HB_65 H fun t24 h ⟨S_2, H⟩ => ⟨(hcons rfl (still_1 S_2 hat20) hnil), ?_⟩
      refine alt_n rfl ?_ vp_none
      refine H_mkSl TZ_35 (by decide) rfl H rfl fun t25 h ⟨S_3, H⟩ => ⟨(hcons rfl (still_1 S_3 hat20) hnil), ?_⟩
      refine alt_n rfl ?_ vp_none
      refine H_app TZ_35 TU_35 H fun t26 h H => ⟨(hskip rfl hnil), ?_⟩
      refine tkP rfl ?_; refine R_fld TF_37_1 H fun t27 H => ⟨fun _ => trivial, ?_⟩
      refine alt_n rfl ?_ vp_none
      refine H_store1 TS_35 H fun h H => ⟨hnil, ?_⟩
      refine vp_done ?_; exact ⟨H, hq1⟩
    obtain ⟨b, hc, H1, H2⟩ := H; refine WPc_cond hc (fun hh => ?_) (fun hh => ?_)
    · have H := H1 hh; clear H1 H2
      refine WPc_skip ?_; exact ⟨H, rfl⟩
    · have H := H2 hh; clear H1 H2
      refine WPc_exit ?_; exact H
  · have H := H2 hh; clear H1 H2
    refine WPc_skip ?_; exact H
/-! ### (*pub/tidwallbtree.BTreeG[impl.Item]).DoorRoot -/
def BTreeG_I_DoorRoot.sh (a0 : Value) (h : Heap) (Q : Value → Heap → Prop) : Prop := alloc [(.pointer none)] 88 h fun t2 h => nilck a0 fun t5 => fld 2 t5 fun t6 => load1 t6 h fun t7 => buildV [(.pointer none)] [(0, 1, t7)] fun t8 => nilck a0 fun t10 => fld 2 t10 fun t11 => load1 t11 h fun t12 => neNilP t12 fun t13 => storeN 1 t2 t8 h fun h => still1 t11 t12 h ∧ loadN 1 t2 h fun r2 => Q (.tuple #[r2, t13]) h
theorem BTreeG_I_DoorRoot.body (a0 : Value) (h : Heap) (Q : Value → Heap → Prop) (H : BTreeG_I_DoorRoot.sh a0 h Q) : BTreeG_I_DoorRoot.call #[a0] h Q := by
  refine callsH_of (args := [a0]) Try.func99 rfl rfl ?_; unfold BTreeG_I_DoorRoot.sh at H; refine WPc_seq' ?_; refine W_region (by kernel_rfl) ?_; refine vl_n ?_; refine H_alloc TV_88 H fun t2 h H => ?_; refine vl_n ?_; refine H_of_R (R_assign (v := (.bool false)) rfl ?_)
  refine vl_e ?_; refine WPc_seq' ?_; refine W_drawn [0, 1, 3, 7, 15, 0, 32, 96, 224, 480, 31, 2047] (.take 0 (.take 1 (.take 2 (.take 3 (.take 4 (.take 5 (.take 6 (.take 7 (.take 8 (.take 9 (.alt 10 (.take 11 .done) .none))))))))))) mixed (by kernel_rfl) ?_; refine tkP rfl ?_; refine R_move (v := a0) rfl ⟨fun _ => trivial, ?_⟩
  refine tkP rfl ?_; refine R_nil H fun t5 H => ⟨fun _ => trivial, ?_⟩
  refine tkP rfl ?_; refine R_fld TF_135_2 H fun t6 H => ⟨fun _ => trivial, ?_⟩
  refine tkL rfl ?_; refine R_load1 T1_86 H fun at7 t7 hat7 _ H => ?_; refine tkP rfl ?_; refine R_build TB_88 rfl (by decide) H fun t8 H => ⟨fun _ => trivial, ?_⟩
  refine tkP rfl ?_; refine R_move (v := a0) rfl ⟨fun _ => trivial, ?_⟩
  refine tkP rfl ?_; refine R_nil H fun t10 H => ⟨fun _ => trivial, ?_⟩
  refine tkP rfl ?_; refine R_fld TF_135_2 H fun t11 H => ⟨fun _ => trivial, ?_⟩
  refine tkL rfl ?_; refine R_load1 T1_86 H fun at12 t12 hat12 _ H => ?_; refine tkP rfl ?_; refine R_neNilP Try.underlying86 rfl H fun t13 H => ⟨fun _ => trivial, ?_⟩
  refine alt_n rfl ?_ vp_none
  refine H_storeN TS_88 H fun h ⟨S, H⟩ => ⟨(hcons rfl (still_1 S hat12) (hskip rfl hnil)), ?_⟩
  refine tkP rfl ?_; refine R_assign (v := t13) rfl ⟨fun _ => trivial, ?_⟩
  refine vp_done ?_; refine WPc_ret ?_; refine resH_of rfl ?_; refine resL_N TN_88 ?_; refine loadN_imp H fun r2 H => ?_; refine resL_t ?_; exact H
/-! ### impl.fell -/
def i_fell.j1 (s2 s3 : Value) (h : Heap) (Q : Value → Heap → Prop) : Prop := loadN 1 s3 h fun t13 => i_lifted.call #[t13] h fun t14 h => storeN 3 s2 t14 h fun h => loadN 3 s2 h fun r2 => Q r2 h
def i_fell.sh (a0 : Value) (h : Heap) (Q : Value → Heap → Prop) : Prop := alloc [(.slice none 0 0), (.slice none 0 0), (.int .i64 0)] 37 h fun t2 h => BTreeG_I_DoorRoot.call #[a0] h fun t7 h => extr 0 t7 fun t8 => extr 1 t7 fun t9 => alloc [(.pointer none)] 88 h fun t3 h => storeN 1 t3 t8 h fun h => notV t9 fun t11 => ifV t11 (buildV [(.slice none 0 0), (.slice none 0 0), (.int .i64 0)] [] fun t12 => storeN 3 t2 t12 h fun h => loadN 3 t2 h fun r2 => Q r2 h) (i_fell.j1 t2 t3 h Q)
theorem i_fell.body (a0 : Value) (h : Heap) (Q : Value → Heap → Prop) (H : i_fell.sh a0 h Q) : i_fell.call #[a0] h Q := by
  refine callsH_of (args := [a0]) Try.func62 rfl rfl ?_; unfold i_fell.sh at H; refine WPc_seq' ?_; refine W_region (by kernel_rfl) ?_; refine vl_n ?_; refine H_alloc TV_37 H fun t2 h H => ?_; refine vl_e ?_; refine WPc_seq' ?_; refine W_region (by kernel_rfl) ?_; refine vl_n ?_; refine H_of_R (R_move (v := a0) rfl ?_)
  refine vl_n ?_; refine H_call HB_99 H fun t7 h H => ?_; refine vl_n ?_; refine H_of_R (R_move (v := t7) rfl ?_)
  refine vl_n ?_; refine H_of_R (R_ext H fun t8 H => ?_)
  refine vl_n ?_; refine H_of_R (R_ext H fun t9 H => ?_)
  refine vl_n ?_; refine H_alloc TV_88 H fun t3 h H => ?_; refine vl_n ?_; refine H_storeN TS_88 H fun h H => ?_; refine vl_n ?_; refine H_of_R (R_assign (v := t9) rfl ?_)
  refine vl_e ?_; refine WPc_seq (fun e h => i_fell.j1 (e 2) (e 3) h Q) ?_ (fun e h H => ?_)
  rotate_left
  · unfold i_fell.j1 at H
    refine WPc_seq' ?_; refine W_region (by kernel_rfl) ?_; refine vl_n ?_; refine H_of_R (R_loadN TN_88 H fun _ t13 _ _ H _ _ => ?_)
    refine vl_n ?_; refine H_call HB_65 H fun t14 h H => ?_; refine vl_n ?_; refine H_storeN TS_37 H fun h H => ?_; refine vl_e ?_; refine WPc_ret ?_; refine resH_of rfl ?_; refine resL_N TN_37 ?_; refine loadN_imp H fun r2 H => ?_; exact H
  refine WPc_seq' ?_; refine W_region (by kernel_rfl) ?_; refine vl_n ?_; refine H_of_R (R_move (v := t9) rfl ?_)
  refine vl_n ?_; refine H_of_R (R_not H fun t11 H => ?_)
  refine vl_e ?_; obtain ⟨b, hc, H1, H2⟩ := H; refine WPc_cond hc (fun hh => ?_) (fun hh => ?_)
  · have H := H1 hh; clear H1 H2
    refine WPc_seq' ?_; refine W_region (by kernel_rfl) ?_; refine vl_n ?_; refine H_of_R (R_build TB_37 rfl (by decide) H fun t12 H => ?_)
    refine vl_n ?_; refine H_storeN TS_37 H fun h H => ?_; refine vl_e ?_; refine WPc_ret ?_; refine resH_of rfl ?_; refine resL_N TN_37 ?_; refine loadN_imp H fun r2 H => ?_; exact H
  · have H := H2 hh; clear H1 H2
    refine WPc_skip ?_; exact H
end Go.Proofs.Ytljecmjdmdjldaa
end
section
namespace Go.Proofs.Ytljecmjdmdjldaa
open Go.Hp
set_option maxRecDepth 100000
set_option maxHeartbeats 8000000
/-! ### spec.EqualItems -/
def s_EqualItems.j2 (h : Heap) (Q : Value → Heap → Prop) : Prop := Q (.bool true) h
def s_EqualItems.j5 (s0 s1 s12 s13 : Value) (h : Heap) (K1 : List Value → Heap → Prop) (Q : Value → Heap → Prop) : Prop := arith (· + ·) s13 (.int .i64 1) fun t25 => K1 [t25] h
def s_EqualItems.j4 (s0 s1 s12 s13 : Value) (h : Heap) (K1 : List Value → Heap → Prop) (Q : Value → Heap → Prop) : Prop := idx 2 s0 s13 fun t18 => loadN 2 t18 h fun t19 => idx 2 s1 s13 fun t22 => loadN 2 t22 h fun t23 => neR (EqV Try.prog 10000 27) t19 t23 fun t24 => ifV t24 (Q (.bool false) h) (s_EqualItems.j5 s0 s1 s12 s13 h K1 Q)
def s_EqualItems.l3.b (c0 c1 c12 s13 : Value) (h : Heap) (K1 : List Value → Heap → Prop) (Q : Value → Heap → Prop) : Prop := cmpI (fun a b => decide (a < b)) s13 c12 fun t14 => ifV t14 (s_EqualItems.j4 c0 c1 c12 s13 h K1 Q) (s_EqualItems.j2 h Q)
def s_EqualItems.j1 (s0 s1 : Value) (h : Heap) (Q : Value → Heap → Prop) : Prop := lenV s0 fun t12 => loopC (fun c s h K1 => s_EqualItems.l3.b (c.getD 0 undef) (c.getD 1 undef) (c.getD 2 undef) (s.getD 0 undef) h K1 Q) [s0, s1, t12] [(.int .i64 0)] h
def s_EqualItems.sh (a0 a1 : Value) (h : Heap) (Q : Value → Heap → Prop) : Prop := lenV a0 fun t7 => lenV a1 fun t9 => cmpI (fun a b => a != b) t7 t9 fun t10 => ifV t10 (Q (.bool false) h) (s_EqualItems.j1 a0 a1 h Q)
theorem s_EqualItems.body (a0 a1 : Value) (h : Heap) (Q : Value → Heap → Prop) (H : s_EqualItems.sh a0 a1 h Q) : s_EqualItems.call #[a0, a1] h Q := by
  refine callsH_of (args := [a0, a1]) Try.func66 rfl rfl ?_; unfold s_EqualItems.sh at H; refine WPc_seq' ?_; refine W_region (by kernel_rfl) ?_; refine vl_n ?_; refine H_of_R (R_assign (v := (.bool false)) rfl ?_)
  refine vl_e ?_; refine WPc_seq (fun e h => s_EqualItems.j1 (e 0) (e 1) h Q) ?_ (fun e h H => ?_)
  rotate_left
  · unfold s_EqualItems.j1 at H
    refine WPc_seq (fun e h => s_EqualItems.j2 h Q) ?_ (fun e h H => ?_)
    rotate_left
    · unfold s_EqualItems.j2 at H
      refine WPc_seq' ?_; refine W_region (by kernel_rfl) ?_; refine vl_n ?_; refine H_of_R (R_assign (v := (.bool true)) rfl ?_)
      refine vl_e ?_; refine WPc_ret ?_; refine resH_of rfl ?_; exact H
    refine WPc_seq' ?_; refine W_region (by kernel_rfl) ?_; refine vl_n ?_; refine H_of_R (R_move (v := (e 0)) rfl ?_)
    refine vl_n ?_; refine H_of_R (R_len Try.underlying25 H fun t12 H => ?_)
    refine vl_n ?_; refine H_of_R (R_move (v := (.int .i64 0)) rfl ?_)
    refine vl_e ?_; refine WPc_block ?_; refine loop_at (fun e => [e 13]) (fun e => [e 0, e 1, e 12]) H rfl rfl ?_; intro K1 e1 h H hin1
    replace H : s_EqualItems.l3.b (e1 0) (e1 1) (e1 12) (e1 13) h K1 Q := H
    unfold s_EqualItems.l3.b at H; clear hin1; refine WPc_seq' ?_; refine W_region (by kernel_rfl) ?_; refine vl_n ?_; refine H_of_R (R_lss H fun t14 H => ?_)
    refine vl_e ?_; refine WPc_seq (fun e h => s_EqualItems.j4 (e 0) (e 1) (e 12) (e 13) h K1 Q ∧ [e1 0, e1 1, e1 12] = [e 0, e 1, e 12]) ?_ (fun e h ⟨H, hq1⟩ => ?_)
    rotate_left
    · unfold s_EqualItems.j4 at H
      refine WPc_seq (fun e h => s_EqualItems.j5 (e 0) (e 1) (e 12) (e 13) h K1 Q ∧ [e1 0, e1 1, e1 12] = [e 0, e 1, e 12]) ?_ (fun e h ⟨H, hq1⟩ => ?_)
      rotate_left
      · unfold s_EqualItems.j5 at H
        refine W_region (by kernel_rfl) ?_; refine vl_n ?_; refine H_of_R (R_add H fun t25 H => ?_)
        refine vl_n ?_; refine H_of_R (R_move (v := t25) rfl ?_)
        refine vl_e ?_; exact ⟨H, hq1⟩
      refine WPc_block ?_; refine WPc_seq' ?_; refine W_region (by kernel_rfl) ?_; refine vl_n ?_; refine H_of_R (R_move (v := (e 13)) rfl ?_)
      refine vl_n ?_; refine H_of_R (R_assign (v := (e 13)) rfl ?_)
      refine vl_e ?_; refine WPc_seq' ?_; refine W_drawn [0, 0, 3, 7, 0, 0, 48, 112, 255] (.take 0 (.take 1 (.take 2 (.take 3 (.take 4 (.take 5 (.take 6 (.take 7 (.take 8 .done))))))))) mixed (by kernel_rfl) ?_; refine tkP rfl ?_; refine R_move (v := (e 0)) rfl ⟨fun _ => trivial, ?_⟩
      refine tkP rfl ?_; refine R_move (v := (e 13)) rfl ⟨fun _ => trivial, ?_⟩
      refine tkP rfl ?_; refine R_idx TE_25 H fun t18 H => ⟨fun _ => trivial, ?_⟩
      refine tkL rfl ?_; refine R_loadN TN_27 H fun at19 xt19 hat19 _ H St19 hSt19 => ?_; refine tkP rfl ?_; refine R_move (v := (e 1)) rfl ⟨fun _ => trivial, ?_⟩
      refine tkP rfl ?_; refine R_move (v := (e 13)) rfl ⟨fun _ => trivial, ?_⟩
      refine tkP rfl ?_; refine R_idx TE_25 H fun t22 H => ⟨fun _ => trivial, ?_⟩
      refine tkL rfl ?_; refine R_loadN TN_27 H fun at23 xt23 hat23 _ H St23 hSt23 => ?_; refine tkP rfl ?_; refine R_neA (by kernel_rfl) H fun t24 H => ⟨fun _ => trivial, ?_⟩
      refine vp_done ?_; obtain ⟨b, hc, H1, H2⟩ := H; refine WPc_cond hc (fun hh => ?_) (fun hh => ?_)
      · have H := H1 hh; clear H1 H2
        refine WPc_seq' ?_; refine W_region (by kernel_rfl) ?_; refine vl_n ?_; refine H_of_R (R_assign (v := (.bool false)) rfl ?_)
        refine vl_e ?_; refine WPc_ret ?_; refine resH_of rfl ?_; exact H
      · have H := H2 hh; clear H1 H2
        refine WPc_skip ?_; exact ⟨H, hq1⟩
    obtain ⟨b, hc, H1, H2⟩ := H; refine WPc_cond hc (fun hh => ?_) (fun hh => ?_)
    · have H := H1 hh; clear H1 H2
      refine WPc_skip ?_; exact ⟨H, rfl⟩
    · have H := H2 hh; clear H1 H2
      refine WPc_exit ?_; exact H
  refine WPc_seq' ?_; refine W_region (by kernel_rfl) ?_; refine vl_n ?_; refine H_of_R (R_move (v := a0) rfl ?_)
  refine vl_n ?_; refine H_of_R (R_len Try.underlying25 H fun t7 H => ?_)
  refine vl_n ?_; refine H_of_R (R_move (v := a1) rfl ?_)
  refine vl_n ?_; refine H_of_R (R_len Try.underlying25 H fun t9 H => ?_)
  refine vl_n ?_; refine H_of_R (R_neI H fun t10 H => ?_)
  refine vl_e ?_; obtain ⟨b, hc, H1, H2⟩ := H; refine WPc_cond hc (fun hh => ?_) (fun hh => ?_)
  · have H := H1 hh; clear H1 H2
    refine WPc_seq' ?_; refine W_region (by kernel_rfl) ?_; refine vl_n ?_; refine H_of_R (R_assign (v := (.bool false)) rfl ?_)
    refine vl_e ?_; refine WPc_ret ?_; refine resH_of rfl ?_; exact H
  · have H := H2 hh; clear H1 H2
    refine WPc_skip ?_; exact H
/-! ### spec.SameShapes -/
def s_SameShapes.j2 (h : Heap) (Q : Value → Heap → Prop) : Prop := Q (.bool true) h
def s_SameShapes.j5 (s2 s3 s4 s17 s18 : Value) (h : Heap) (K1 : List Value → Heap → Prop) (Q : Value → Heap → Prop) : Prop := arith (· + ·) s18 (.int .i64 1) fun t34 => K1 [t34] h
def s_SameShapes.j4 (s2 s3 s4 s17 s18 : Value) (h : Heap) (K1 : List Value → Heap → Prop) (Q : Value → Heap → Prop) : Prop := fld 1 s3 fun t22 => load1 t22 h fun t23 => idx 3 t23 s18 fun t25 => loadN 3 t25 h fun t26 => fld 1 s4 fun t27 => load1 t27 h fun t28 => idx 3 t28 s18 fun t30 => loadN 3 t30 h fun t31 => callV Try.prog s2 #[t26, t31] h fun t32 h => notV t32 fun t33 => ifV t33 (Q (.bool false) h) (s_SameShapes.j5 s2 s3 s4 s17 s18 h K1 Q)
def s_SameShapes.l3.b (c2 c3 c4 c17 s18 : Value) (h : Heap) (K1 : List Value → Heap → Prop) (Q : Value → Heap → Prop) : Prop := cmpI (fun a b => decide (a < b)) s18 c17 fun t19 => ifV t19 (s_SameShapes.j4 c2 c3 c4 c17 s18 h K1 Q) (s_SameShapes.j2 h Q)
def s_SameShapes.j1 (s2 s3 s4 : Value) (h : Heap) (Q : Value → Heap → Prop) : Prop := fld 1 s3 fun t15 => load1 t15 h fun t16 => lenV t16 fun t17 => loopC (fun c s h K1 => s_SameShapes.l3.b (c.getD 0 undef) (c.getD 1 undef) (c.getD 2 undef) (c.getD 3 undef) (s.getD 0 undef) h K1 Q) [s2, s3, s4, t17] [(.int .i64 0)] h
def s_SameShapes.sh (a0 a1 a2 : Value) (h : Heap) (Q : Value → Heap → Prop) : Prop := box 37 a0 h fun t3 h => box 37 a1 h fun t4 h => fld 1 t3 fun t8 => load1 t8 h fun t9 => lenV t9 fun t10 => fld 1 t4 fun t11 => load1 t11 h fun t12 => lenV t12 fun t13 => cmpI (fun a b => a != b) t10 t13 fun t14 => ifV t14 (Q (.bool false) h) (s_SameShapes.j1 a2 t3 t4 h Q)
theorem s_SameShapes.body (a0 a1 a2 : Value) (h : Heap) (Q : Value → Heap → Prop) (H : s_SameShapes.sh a0 a1 a2 h Q) : s_SameShapes.call #[a0, a1, a2] h Q := by
  refine callsH_of (args := [a0, a1, a2]) Try.func67 rfl rfl ?_; unfold s_SameShapes.sh at H; refine WPc_seq' ?_; refine W_region (by kernel_rfl) ?_; refine vl_n ?_; refine H_box H fun t3 h H => ?_; refine vl_n ?_; refine H_box H fun t4 h H => ?_; refine vl_n ?_; refine H_of_R (R_assign (v := (.bool false)) rfl ?_)
  refine vl_e ?_; refine WPc_seq (fun e h => s_SameShapes.j1 (e 2) (e 3) (e 4) h Q) ?_ (fun e h H => ?_)
  rotate_left
  · unfold s_SameShapes.j1 at H
    refine WPc_seq (fun e h => s_SameShapes.j2 h Q) ?_ (fun e h H => ?_)
    rotate_left
    · unfold s_SameShapes.j2 at H
      refine WPc_seq' ?_; refine W_region (by kernel_rfl) ?_; refine vl_n ?_; refine H_of_R (R_assign (v := (.bool true)) rfl ?_)
      refine vl_e ?_; refine WPc_ret ?_; refine resH_of rfl ?_; exact H
    refine WPc_seq' ?_; refine W_region (by kernel_rfl) ?_; refine vl_n ?_; refine H_of_R (R_fld TF_37_1 H fun t15 H => ?_)
    refine vl_n ?_; refine H_of_R (R_load1 T1_35 H fun _ t16 _ _ H => ?_)
    refine vl_n ?_; refine H_of_R (R_len Try.underlying35 H fun t17 H => ?_)
    refine vl_n ?_; refine H_of_R (R_move (v := (.int .i64 0)) rfl ?_)
    refine vl_e ?_; refine WPc_block ?_; refine loop_at (fun e => [e 18]) (fun e => [e 2, e 3, e 4, e 17]) H rfl rfl ?_; intro K1 e1 h H hin1
    replace H : s_SameShapes.l3.b (e1 2) (e1 3) (e1 4) (e1 17) (e1 18) h K1 Q := H
    unfold s_SameShapes.l3.b at H; clear hin1; refine WPc_seq' ?_; refine W_region (by kernel_rfl) ?_; refine vl_n ?_; refine H_of_R (R_lss H fun t19 H => ?_)
    refine vl_e ?_; refine WPc_seq (fun e h => s_SameShapes.j4 (e 2) (e 3) (e 4) (e 17) (e 18) h K1 Q ∧ [e1 2, e1 3, e1 4, e1 17] = [e 2, e 3, e 4, e 17]) ?_ (fun e h ⟨H, hq1⟩ => ?_)
    rotate_left
    · unfold s_SameShapes.j4 at H
      refine WPc_seq (fun e h => s_SameShapes.j5 (e 2) (e 3) (e 4) (e 17) (e 18) h K1 Q ∧ [e1 2, e1 3, e1 4, e1 17] = [e 2, e 3, e 4, e 17]) ?_ (fun e h ⟨H, hq1⟩ => ?_)
      rotate_left
      · unfold s_SameShapes.j5 at H
        refine W_region (by kernel_rfl) ?_; refine vl_n ?_; refine H_of_R (R_add H fun t34 H => ?_)
        refine vl_n ?_; refine H_of_R (R_move (v := t34) rfl ?_)
        refine vl_e ?_; exact ⟨H, hq1⟩
      refine WPc_block ?_; refine WPc_seq' ?_; refine W_region (by kernel_rfl) ?_; refine vl_n ?_; refine H_of_R (R_move (v := (e 18)) rfl ?_)
      refine vl_n ?_; refine H_of_R (R_assign (v := (e 18)) rfl ?_)
      refine vl_e ?_; refine WPc_seq' ?_; refine W_drawn [0, 0, 2, 0, 14, 30, 0, 64, 0, 448, 960, 2047, 4095] (.take 0 (.take 1 (.take 2 (.take 3 (.take 4 (.take 5 (.take 6 (.take 7 (.take 8 (.take 9 (.take 10 (.alt 11 (.take 12 .done) .none)))))))))))) mixed (by kernel_rfl) ?_; refine tkP rfl ?_; refine R_move (v := (e 2)) rfl ⟨fun _ => trivial, ?_⟩
      refine tkP rfl ?_; refine R_fld TF_37_1 H fun t22 H => ⟨fun _ => trivial, ?_⟩
      refine tkL rfl ?_; refine R_load1 T1_35 H fun at23 t23 hat23 _ H => ?_; refine tkP rfl ?_; refine R_move (v := (e 18)) rfl ⟨fun _ => trivial, ?_⟩
      refine tkP rfl ?_; refine R_idx TE_35 H fun t25 H => ⟨fun _ => trivial, ?_⟩
      refine tkL rfl ?_; refine R_loadN TN_37 H fun at26 xt26 hat26 _ H St26 hSt26 => ?_; refine tkP rfl ?_; refine R_fld TF_37_1 H fun t27 H => ⟨fun _ => trivial, ?_⟩
      refine tkL rfl ?_; refine R_load1 T1_35 H fun at28 t28 hat28 _ H => ?_; refine tkP rfl ?_; refine R_move (v := (e 18)) rfl ⟨fun _ => trivial, ?_⟩
      refine tkP rfl ?_; refine R_idx TE_35 H fun t30 H => ⟨fun _ => trivial, ?_⟩
      refine tkL rfl ?_; refine R_loadN TN_37 H fun at31 xt31 hat31 _ H St31 hSt31 => ?_; refine alt_n rfl ?_ vp_none
      refine H_callV H fun t32 h H => ⟨(hskip rfl (hskip rfl (hskip rfl (hskip rfl hnil)))), ?_⟩
      refine tkP rfl ?_; refine R_not H fun t33 H => ⟨fun _ => trivial, ?_⟩
      refine vp_done ?_; obtain ⟨b, hc, H1, H2⟩ := H; refine WPc_cond hc (fun hh => ?_) (fun hh => ?_)
      · have H := H1 hh; clear H1 H2
        refine WPc_seq' ?_; refine W_region (by kernel_rfl) ?_; refine vl_n ?_; refine H_of_R (R_assign (v := (.bool false)) rfl ?_)
        refine vl_e ?_; refine WPc_ret ?_; refine resH_of rfl ?_; exact H
      · have H := H2 hh; clear H1 H2
        refine WPc_skip ?_; exact ⟨H, hq1⟩
    obtain ⟨b, hc, H1, H2⟩ := H; refine WPc_cond hc (fun hh => ?_) (fun hh => ?_)
    · have H := H1 hh; clear H1 H2
      refine WPc_skip ?_; exact ⟨H, rfl⟩
    · have H := H2 hh; clear H1 H2
      refine WPc_exit ?_; exact H
  refine WPc_seq' ?_; refine W_region (by kernel_rfl) ?_; refine vl_n ?_; refine H_of_R (R_fld TF_37_1 H fun t8 H => ?_)
  refine vl_n ?_; refine H_of_R (R_load1 T1_35 H fun _ t9 _ _ H => ?_)
  refine vl_n ?_; refine H_of_R (R_len Try.underlying35 H fun t10 H => ?_)
  refine vl_n ?_; refine H_of_R (R_fld TF_37_1 H fun t11 H => ?_)
  refine vl_n ?_; refine H_of_R (R_load1 T1_35 H fun _ t12 _ _ H => ?_)
  refine vl_n ?_; refine H_of_R (R_len Try.underlying35 H fun t13 H => ?_)
  refine vl_n ?_; refine H_of_R (R_neI H fun t14 H => ?_)
  refine vl_e ?_; obtain ⟨b, hc, H1, H2⟩ := H; refine WPc_cond hc (fun hh => ?_) (fun hh => ?_)
  · have H := H1 hh; clear H1 H2
    refine WPc_seq' ?_; refine W_region (by kernel_rfl) ?_; refine vl_n ?_; refine H_of_R (R_assign (v := (.bool false)) rfl ?_)
    refine vl_e ?_; refine WPc_ret ?_; refine resH_of rfl ?_; exact H
  · have H := H2 hh; clear H1 H2
    refine WPc_skip ?_; exact H
/-! ### spec.SameNodes -/
def s_SameNodes.sh (a0 a1 : Value) (h : Heap) (Q : Value → Heap → Prop) : Prop := box 37 a0 h fun t2 h => box 37 a1 h fun t3 h => fld 2 t2 fun t5 => load1 t5 h fun t6 => fld 2 t3 fun t7 => load1 t7 h fun t8 => cmpI (fun a b => a == b) t6 t8 fun t9 => br t9 true (fld 0 t2 fun t11 => load1 t11 h fun t12 => fld 0 t3 fun t13 => load1 t13 h fun t14 => s_EqualItems.call #[t12, t14] h fun t15 h => br t15 true (loadN 3 t2 h fun t18 => loadN 3 t3 h fun t19 => s_SameShapes.call #[t18, t19, (.func (.func 35) #[] #[])] h fun t20 h => Q t20 h) (Q (.bool false) h)) (Q (.bool false) h)
theorem s_SameNodes.body (a0 a1 : Value) (h : Heap) (Q : Value → Heap → Prop) (H : s_SameNodes.sh a0 a1 h Q) : s_SameNodes.call #[a0, a1] h Q := by
  refine callsH_of (args := [a0, a1]) Try.func35 rfl rfl ?_; unfold s_SameNodes.sh at H; refine WPc_seq' ?_; refine W_region (by kernel_rfl) ?_; refine vl_n ?_; refine H_box H fun t2 h H => ?_; refine vl_n ?_; refine H_box H fun t3 h H => ?_; refine vl_n ?_; refine H_of_R (R_assign (v := (.bool false)) rfl ?_)
  refine vl_e ?_; refine WPc_seq' ?_; refine W_region (by kernel_rfl) ?_; refine vl_n ?_; refine H_of_R (R_fld TF_37_2 H fun t5 H => ?_)
  refine vl_n ?_; refine H_of_R (R_load1 T1_3 H fun _ t6 _ _ H => ?_)
  refine vl_n ?_; refine H_of_R (R_fld TF_37_2 H fun t7 H => ?_)
  refine vl_n ?_; refine H_of_R (R_load1 T1_3 H fun _ t8 _ _ H => ?_)
  refine vl_n ?_; refine H_of_R (R_eqI H fun t9 H => ?_)
  refine vl_n ?_; refine H_of_R (R_move (v := t9) rfl ?_)
  obtain ⟨b, hb, H1, H2⟩ := H
  cases b
  · have H := H2 rfl; clear H1 H2
    refine vl_s rfl (nbT hb) ?_; refine vl_s rfl (nbT hb) ?_; refine vl_s rfl (nbT hb) ?_; refine vl_s rfl (nbT hb) ?_; refine vl_s rfl (nbT hb) ?_; refine vl_n ?_; refine H_of_R (R_pickC (v := (.bool false)) false hb rfl ?_)
    refine vl_n ?_; refine H_of_R (R_move (v := (.bool false)) rfl ?_)
    refine vl_s rfl (nbT rfl) ?_; refine vl_s rfl (nbT rfl) ?_; refine vl_s rfl (nbT rfl) ?_; refine vl_n ?_; refine H_of_R (R_pickC (v := (.bool false)) false rfl rfl ?_)
    refine vl_n ?_; refine H_of_R (R_assign (v := (.bool false)) rfl ?_)
    refine vl_e ?_; refine WPc_ret ?_; refine resH_of rfl ?_; exact H
  · have H := H1 rfl; clear H1 H2
    refine vl_y rfl hb ?_; refine H_of_R (R_fld TF_37_0 H fun t11 H => ?_)
    refine vl_y rfl hb ?_; refine H_of_R (R_load1 T1_25 H fun _ t12 _ _ H => ?_)
    refine vl_y rfl hb ?_; refine H_of_R (R_fld TF_37_0 H fun t13 H => ?_)
    refine vl_y rfl hb ?_; refine H_of_R (R_load1 T1_25 H fun _ t14 _ _ H => ?_)
    refine vl_y rfl hb ?_; refine H_call HB_66 H fun t15 h H => ?_; refine vl_n ?_; refine H_of_R (R_pickC (v := t15) true hb rfl ?_)
    refine vl_n ?_; refine H_of_R (R_move (v := t15) rfl ?_)
    obtain ⟨b_2, hb_2, H1, H2⟩ := H
    cases b_2
    · have H := H2 rfl; clear H1 H2
      refine vl_s rfl (nbT hb_2) ?_; refine vl_s rfl (nbT hb_2) ?_; refine vl_s rfl (nbT hb_2) ?_; refine vl_n ?_; refine H_of_R (R_pickC (v := (.bool false)) false hb_2 rfl ?_)
      refine vl_n ?_; refine H_of_R (R_assign (v := (.bool false)) rfl ?_)
      refine vl_e ?_; refine WPc_ret ?_; refine resH_of rfl ?_; exact H
    · have H := H1 rfl; clear H1 H2
      refine vl_y rfl hb_2 ?_; refine H_of_R (R_loadN TN_37 H fun _ t18 _ _ H _ _ => ?_)
      refine vl_y rfl hb_2 ?_; refine H_of_R (R_loadN TN_37 H fun _ t19 _ _ H _ _ => ?_)
      refine vl_y rfl hb_2 ?_; refine H_call HB_67 H fun t20 h H => ?_; refine vl_n ?_; refine H_of_R (R_pickC (v := t20) true hb_2 rfl ?_)
      refine vl_n ?_; refine H_of_R (R_assign (v := t20) rfl ?_)
      refine vl_e ?_; refine WPc_ret ?_; refine resH_of rfl ?_; exact H
end Go.Proofs.Ytljecmjdmdjldaa
end
section
namespace Go.Proofs.Ytljecmjdmdjldaa
open Go.Hp
set_option maxRecDepth 100000
set_option maxHeartbeats 8000000
/-! ### impl.NSet -/
def i_NSet.sh (a0 a1 a2 : Value) (h : Heap) (Q : Value → Heap → Prop) : Prop := box 24 a0 h fun t3 h => box 37 a1 h fun t4 h => box 27 a2 h fun t5 h => alloc [(.int .i64 0), (.int .i64 0), (.bool false)] 46 h fun t6 h => alloc [(.slice none 0 0), (.slice none 0 0), (.int .i64 0)] 37 h fun t7 h => loadN 3 t3 h fun t10 => loadN 3 t4 h fun t11 => i_stand.call #[t10, t11] h fun t12 h => loadN 2 t5 h fun t14 => BTreeG_I_Set.call #[t12, t14] h fun t15 h => extr 0 t15 fun t16 => extr 1 t15 fun t17 => i_found.call #[t16, t17] h fun t18 h => alloc [(.int .i64 0), (.int .i64 0), (.bool false)] 46 h fun t9 h => storeN 3 t9 t18 h fun h => loadN 3 t9 h fun t19 => i_fell.call #[t12] h fun t21 h => stillN 3 t9 t19 h ∧ storeN 3 t6 t19 h fun h => storeN 3 t7 t21 h fun h => loadN 3 t6 h fun r6 => loadN 3 t7 h fun r7 => Q (.tuple #[r6, r7]) h
theorem i_NSet.body (a0 a1 a2 : Value) (h : Heap) (Q : Value → Heap → Prop) (H : i_NSet.sh a0 a1 a2 h Q) : i_NSet.call #[a0, a1, a2] h Q := by
  refine callsH_of (args := [a0, a1, a2]) Try.func45 rfl rfl ?_; unfold i_NSet.sh at H; refine WPc_seq' ?_; refine W_region (by kernel_rfl) ?_; refine vl_n ?_; refine H_box H fun t3 h H => ?_; refine vl_n ?_; refine H_box H fun t4 h H => ?_; refine vl_n ?_; refine H_box H fun t5 h H => ?_; refine vl_n ?_; refine H_alloc TV_46 H fun t6 h H => ?_; refine vl_n ?_; refine H_alloc TV_37 H fun t7 h H => ?_; refine vl_e ?_; refine WPc_seq' ?_; refine W_region (by kernel_rfl) ?_; refine vl_n ?_; refine H_of_R (R_loadN TN_24 H fun _ t10 _ _ H _ _ => ?_)
  refine vl_n ?_; refine H_of_R (R_loadN TN_37 H fun _ t11 _ _ H _ _ => ?_)
  refine vl_n ?_; refine H_call HB_55 H fun t12 h H => ?_; refine vl_n ?_; refine H_of_R (R_assign (v := t12) rfl ?_)
  refine vl_e ?_; refine WPc_seq' ?_; refine W_region (by kernel_rfl) ?_; refine vl_n ?_; refine H_of_R (R_move (v := t12) rfl ?_)
  refine vl_n ?_; refine H_of_R (R_loadN TN_27 H fun _ t14 _ _ H _ _ => ?_)
  refine vl_n ?_; refine H_call HB_79 H fun t15 h H => ?_; refine vl_n ?_; refine H_of_R (R_ext H fun t16 H => ?_)
  refine vl_n ?_; refine H_of_R (R_ext H fun t17 H => ?_)
  refine vl_n ?_; refine H_call HB_59 H fun t18 h H => ?_; refine vl_n ?_; refine H_alloc TV_46 H fun t9 h H => ?_; refine vl_n ?_; refine H_storeN TS_46 H fun h H => ?_; refine vl_e ?_; refine WPc_seq' ?_; refine W_drawn [0, 0, 2, 7, 15] (.take 0 (.take 1 (.alt 2 (.alt 3 (.alt 4 .done .none) .none) .none))) mixed (by kernel_rfl) ?_; refine tkL rfl ?_; refine R_loadN TN_46 H fun at19 xt19 hat19 _ H St19 hSt19 => ?_; refine tkP rfl ?_; refine R_move (v := t12) rfl ⟨fun _ => trivial, ?_⟩
  refine alt_n rfl ?_ vp_none
  refine H_call HB_62 H fun t21 h ⟨S, H⟩ => ⟨(hcons rfl (hSt19 _ (still_N S hat19 rfl)) hnil), ?_⟩
  refine alt_n rfl ?_ vp_none
  refine H_storeN TS_46 H fun h H => ⟨(hskip rfl hnil), ?_⟩
  refine alt_n rfl ?_ vp_none
  refine H_storeN TS_37 H fun h H => ⟨hnil, ?_⟩
  refine vp_done ?_; refine WPc_ret ?_; refine resH_of rfl ?_; refine resL_N TN_46 ?_; refine loadN_imp H fun r6 H => ?_; refine resL_N TN_37 ?_; refine loadN_imp H fun r7 H => ?_; exact H
/-! ### spec.child -/
def s_child.sh (a0 a1 a2 : Value) (h : Heap) (Q : Value → Heap → Prop) : Prop := box 37 a1 h fun t4 h => box 27 a2 h fun t5 h => fld 0 t4 fun t9 => load1 t9 h fun t10 => loadN 2 t5 h fun t11 => s_Place.call #[a0, t10, t11] h fun t12 h => extr 0 t12 fun t13 => extr 1 t12 fun t14 => Q (.tuple #[t13, t14]) h
theorem s_child.body (a0 a1 a2 : Value) (h : Heap) (Q : Value → Heap → Prop) (H : s_child.sh a0 a1 a2 h Q) : s_child.call #[a0, a1, a2] h Q := by
  refine callsH_of (args := [a0, a1, a2]) Try.func117 rfl rfl ?_; unfold s_child.sh at H; refine WPc_seq' ?_; refine W_region (by kernel_rfl) ?_; refine vl_n ?_; refine H_box H fun t4 h H => ?_; refine vl_n ?_; refine H_box H fun t5 h H => ?_; refine vl_n ?_; refine H_of_R (R_assign (v := (.int .i64 0)) rfl ?_)
  refine vl_n ?_; refine H_of_R (R_assign (v := (.bool false)) rfl ?_)
  refine vl_e ?_; refine WPc_seq' ?_; refine W_region (by kernel_rfl) ?_; refine vl_n ?_; refine H_of_R (R_move (v := a0) rfl ?_)
  refine vl_n ?_; refine H_of_R (R_fld TF_37_0 H fun t9 H => ?_)
  refine vl_n ?_; refine H_of_R (R_load1 T1_25 H fun _ t10 _ _ H => ?_)
  refine vl_n ?_; refine H_of_R (R_loadN TN_27 H fun _ t11 _ _ H _ _ => ?_)
  refine vl_n ?_; refine H_call HB_18 H fun t12 h H => ?_; refine vl_n ?_; refine H_of_R (R_ext H fun t13 H => ?_)
  refine vl_n ?_; refine H_of_R (R_ext H fun t14 H => ?_)
  refine vl_n ?_; refine H_of_R (R_assign (v := t13) rfl ?_)
  refine vl_n ?_; refine H_of_R (R_assign (v := t14) rfl ?_)
  refine vl_e ?_; refine WPc_ret ?_; refine resH_of rfl ?_; exact H
/-! ### spec.changed[impl.Item] -/
def s_changed_I.sh (a0 a1 a2 : Value) (h : Heap) (Q : Value → Heap → Prop) : Prop := box 27 a2 h fun t5 h => mkSl (if 0 * 2 = 0 then [] else zeros [(.int .i64 0), (.int .i64 0)] 0) 0 [] 27 h fun t8 h => app 27 2 16 [(.int .i64 0), (.int .i64 0)] t8 a0 h fun t10 h => loadN 2 t5 h fun t13 => idx 2 t10 a1 fun t14 => storeN 2 t14 t13 h fun h => Q t10 h
theorem s_changed_I.body (a0 a1 a2 : Value) (h : Heap) (Q : Value → Heap → Prop) (H : s_changed_I.sh a0 a1 a2 h Q) : s_changed_I.call #[a0, a1, a2] h Q := by
  refine callsH_of (args := [a0, a1, a2]) Try.func118 rfl rfl ?_; unfold s_changed_I.sh at H; refine WPc_seq' ?_; refine W_region (by kernel_rfl) ?_; refine vl_n ?_; refine H_box H fun t5 h H => ?_; refine vl_n ?_; refine H_of_R (R_assign (v := (.slice none 0 0)) rfl ?_)
  refine vl_e ?_; refine WPc_seq' ?_; refine W_region (by kernel_rfl) ?_; refine vl_n ?_; refine H_mkSl TZ_25 (by decide) rfl H rfl fun t8 h H => ?_; refine vl_n ?_; refine H_of_R (R_move (v := a0) rfl ?_)
  refine vl_n ?_; refine H_app TZ_25 TU_25 H fun t10 h H => ?_; refine vl_n ?_; refine H_of_R (R_assign (v := t10) rfl ?_)
  refine vl_e ?_; refine WPc_seq' ?_; refine W_region (by kernel_rfl) ?_; refine vl_n ?_; refine H_of_R (R_move (v := t10) rfl ?_)
  refine vl_n ?_; refine H_of_R (R_move (v := a1) rfl ?_)
  refine vl_n ?_; refine H_of_R (R_loadN TN_27 H fun _ t13 _ _ H _ _ => ?_)
  refine vl_n ?_; refine H_of_R (R_idx TE_25 H fun t14 H => ?_)
  refine vl_n ?_; refine H_storeN TS_27 H fun h H => ?_; refine vl_e ?_; refine WPc_seq' ?_; refine W_region (by kernel_rfl) ?_; refine vl_n ?_; refine H_of_R (R_move (v := t10) rfl ?_)
  refine vl_n ?_; refine H_of_R (R_assign (v := t10) rfl ?_)
  refine vl_e ?_; refine WPc_ret ?_; refine resH_of rfl ?_; exact H
/-! ### spec.changed[impl.Node] -/
def s_changed_implNode.sh (a0 a1 a2 : Value) (h : Heap) (Q : Value → Heap → Prop) : Prop := box 37 a2 h fun t5 h => mkSl (if 0 * 3 = 0 then [] else zeros [(.slice none 0 0), (.slice none 0 0), (.int .i64 0)] 0) 0 [] 37 h fun t8 h => app 37 3 56 [(.slice none 0 0), (.slice none 0 0), (.int .i64 0)] t8 a0 h fun t10 h => loadN 3 t5 h fun t13 => idx 3 t10 a1 fun t14 => storeN 3 t14 t13 h fun h => Q t10 h
theorem s_changed_implNode.body (a0 a1 a2 : Value) (h : Heap) (Q : Value → Heap → Prop) (H : s_changed_implNode.sh a0 a1 a2 h Q) : s_changed_implNode.call #[a0, a1, a2] h Q := by
  refine callsH_of (args := [a0, a1, a2]) Try.func119 rfl rfl ?_; unfold s_changed_implNode.sh at H; refine WPc_seq' ?_; refine W_region (by kernel_rfl) ?_; refine vl_n ?_; refine H_box H fun t5 h H => ?_; refine vl_n ?_; refine H_of_R (R_assign (v := (.slice none 0 0)) rfl ?_)
  refine vl_e ?_; refine WPc_seq' ?_; refine W_region (by kernel_rfl) ?_; refine vl_n ?_; refine H_mkSl TZ_35 (by decide) rfl H rfl fun t8 h H => ?_; refine vl_n ?_; refine H_of_R (R_move (v := a0) rfl ?_)
  refine vl_n ?_; refine H_app TZ_35 TU_35 H fun t10 h H => ?_; refine vl_n ?_; refine H_of_R (R_assign (v := t10) rfl ?_)
  refine vl_e ?_; refine WPc_seq' ?_; refine W_region (by kernel_rfl) ?_; refine vl_n ?_; refine H_of_R (R_move (v := t10) rfl ?_)
  refine vl_n ?_; refine H_of_R (R_move (v := a1) rfl ?_)
  refine vl_n ?_; refine H_of_R (R_loadN TN_37 H fun _ t13 _ _ H _ _ => ?_)
  refine vl_n ?_; refine H_of_R (R_idx TE_35 H fun t14 H => ?_)
  refine vl_n ?_; refine H_storeN TS_37 H fun h H => ?_; refine vl_e ?_; refine WPc_seq' ?_; refine W_region (by kernel_rfl) ?_; refine vl_n ?_; refine H_of_R (R_move (v := t10) rfl ?_)
  refine vl_n ?_; refine H_of_R (R_assign (v := t10) rfl ?_)
  refine vl_e ?_; refine WPc_ret ?_; refine resH_of rfl ?_; exact H
/-! ### spec.inserted[impl.Item] -/
def s_inserted_I.sh (a0 a1 a2 : Value) (h : Heap) (Q : Value → Heap → Prop) : Prop := box 27 a2 h fun t5 h => slc 2 a0 none (some a1) none fun t10 => loadN 2 t5 h fun t12 => slc 2 a0 (some a1) none none fun t17 => (mkSl (if 0 * 2 = 0 then [] else zeros [(.int .i64 0), (.int .i64 0)] 0) 0 [] 27 h fun t7 h => stillN 2 t5 t12 h ∧ (app 27 2 16 [(.int .i64 0), (.int .i64 0)] t7 t10 h fun t11 h => stillN 2 t5 t12 h ∧ mkSl (if 1 * 2 = 0 then [] else zeros [(.int .i64 0), (.int .i64 0)] 1) 1 [(0 * 2, 2, t12)] 27 h fun t13 h => app 27 2 16 [(.int .i64 0), (.int .i64 0)] t11 t13 h fun t14 h => app 27 2 16 [(.int .i64 0), (.int .i64 0)] t14 t17 h fun t18 h => Q t18 h) ∧ (mkSl (if 1 * 2 = 0 then [] else zeros [(.int .i64 0), (.int .i64 0)] 1) 1 [(0 * 2, 2, t12)] 27 h fun t13_2 h => app 27 2 16 [(.int .i64 0), (.int .i64 0)] t7 t10 h fun t11_2 h => app 27 2 16 [(.int .i64 0), (.int .i64 0)] t11_2 t13_2 h fun t14_2 h => app 27 2 16 [(.int .i64 0), (.int .i64 0)] t14_2 t17 h fun t18_2 h => Q t18_2 h)) ∧ (mkSl (if 1 * 2 = 0 then [] else zeros [(.int .i64 0), (.int .i64 0)] 1) 1 [(0 * 2, 2, t12)] 27 h fun t13_3 h => mkSl (if 0 * 2 = 0 then [] else zeros [(.int .i64 0), (.int .i64 0)] 0) 0 [] 27 h fun t7_2 h => app 27 2 16 [(.int .i64 0), (.int .i64 0)] t7_2 t10 h fun t11_3 h => app 27 2 16 [(.int .i64 0), (.int .i64 0)] t11_3 t13_3 h fun t14_3 h => app 27 2 16 [(.int .i64 0), (.int .i64 0)] t14_3 t17 h fun t18_3 h => Q t18_3 h)
theorem s_inserted_I.body (a0 a1 a2 : Value) (h : Heap) (Q : Value → Heap → Prop) (H : s_inserted_I.sh a0 a1 a2 h Q) : s_inserted_I.call #[a0, a1, a2] h Q := by
  refine callsH_of (args := [a0, a1, a2]) Try.func136 rfl rfl ?_; unfold s_inserted_I.sh at H; refine WPc_seq' ?_; refine W_region (by kernel_rfl) ?_; refine vl_n ?_; refine H_box H fun t5 h H => ?_; refine vl_n ?_; refine H_of_R (R_assign (v := (.slice none 0 0)) rfl ?_)
  refine vl_e ?_; refine WPc_seq' ?_; refine W_drawn [0, 0, 0, 6, 15, 0, 32, 127, 0, 0, 768, 2047, 4095] (.take 1 (.take 2 (.take 3 (.take 5 (.take 8 (.take 9 (.take 10 (.alt 0 (.alt 4 (.alt 6 (.alt 7 (.alt 11 (.take 12 .done) .none) .none) .none) (.alt 6 (.alt 4 (.alt 7 (.alt 11 (.take 12 .done) .none) .none) .none) .none)) (.alt 6 (.alt 0 (.alt 4 (.alt 7 (.alt 11 (.take 12 .done) .none) .none) .none) .none) .none))))))))) mixed (by kernel_rfl) ?_; refine tkP rfl ?_; refine R_move (v := a0) rfl ⟨fun _ => trivial, ?_⟩
  refine tkP rfl ?_; refine R_move (v := a1) rfl ⟨fun _ => trivial, ?_⟩
  refine tkP rfl ?_; refine R_slice TE_25 (by decide) H fun t10 H => ⟨fun _ => trivial, ?_⟩
  refine tkL rfl ?_; refine R_loadN TN_27 H fun at12 xt12 hat12 _ H St12 hSt12 => ?_; refine tkP rfl ?_; refine R_move (v := a0) rfl ⟨fun _ => trivial, ?_⟩
  refine tkP rfl ?_; refine R_move (v := a1) rfl ⟨fun _ => trivial, ?_⟩
  refine tkP rfl ?_; refine R_slice TE_25 (by decide) H fun t17 H => ⟨fun _ => trivial, ?_⟩
  obtain ⟨HA0, HA1⟩ := H; refine alt_n rfl ?_ ?_
  · have H := HA0; clear HA0 HA1
    refine H_mkSl TZ_25 (by decide) rfl H rfl fun t7 h ⟨S, H⟩ => ⟨(hcons rfl (hSt12 _ (still_N S hat12 rfl)) hnil), ?_⟩
    obtain ⟨HA0, HA1⟩ := H; refine alt_n rfl ?_ ?_
    · have H := HA0; clear HA0 HA1
      refine H_app TZ_25 TU_25 H fun t11 h ⟨S_2, H⟩ => ⟨(hcons rfl (hSt12 _ (still_N S_2 hat12 rfl)) hnil), ?_⟩
      refine alt_n rfl ?_ vp_none
      refine H_mkSl TZ_25 (by decide) rfl H rfl fun t13 h H => ⟨(hskip rfl hnil), ?_⟩
      refine alt_n rfl ?_ vp_none
      refine H_app TZ_25 TU_25 H fun t14 h H => ⟨hnil, ?_⟩
      refine alt_n rfl ?_ vp_none
      refine H_app TZ_25 TU_25 H fun t18 h H => ⟨hnil, ?_⟩
      refine tkP rfl ?_; refine R_assign (v := t18) rfl ⟨fun _ => trivial, ?_⟩
      refine vp_done ?_; refine WPc_ret ?_; refine resH_of rfl ?_; exact H
    refine alt_n rfl ?_ vp_none
    have H := HA1; clear HA0 HA1
    refine H_mkSl TZ_25 (by decide) rfl H rfl fun t13_2 h H => ⟨(hskip rfl hnil), ?_⟩
    refine alt_n rfl ?_ vp_none
    refine H_app TZ_25 TU_25 H fun t11_2 h H => ⟨hnil, ?_⟩
    refine alt_n rfl ?_ vp_none
    refine H_app TZ_25 TU_25 H fun t14_2 h H => ⟨hnil, ?_⟩
    refine alt_n rfl ?_ vp_none
    refine H_app TZ_25 TU_25 H fun t18_2 h H => ⟨hnil, ?_⟩
    refine tkP rfl ?_; refine R_assign (v := t18_2) rfl ⟨fun _ => trivial, ?_⟩
    refine vp_done ?_; refine WPc_ret ?_; refine resH_of rfl ?_; exact H
  refine alt_n rfl ?_ vp_none
  have H := HA1; clear HA0 HA1
  refine H_mkSl TZ_25 (by decide) rfl H rfl fun t13_3 h H => ⟨(hskip rfl hnil), ?_⟩
  refine alt_n rfl ?_ vp_none
  refine H_mkSl TZ_25 (by decide) rfl H rfl fun t7_2 h H => ⟨hnil, ?_⟩
  refine alt_n rfl ?_ vp_none
  refine H_app TZ_25 TU_25 H fun t11_3 h H => ⟨hnil, ?_⟩
  refine alt_n rfl ?_ vp_none
  refine H_app TZ_25 TU_25 H fun t14_3 h H => ⟨hnil, ?_⟩
  refine alt_n rfl ?_ vp_none
  refine H_app TZ_25 TU_25 H fun t18_3 h H => ⟨hnil, ?_⟩
  refine tkP rfl ?_; refine R_assign (v := t18_3) rfl ⟨fun _ => trivial, ?_⟩
  refine vp_done ?_; refine WPc_ret ?_; refine resH_of rfl ?_; exact H
/-! ### spec.inserted[impl.Node] -/
def s_inserted_implNode.sh (a0 a1 a2 : Value) (h : Heap) (Q : Value → Heap → Prop) : Prop := box 37 a2 h fun t5 h => slc 3 a0 none (some a1) none fun t10 => loadN 3 t5 h fun t12 => slc 3 a0 (some a1) none none fun t17 => (mkSl (if 0 * 3 = 0 then [] else zeros [(.slice none 0 0), (.slice none 0 0), (.int .i64 0)] 0) 0 [] 37 h fun t7 h => stillN 3 t5 t12 h ∧ (app 37 3 56 [(.slice none 0 0), (.slice none 0 0), (.int .i64 0)] t7 t10 h fun t11 h => stillN 3 t5 t12 h ∧ mkSl (if 1 * 3 = 0 then [] else zeros [(.slice none 0 0), (.slice none 0 0), (.int .i64 0)] 1) 1 [(0 * 3, 3, t12)] 37 h fun t13 h => app 37 3 56 [(.slice none 0 0), (.slice none 0 0), (.int .i64 0)] t11 t13 h fun t14 h => app 37 3 56 [(.slice none 0 0), (.slice none 0 0), (.int .i64 0)] t14 t17 h fun t18 h => Q t18 h) ∧ (mkSl (if 1 * 3 = 0 then [] else zeros [(.slice none 0 0), (.slice none 0 0), (.int .i64 0)] 1) 1 [(0 * 3, 3, t12)] 37 h fun t13_2 h => app 37 3 56 [(.slice none 0 0), (.slice none 0 0), (.int .i64 0)] t7 t10 h fun t11_2 h => app 37 3 56 [(.slice none 0 0), (.slice none 0 0), (.int .i64 0)] t11_2 t13_2 h fun t14_2 h => app 37 3 56 [(.slice none 0 0), (.slice none 0 0), (.int .i64 0)] t14_2 t17 h fun t18_2 h => Q t18_2 h)) ∧ (mkSl (if 1 * 3 = 0 then [] else zeros [(.slice none 0 0), (.slice none 0 0), (.int .i64 0)] 1) 1 [(0 * 3, 3, t12)] 37 h fun t13_3 h => mkSl (if 0 * 3 = 0 then [] else zeros [(.slice none 0 0), (.slice none 0 0), (.int .i64 0)] 0) 0 [] 37 h fun t7_2 h => app 37 3 56 [(.slice none 0 0), (.slice none 0 0), (.int .i64 0)] t7_2 t10 h fun t11_3 h => app 37 3 56 [(.slice none 0 0), (.slice none 0 0), (.int .i64 0)] t11_3 t13_3 h fun t14_3 h => app 37 3 56 [(.slice none 0 0), (.slice none 0 0), (.int .i64 0)] t14_3 t17 h fun t18_3 h => Q t18_3 h)
theorem s_inserted_implNode.body (a0 a1 a2 : Value) (h : Heap) (Q : Value → Heap → Prop) (H : s_inserted_implNode.sh a0 a1 a2 h Q) : s_inserted_implNode.call #[a0, a1, a2] h Q := by
  refine callsH_of (args := [a0, a1, a2]) Try.func137 rfl rfl ?_; unfold s_inserted_implNode.sh at H; refine WPc_seq' ?_; refine W_region (by kernel_rfl) ?_; refine vl_n ?_; refine H_box H fun t5 h H => ?_; refine vl_n ?_; refine H_of_R (R_assign (v := (.slice none 0 0)) rfl ?_)
  refine vl_e ?_; refine WPc_seq' ?_; refine W_drawn [0, 0, 0, 6, 15, 0, 32, 127, 0, 0, 768, 2047, 4095] (.take 1 (.take 2 (.take 3 (.take 5 (.take 8 (.take 9 (.take 10 (.alt 0 (.alt 4 (.alt 6 (.alt 7 (.alt 11 (.take 12 .done) .none) .none) .none) (.alt 6 (.alt 4 (.alt 7 (.alt 11 (.take 12 .done) .none) .none) .none) .none)) (.alt 6 (.alt 0 (.alt 4 (.alt 7 (.alt 11 (.take 12 .done) .none) .none) .none) .none) .none))))))))) mixed (by kernel_rfl) ?_; refine tkP rfl ?_; refine R_move (v := a0) rfl ⟨fun _ => trivial, ?_⟩
  refine tkP rfl ?_; refine R_move (v := a1) rfl ⟨fun _ => trivial, ?_⟩
  refine tkP rfl ?_; refine R_slice TE_35 (by decide) H fun t10 H => ⟨fun _ => trivial, ?_⟩
  refine tkL rfl ?_; refine R_loadN TN_37 H fun at12 xt12 hat12 _ H St12 hSt12 => ?_; refine tkP rfl ?_; refine R_move (v := a0) rfl ⟨fun _ => trivial, ?_⟩
  refine tkP rfl ?_; refine R_move (v := a1) rfl ⟨fun _ => trivial, ?_⟩
  refine tkP rfl ?_; refine R_slice TE_35 (by decide) H fun t17 H => ⟨fun _ => trivial, ?_⟩
  obtain ⟨HA0, HA1⟩ := H; refine alt_n rfl ?_ ?_
  · have H := HA0; clear HA0 HA1
    refine H_mkSl TZ_35 (by decide) rfl H rfl fun t7 h ⟨S, H⟩ => ⟨(hcons rfl (hSt12 _ (still_N S hat12 rfl)) hnil), ?_⟩
    obtain ⟨HA0, HA1⟩ := H; refine alt_n rfl ?_ ?_
    · have H := HA0; clear HA0 HA1
      refine H_app TZ_35 TU_35 H fun t11 h ⟨S_2, H⟩ => ⟨(hcons rfl (hSt12 _ (still_N S_2 hat12 rfl)) hnil), ?_⟩
      refine alt_n rfl ?_ vp_none
      refine H_mkSl TZ_35 (by decide) rfl H rfl fun t13 h H => ⟨(hskip rfl hnil), ?_⟩
      refine alt_n rfl ?_ vp_none
      refine H_app TZ_35 TU_35 H fun t14 h H => ⟨hnil, ?_⟩
      refine alt_n rfl ?_ vp_none
      refine H_app TZ_35 TU_35 H fun t18 h H => ⟨hnil, ?_⟩
      refine tkP rfl ?_; refine R_assign (v := t18) rfl ⟨fun _ => trivial, ?_⟩
      refine vp_done ?_; refine WPc_ret ?_; refine resH_of rfl ?_; exact H
    refine alt_n rfl ?_ vp_none
    have H := HA1; clear HA0 HA1
    refine H_mkSl TZ_35 (by decide) rfl H rfl fun t13_2 h H => ⟨(hskip rfl hnil), ?_⟩
    refine alt_n rfl ?_ vp_none
    refine H_app TZ_35 TU_35 H fun t11_2 h H => ⟨hnil, ?_⟩
    refine alt_n rfl ?_ vp_none
    refine H_app TZ_35 TU_35 H fun t14_2 h H => ⟨hnil, ?_⟩
    refine alt_n rfl ?_ vp_none
    refine H_app TZ_35 TU_35 H fun t18_2 h H => ⟨hnil, ?_⟩
    refine tkP rfl ?_; refine R_assign (v := t18_2) rfl ⟨fun _ => trivial, ?_⟩
    refine vp_done ?_; refine WPc_ret ?_; refine resH_of rfl ?_; exact H
  refine alt_n rfl ?_ vp_none
  have H := HA1; clear HA0 HA1
  refine H_mkSl TZ_35 (by decide) rfl H rfl fun t13_3 h H => ⟨(hskip rfl hnil), ?_⟩
  refine alt_n rfl ?_ vp_none
  refine H_mkSl TZ_35 (by decide) rfl H rfl fun t7_2 h H => ⟨hnil, ?_⟩
  refine alt_n rfl ?_ vp_none
  refine H_app TZ_35 TU_35 H fun t11_3 h H => ⟨hnil, ?_⟩
  refine alt_n rfl ?_ vp_none
  refine H_app TZ_35 TU_35 H fun t14_3 h H => ⟨hnil, ?_⟩
  refine alt_n rfl ?_ vp_none
  refine H_app TZ_35 TU_35 H fun t18_3 h H => ⟨hnil, ?_⟩
  refine tkP rfl ?_; refine R_assign (v := t18_3) rfl ⟨fun _ => trivial, ?_⟩
  refine vp_done ?_; refine WPc_ret ?_; refine resH_of rfl ?_; exact H
end Go.Proofs.Ytljecmjdmdjldaa
end
