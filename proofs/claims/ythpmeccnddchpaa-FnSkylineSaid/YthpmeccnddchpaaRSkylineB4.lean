/-
  Texts of this claim, laid together: S17 S18 S7 S13 S14 Kz G0 Ga Gb Gc Gd Ge Gq.
  Conditions: as each of them tells.
-/
import Derived.Test.YthpmeccnddchpaaRSkylineB3
set_option linter.unusedVariables false
set_option linter.unusedSimpArgs false
open List (set_cons_zero set_cons_succ eraseIdx_cons_zero eraseIdx_cons_succ cons_append nil_append map_append map_cons map_flatMap map_nil flatMap_cons flatMap_append flatMap_nil append_nil append_assoc length_cons length_nil length_append take_succ_cons drop_succ_cons take_zero drop_zero take_nil drop_nil size_toArray length_map)
section
namespace Go.Proofs.Ythpmeccnddchpaa
open Go.Hp
set_option maxRecDepth 100000
set_option maxHeartbeats 8000000
/-! ### (*pub/tidwallbtree.BTreeG[impl.Item]).PopMax -/
def BTreeG_I_PopMax.j4 (s0 s2 s5 : Value) (h : Heap) (Q : Value → Heap → Prop) : Prop := loadN 2 s5 h fun t146 => BTreeG_I_deleteHint.call #[s0, t146, (.pointer none)] h fun t147 h => extr 0 t147 fun t148 => extr 1 t147 fun t149 => storeN 2 s2 t148 h fun h => loadN 2 s2 h fun r2 => Q (.tuple #[r2, t149]) h
def BTreeG_I_PopMax.j6 (s0 s2 s4 s5 : Value) (h : Heap) (K1 : List Value → Heap → Prop) (Q : Value → Heap → Prop) : Prop := nilck s4 fun t130 => fld 3 t130 fun t131 => load1 t131 h fun t132 => nilck t132 fun t133 => load1 t133 h fun t134 => nilck s4 fun t136 => fld 3 t136 fun t137 => load1 t137 h fun t138 => nilck t138 fun t139 => load1 t139 h fun t140 => lenV t140 fun t141 => arith (· - ·) t141 (.int .i64 1) fun t142 => idx 1 t134 t142 fun t143 => load1 t143 h fun t144 => K1 [t144] h
def BTreeG_I_PopMax.l5.b (c0 c2 c5 s4 : Value) (h : Heap) (K1 : List Value → Heap → Prop) (Q : Value → Heap → Prop) : Prop := nilck s4 fun t121 => fld 1 t121 fun t122 => load1 t122 h fun t123 => arith (· + ·) t123 (.int .i64 1) fun t124 => nilck s4 fun t125 => fld 1 t125 fun t126 => store1 t126 t124 h fun h => node_I_leaf.call #[s4] h fun t128 h => ifV t128 (BTreeG_I_PopMax.j4 c0 c2 c5 h Q) (BTreeG_I_PopMax.j6 c0 c2 s4 c5 h K1 Q)
def BTreeG_I_PopMax.j3 (s0 s2 s5 : Value) (h : Heap) (Q : Value → Heap → Prop) : Prop := nilck s0 fun t117 => fld 2 t117 fun t118 => load1 t118 h fun t119 => loopC (fun c s h K1 => BTreeG_I_PopMax.l5.b (c.getD 0 undef) (c.getD 1 undef) (c.getD 2 undef) (s.getD 0 undef) h K1 Q) [s0, s2, s5] [t119] h
def BTreeG_I_PopMax.j8 (s0 s2 s4 s5 : Value) (h : Heap) (K1 : List Value → Heap → Prop) (Q : Value → Heap → Prop) : Prop := nilck s4 fun t101 => fld 3 t101 fun t102 => load1 t102 h fun t103 => nilck t103 fun t104 => load1 t104 h fun t105 => nilck s4 fun t107 => fld 3 t107 fun t108 => load1 t108 h fun t109 => nilck t109 fun t110 => load1 t110 h fun t111 => lenV t111 fun t112 => arith (· - ·) t112 (.int .i64 1) fun t113 => idx 1 t105 t113 fun t114 => BTreeG_I_isoLoad.call #[s0, t114, (.bool true)] h fun t115 h => K1 [t115] h
def BTreeG_I_PopMax.j10 (s2 s5 : Value) (h : Heap) (K1 : List Value → Heap → Prop) (Q : Value → Heap → Prop) : Prop := loadN 2 s5 h fun t98 => storeN 2 s2 t98 h fun h => loadN 2 s2 h fun r2 => Q (.tuple #[r2, (.bool true)]) h
def BTreeG_I_PopMax.j9 (s0 s2 s4 s5 : Value) (h : Heap) (K1 : List Value → Heap → Prop) (Q : Value → Heap → Prop) : Prop := nilck s4 fun t55 => fld 2 t55 fun t56 => load1 t56 h fun t57 => nilck s4 fun t59 => fld 2 t59 fun t60 => load1 t60 h fun t61 => lenV t61 fun t62 => arith (· - ·) t62 (.int .i64 1) fun t63 => nilck s0 fun t65 => fld 7 t65 fun t66 => loadN 2 t66 h fun t67 => idx 2 t57 t63 fun t68 => storeN 2 t68 t67 h fun h => nilck s4 fun t71 => fld 2 t71 fun t72 => load1 t72 h fun t73 => nilck s4 fun t75 => fld 2 t75 fun t76 => load1 t76 h fun t77 => lenV t77 fun t78 => arith (· - ·) t78 (.int .i64 1) fun t79 => slc 2 t73 none (some t79) none fun t80 => nilck s4 fun t81 => fld 2 t81 fun t82 => store1 t82 t80 h fun h => nilck s0 fun t84 => fld 3 t84 fun t85 => load1 t85 h fun t86 => arith (· - ·) t86 (.int .i64 1) fun t87 => nilck s0 fun t88 => fld 3 t88 fun t89 => store1 t89 t87 h fun h => nilck s0 fun t91 => fld 3 t91 fun t92 => load1 t92 h fun t93 => cmpI (fun a b => a == b) t93 (.int .i64 0) fun t94 => ifV t94 (nilck s0 fun t96 => fld 2 t96 fun t97 => store1 t97 (.pointer none) h fun h => BTreeG_I_PopMax.j10 s2 s5 h K1 Q) (BTreeG_I_PopMax.j10 s2 s5 h K1 Q)
def BTreeG_I_PopMax.l7.b (c0 c2 c5 s4 : Value) (h : Heap) (K1 : List Value → Heap → Prop) (Q : Value → Heap → Prop) : Prop := nilck s4 fun t24 => fld 1 t24 fun t25 => load1 t25 h fun t26 => arith (· - ·) t26 (.int .i64 1) fun t27 => nilck s4 fun t28 => fld 1 t28 fun t29 => store1 t29 t27 h fun h => node_I_leaf.call #[s4] h fun t31 h => ifV t31 (nilck s4 fun t33 => fld 2 t33 fun t34 => load1 t34 h fun t35 => nilck s4 fun t37 => fld 2 t37 fun t38 => load1 t38 h fun t39 => lenV t39 fun t40 => arith (· - ·) t40 (.int .i64 1) fun t41 => idx 2 t35 t41 fun t42 => loadN 2 t42 h fun t43 => storeN 2 c5 t43 h fun h => nilck s4 fun t45 => fld 2 t45 fun t46 => load1 t46 h fun t47 => lenV t47 fun t48 => nilck c0 fun t50 => fld 10 t50 fun t51 => load1 t51 h fun t52 => cmpI (fun a b => a == b) t48 t52 fun t53 => ifV t53 (BTreeG_I_PopMax.j3 c0 c2 c5 h Q) (BTreeG_I_PopMax.j9 c0 c2 s4 c5 h K1 Q)) (BTreeG_I_PopMax.j8 c0 c2 s4 c5 h K1 Q)
def BTreeG_I_PopMax.j2 (s0 s2 : Value) (h : Heap) (Q : Value → Heap → Prop) : Prop := nilck s0 fun t20 => fld 2 t20 fun t21 => BTreeG_I_isoLoad.call #[s0, t21, (.bool true)] h fun t22 h => alloc [(.int .i64 0), (.int .i64 0)] 30 h fun t5 h => loopC (fun c s h K1 => BTreeG_I_PopMax.l7.b (c.getD 0 undef) (c.getD 1 undef) (c.getD 2 undef) (s.getD 0 undef) h K1 Q) [s0, s2, t5] [t22] h
def BTreeG_I_PopMax.j1 (s0 s2 : Value) (h : Heap) (Q : Value → Heap → Prop) : Prop := nilck s0 fun t10 => fld 2 t10 fun t11 => load1 t11 h fun t12 => eqNilP t12 fun t13 => ifV t13 (nilck s0 fun t15 => fld 7 t15 fun t16 => loadN 2 t16 h fun t17 => storeN 2 s2 t17 h fun h => loadN 2 s2 h fun r2 => Q (.tuple #[r2, (.bool false)]) h) (BTreeG_I_PopMax.j2 s0 s2 h Q)
def BTreeG_I_PopMax.sh (a0 : Value) (h : Heap) (Q : Value → Heap → Prop) : Prop := alloc [(.int .i64 0), (.int .i64 0)] 30 h fun t2 h => BTreeG_I_lock.call #[a0, (.bool true)] h fun t7 h => ifV t7 (False) (BTreeG_I_PopMax.j1 a0 t2 h Q)
theorem BTreeG_I_PopMax.body (a0 : Value) (h : Heap) (Q : Value → Heap → Prop) (H : BTreeG_I_PopMax.sh a0 h Q) : BTreeG_I_PopMax.call #[a0] h Q := by
  refine callsH_of (args := [a0]) Try.func62 rfl rfl ?_; unfold BTreeG_I_PopMax.sh at H; refine WPc_seq' ?_; refine W_region (by kernel_rfl) ?_; refine vl_n ?_; refine H_alloc TV_30 H fun t2 h H => ?_; refine vl_n ?_; refine H_of_R (R_assign (v := (.bool false)) rfl ?_)
  refine vl_e ?_; refine WPc_seq (fun e h => BTreeG_I_PopMax.j1 (e 0) (e 2) h Q) ?_ (fun e h H => ?_)
  rotate_left
  · unfold BTreeG_I_PopMax.j1 at H
    refine WPc_seq (fun e h => BTreeG_I_PopMax.j2 (e 0) (e 2) h Q) ?_ (fun e h H => ?_)
    rotate_left
    · unfold BTreeG_I_PopMax.j2 at H
      refine WPc_seq' ?_; refine W_region (by kernel_rfl) ?_; refine vl_n ?_; refine H_of_R (R_move (v := (e 0)) rfl ?_)
      refine vl_n ?_; refine H_of_R (R_move (v := (e 0)) rfl ?_)
      refine vl_n ?_; refine H_of_R (R_nil H fun t20 H => ?_)
      refine vl_n ?_; refine H_of_R (R_fld TF_117_2 H fun t21 H => ?_)
      refine vl_n ?_; refine H_call HB_77 H fun t22 h H => ?_; refine vl_n ?_; refine H_of_R (R_assign (v := t22) rfl ?_)
      refine vl_e ?_; refine WPc_seq' ?_; refine W_region (by kernel_rfl) ?_; refine vl_n ?_; refine H_alloc TV_30 H fun t5 h H => ?_; refine vl_e ?_; refine WPc_seq (fun e h => BTreeG_I_PopMax.j3 (e 0) (e 2) (e 5) h Q) ?_ (fun e h H => ?_)
      rotate_left
      · unfold BTreeG_I_PopMax.j3 at H
        refine WPc_seq' ?_; refine W_region (by kernel_rfl) ?_; refine vl_n ?_; refine H_of_R (R_move (v := (e 0)) rfl ?_)
        refine vl_n ?_; refine H_of_R (R_nil H fun t117 H => ?_)
        refine vl_n ?_; refine H_of_R (R_fld TF_117_2 H fun t118 H => ?_)
        refine vl_n ?_; refine H_of_R (R_load1 T1_115 H fun _ t119 _ _ H => ?_)
        refine vl_n ?_; refine H_of_R (R_assign (v := t119) rfl ?_)
        refine vl_e ?_; refine WPc_seq (fun e h => BTreeG_I_PopMax.j4 (e 0) (e 2) (e 5) h Q) ?_ (fun e h H => ?_)
        rotate_left
        · unfold BTreeG_I_PopMax.j4 at H
          refine WPc_seq' ?_; refine W_region (by kernel_rfl) ?_; refine vl_n ?_; refine H_of_R (R_move (v := (e 0)) rfl ?_)
          refine vl_n ?_; refine H_of_R (R_loadN TN_30 H fun _ t146 _ _ H _ _ => ?_)
          refine vl_n ?_; refine H_call HB_79 H fun t147 h H => ?_; refine vl_n ?_; refine H_of_R (R_ext H fun t148 H => ?_)
          refine vl_n ?_; refine H_of_R (R_ext H fun t149 H => ?_)
          refine vl_n ?_; refine H_storeN TS_30 H fun h H => ?_; refine vl_n ?_; refine H_of_R (R_assign (v := t149) rfl ?_)
          refine vl_e ?_; refine WPc_ret ?_; refine resH_of rfl ?_; refine resL_N TN_30 ?_; refine loadN_imp H fun r2 H => ?_; refine resL_t ?_; exact H
        refine WPc_block ?_; refine loop_at (fun e => [e 4]) (fun e => [e 0, e 2, e 5]) H rfl rfl ?_; intro K1 e1 h H hin1
        replace H : BTreeG_I_PopMax.l5.b (e1 0) (e1 2) (e1 5) (e1 4) h K1 Q := H
        unfold BTreeG_I_PopMax.l5.b at H; clear hin1; refine WPc_block ?_; refine WPc_seq' ?_; refine W_region (by kernel_rfl) ?_; refine vl_n ?_; refine H_of_R (R_move (v := (e1 4)) rfl ?_)
        refine vl_n ?_; refine H_of_R (R_nil H fun t121 H => ?_)
        refine vl_n ?_; refine H_of_R (R_fld TF_129_1 H fun t122 H => ?_)
        refine vl_n ?_; refine H_of_R (R_load1 T1_3 H fun _ t123 _ _ H => ?_)
        refine vl_n ?_; refine H_of_R (R_add H fun t124 H => ?_)
        refine vl_n ?_; refine H_of_R (R_nil H fun t125 H => ?_)
        refine vl_n ?_; refine H_of_R (R_fld TF_129_1 H fun t126 H => ?_)
        refine vl_n ?_; refine H_store1 TS_3 H fun h H => ?_; refine vl_e ?_; refine WPc_seq (fun e h => BTreeG_I_PopMax.j6 (e 0) (e 2) (e 4) (e 5) h K1 Q ∧ [e1 0, e1 2, e1 5] = [e 0, e 2, e 5]) ?_ (fun e h ⟨H, hq1⟩ => ?_)
        rotate_left
        · unfold BTreeG_I_PopMax.j6 at H
          refine W_drawn [0, 1, 3, 7, 15, 31, 0, 64, 192, 448, 960, 1984, 4032, 8128, 16383, 32767, 65535] (.take 0 (.take 1 (.take 2 (.take 3 (.take 4 (.take 5 (.take 6 (.take 7 (.take 8 (.take 9 (.take 10 (.take 11 (.take 12 (.take 13 (.take 14 (.take 15 (.take 16 .done))))))))))))))))) mixed (by kernel_rfl) ?_; refine tkP rfl ?_; refine R_move (v := (e 4)) rfl ⟨fun _ => trivial, ?_⟩
          refine tkP rfl ?_; refine R_nil H fun t130 H => ⟨fun _ => trivial, ?_⟩
          refine tkP rfl ?_; refine R_fld TF_129_3 H fun t131 H => ⟨fun _ => trivial, ?_⟩
          refine tkL rfl ?_; refine R_load1 T1_127 H fun at132 t132 hat132 _ H => ?_; refine tkP rfl ?_; refine R_nil H fun t133 H => ⟨fun _ => trivial, ?_⟩
          refine tkL rfl ?_; refine R_load1 T1_130 H fun at134 t134 hat134 _ H => ?_; refine tkP rfl ?_; refine R_move (v := (e 4)) rfl ⟨fun _ => trivial, ?_⟩
          refine tkP rfl ?_; refine R_nil H fun t136 H => ⟨fun _ => trivial, ?_⟩
          refine tkP rfl ?_; refine R_fld TF_129_3 H fun t137 H => ⟨fun _ => trivial, ?_⟩
          refine tkL rfl ?_; refine R_load1 T1_127 H fun at138 t138 hat138 _ H => ?_; refine tkP rfl ?_; refine R_nil H fun t139 H => ⟨fun _ => trivial, ?_⟩
          refine tkL rfl ?_; refine R_load1 T1_130 H fun at140 t140 hat140 _ H => ?_; refine tkP rfl ?_; refine R_len Try.underlying130 H fun t141 H => ⟨fun _ => trivial, ?_⟩
          refine tkP rfl ?_; refine R_sub H fun t142 H => ⟨fun _ => trivial, ?_⟩
          refine tkP rfl ?_; refine R_idx TE_130 H fun t143 H => ⟨fun _ => trivial, ?_⟩
          refine tkL rfl ?_; refine R_load1 T1_115 H fun at144 t144 hat144 _ H => ?_; refine tkP rfl ?_; refine R_assign (v := t144) rfl ⟨fun _ => trivial, ?_⟩
          refine vp_done ?_; exact ⟨H, hq1⟩
        refine WPc_seq' ?_; refine W_region (by kernel_rfl) ?_; refine vl_n ?_; refine H_of_R (R_move (v := (e1 4)) rfl ?_)
        refine vl_n ?_; refine H_call HB_78 H fun t128 h H => ?_; refine vl_e ?_; obtain ⟨b, hc, H1, H2⟩ := H; refine WPc_cond hc (fun hh => ?_) (fun hh => ?_)
        · have H := H1 hh; clear H1 H2
          refine WPc_exit ?_; exact H
        · have H := H2 hh; clear H1 H2
          refine WPc_skip ?_; exact ⟨H, rfl⟩
      refine WPc_block ?_; refine loop_at (fun e => [e 4]) (fun e => [e 0, e 2, e 5]) H rfl rfl ?_; intro K1 e1 h H hin1
      replace H : BTreeG_I_PopMax.l7.b (e1 0) (e1 2) (e1 5) (e1 4) h K1 Q := H
      unfold BTreeG_I_PopMax.l7.b at H; clear hin1; refine WPc_block ?_; refine WPc_seq' ?_; refine W_region (by kernel_rfl) ?_; refine vl_n ?_; refine H_of_R (R_move (v := (e1 4)) rfl ?_)
      refine vl_n ?_; refine H_of_R (R_nil H fun t24 H => ?_)
      refine vl_n ?_; refine H_of_R (R_fld TF_129_1 H fun t25 H => ?_)
      refine vl_n ?_; refine H_of_R (R_load1 T1_3 H fun _ t26 _ _ H => ?_)
      refine vl_n ?_; refine H_of_R (R_sub H fun t27 H => ?_)
      refine vl_n ?_; refine H_of_R (R_nil H fun t28 H => ?_)
      refine vl_n ?_; refine H_of_R (R_fld TF_129_1 H fun t29 H => ?_)
      refine vl_n ?_; refine H_store1 TS_3 H fun h H => ?_; refine vl_e ?_; refine WPc_seq (fun e h => BTreeG_I_PopMax.j8 (e 0) (e 2) (e 4) (e 5) h K1 Q ∧ [e1 0, e1 2, e1 5] = [e 0, e 2, e 5]) ?_ (fun e h ⟨H, hq1⟩ => ?_)
      rotate_left
      · unfold BTreeG_I_PopMax.j8 at H
        refine W_drawn [0, 0, 2, 6, 14, 30, 62, 0, 128, 384, 896, 1920, 3968, 8064, 16256, 32766, 65535, 131071] (.take 0 (.take 1 (.take 2 (.take 3 (.take 4 (.take 5 (.take 6 (.take 7 (.take 8 (.take 9 (.take 10 (.take 11 (.take 12 (.take 13 (.take 14 (.take 15 (.alt 16 (.take 17 .done) .none))))))))))))))))) mixed (by kernel_rfl) ?_; refine tkP rfl ?_; refine R_move (v := (e 0)) rfl ⟨fun _ => trivial, ?_⟩
        refine tkP rfl ?_; refine R_move (v := (e 4)) rfl ⟨fun _ => trivial, ?_⟩
        refine tkP rfl ?_; refine R_nil H fun t101 H => ⟨fun _ => trivial, ?_⟩
        refine tkP rfl ?_; refine R_fld TF_129_3 H fun t102 H => ⟨fun _ => trivial, ?_⟩
        refine tkL rfl ?_; refine R_load1 T1_127 H fun at103 t103 hat103 _ H => ?_; refine tkP rfl ?_; refine R_nil H fun t104 H => ⟨fun _ => trivial, ?_⟩
        refine tkL rfl ?_; refine R_load1 T1_130 H fun at105 t105 hat105 _ H => ?_; refine tkP rfl ?_; refine R_move (v := (e 4)) rfl ⟨fun _ => trivial, ?_⟩
        refine tkP rfl ?_; refine R_nil H fun t107 H => ⟨fun _ => trivial, ?_⟩
        refine tkP rfl ?_; refine R_fld TF_129_3 H fun t108 H => ⟨fun _ => trivial, ?_⟩
        refine tkL rfl ?_; refine R_load1 T1_127 H fun at109 t109 hat109 _ H => ?_; refine tkP rfl ?_; refine R_nil H fun t110 H => ⟨fun _ => trivial, ?_⟩
        refine tkL rfl ?_; refine R_load1 T1_130 H fun at111 t111 hat111 _ H => ?_; refine tkP rfl ?_; refine R_len Try.underlying130 H fun t112 H => ⟨fun _ => trivial, ?_⟩
        refine tkP rfl ?_; refine R_sub H fun t113 H => ⟨fun _ => trivial, ?_⟩
        refine tkP rfl ?_; refine R_idx TE_130 H fun t114 H => ⟨fun _ => trivial, ?_⟩
        refine alt_n rfl ?_ vp_none
        refine H_call HB_77 H fun t115 h H => ⟨(hskip rfl (hskip rfl (hskip rfl (hskip rfl hnil)))), ?_⟩
        refine tkP rfl ?_; refine R_assign (v := t115) rfl ⟨fun _ => trivial, ?_⟩
        refine vp_done ?_; exact ⟨H, hq1⟩
      refine WPc_seq' ?_; refine W_region (by kernel_rfl) ?_; refine vl_n ?_; refine H_of_R (R_move (v := (e1 4)) rfl ?_)
      refine vl_n ?_; refine H_call HB_78 H fun t31 h H => ?_; refine vl_e ?_; obtain ⟨b, hc, H1, H2⟩ := H; refine WPc_cond hc (fun hh => ?_) (fun hh => ?_)
      · have H := H1 hh; clear H1 H2
        refine WPc_seq' ?_; refine W_drawn [0, 1, 3, 7, 0, 16, 48, 112, 240, 496, 1023, 2047, 4095] (.take 0 (.take 1 (.take 2 (.take 3 (.take 4 (.take 5 (.take 6 (.take 7 (.take 8 (.take 9 (.take 10 (.take 11 (.alt 12 .done .none))))))))))))) mixed (by kernel_rfl) ?_; refine tkP rfl ?_; refine R_move (v := (e1 4)) rfl ⟨fun _ => trivial, ?_⟩
        refine tkP rfl ?_; refine R_nil H fun t33 H => ⟨fun _ => trivial, ?_⟩
        refine tkP rfl ?_; refine R_fld TF_129_2 H fun t34 H => ⟨fun _ => trivial, ?_⟩
        refine tkL rfl ?_; refine R_load1 T1_25 H fun at35 t35 hat35 _ H => ?_; refine tkP rfl ?_; refine R_move (v := (e1 4)) rfl ⟨fun _ => trivial, ?_⟩
        refine tkP rfl ?_; refine R_nil H fun t37 H => ⟨fun _ => trivial, ?_⟩
        refine tkP rfl ?_; refine R_fld TF_129_2 H fun t38 H => ⟨fun _ => trivial, ?_⟩
        refine tkL rfl ?_; refine R_load1 T1_25 H fun at39 t39 hat39 _ H => ?_; refine tkP rfl ?_; refine R_len Try.underlying25 H fun t40 H => ⟨fun _ => trivial, ?_⟩
        refine tkP rfl ?_; refine R_sub H fun t41 H => ⟨fun _ => trivial, ?_⟩
        refine tkP rfl ?_; refine R_idx TE_25 H fun t42 H => ⟨fun _ => trivial, ?_⟩
        refine tkL rfl ?_; refine R_loadN TN_30 H fun at43 xt43 hat43 _ H St43 hSt43 => ?_; refine alt_n rfl ?_ vp_none
        refine H_storeN TS_30 H fun h H => ⟨(hskip rfl (hskip rfl (hskip rfl hnil))), ?_⟩
        refine vp_done ?_; refine WPc_seq (fun e h => BTreeG_I_PopMax.j9 (e 0) (e 2) (e 4) (e 5) h K1 Q ∧ [e1 0, e1 2, e1 5] = [e 0, e 2, e 5]) ?_ (fun e h ⟨H, hq1⟩ => ?_)
        rotate_left
        · unfold BTreeG_I_PopMax.j9 at H
          refine WPc_seq' ?_; refine W_drawn [0, 1, 3, 7, 0, 16, 48, 112, 240, 496, 0, 1024, 3072, 7168, 16383, 32767] (.take 0 (.take 1 (.take 2 (.take 3 (.take 4 (.take 5 (.take 6 (.take 7 (.take 8 (.take 9 (.take 10 (.take 11 (.take 12 (.take 13 (.take 14 (.alt 15 .done .none)))))))))))))))) mixed (by kernel_rfl) ?_; refine tkP rfl ?_; refine R_move (v := (e 4)) rfl ⟨fun _ => trivial, ?_⟩
          refine tkP rfl ?_; refine R_nil H fun t55 H => ⟨fun _ => trivial, ?_⟩
          refine tkP rfl ?_; refine R_fld TF_129_2 H fun t56 H => ⟨fun _ => trivial, ?_⟩
          refine tkL rfl ?_; refine R_load1 T1_25 H fun at57 t57 hat57 _ H => ?_; refine tkP rfl ?_; refine R_move (v := (e 4)) rfl ⟨fun _ => trivial, ?_⟩
          refine tkP rfl ?_; refine R_nil H fun t59 H => ⟨fun _ => trivial, ?_⟩
          refine tkP rfl ?_; refine R_fld TF_129_2 H fun t60 H => ⟨fun _ => trivial, ?_⟩
          refine tkL rfl ?_; refine R_load1 T1_25 H fun at61 t61 hat61 _ H => ?_; refine tkP rfl ?_; refine R_len Try.underlying25 H fun t62 H => ⟨fun _ => trivial, ?_⟩
          refine tkP rfl ?_; refine R_sub H fun t63 H => ⟨fun _ => trivial, ?_⟩
          refine tkP rfl ?_; refine R_move (v := (e 0)) rfl ⟨fun _ => trivial, ?_⟩
          refine tkP rfl ?_; refine R_nil H fun t65 H => ⟨fun _ => trivial, ?_⟩
          refine tkP rfl ?_; refine R_fld TF_117_7 H fun t66 H => ⟨fun _ => trivial, ?_⟩
          refine tkL rfl ?_; refine R_loadN TN_30 H fun at67 xt67 hat67 _ H St67 hSt67 => ?_; refine tkP rfl ?_; refine R_idx TE_25 H fun t68 H => ⟨fun _ => trivial, ?_⟩
          refine alt_n rfl ?_ vp_none
          refine H_storeN TS_30 H fun h H => ⟨(hskip rfl (hskip rfl (hskip rfl hnil))), ?_⟩
          refine vp_done ?_; refine WPc_seq' ?_; refine W_drawn [0, 0, 2, 6, 14, 0, 32, 96, 224, 480, 992, 2046, 4095, 8191, 16383] (.take 0 (.take 1 (.take 2 (.take 3 (.take 4 (.take 5 (.take 6 (.take 7 (.take 8 (.take 9 (.take 10 (.take 11 (.take 12 (.take 13 (.alt 14 .done .none))))))))))))))) mixed (by kernel_rfl) ?_; refine tkP rfl ?_; refine R_move (v := (e 4)) rfl ⟨fun _ => trivial, ?_⟩
          refine tkP rfl ?_; refine R_move (v := (e 4)) rfl ⟨fun _ => trivial, ?_⟩
          refine tkP rfl ?_; refine R_nil H fun t71 H => ⟨fun _ => trivial, ?_⟩
          refine tkP rfl ?_; refine R_fld TF_129_2 H fun t72 H => ⟨fun _ => trivial, ?_⟩
          refine tkL rfl ?_; refine R_load1 T1_25 H fun at73 t73 hat73 _ H => ?_; refine tkP rfl ?_; refine R_move (v := (e 4)) rfl ⟨fun _ => trivial, ?_⟩
          refine tkP rfl ?_; refine R_nil H fun t75 H => ⟨fun _ => trivial, ?_⟩
          refine tkP rfl ?_; refine R_fld TF_129_2 H fun t76 H => ⟨fun _ => trivial, ?_⟩
          refine tkL rfl ?_; refine R_load1 T1_25 H fun at77 t77 hat77 _ H => ?_; refine tkP rfl ?_; refine R_len Try.underlying25 H fun t78 H => ⟨fun _ => trivial, ?_⟩
          refine tkP rfl ?_; refine R_sub H fun t79 H => ⟨fun _ => trivial, ?_⟩
          refine tkP rfl ?_; refine R_slice TE_25 (by decide) H fun t80 H => ⟨fun _ => trivial, ?_⟩
          refine tkP rfl ?_; refine R_nil H fun t81 H => ⟨fun _ => trivial, ?_⟩
          refine tkP rfl ?_; refine R_fld TF_129_2 H fun t82 H => ⟨fun _ => trivial, ?_⟩
          refine alt_n rfl ?_ vp_none
          refine H_store1 TS_25 H fun h H => ⟨(hskip rfl (hskip rfl hnil)), ?_⟩
          refine vp_done ?_; refine WPc_seq' ?_; refine W_region (by kernel_rfl) ?_; refine vl_n ?_; refine H_of_R (R_move (v := (e 0)) rfl ?_)
          refine vl_n ?_; refine H_of_R (R_nil H fun t84 H => ?_)
          refine vl_n ?_; refine H_of_R (R_fld TF_117_3 H fun t85 H => ?_)
          refine vl_n ?_; refine H_of_R (R_load1 T1_3 H fun _ t86 _ _ H => ?_)
          refine vl_n ?_; refine H_of_R (R_sub H fun t87 H => ?_)
          refine vl_n ?_; refine H_of_R (R_nil H fun t88 H => ?_)
          refine vl_n ?_; refine H_of_R (R_fld TF_117_3 H fun t89 H => ?_)
          refine vl_n ?_; refine H_store1 TS_3 H fun h H => ?_; refine vl_e ?_; refine WPc_seq (fun e h => BTreeG_I_PopMax.j10 (e 2) (e 5) h K1 Q ∧ [e1 0, e1 2, e1 5] = [e 0, e 2, e 5]) ?_ (fun e h ⟨H, hq1⟩ => ?_)
          rotate_left
          · unfold BTreeG_I_PopMax.j10 at H
            refine WPc_seq' ?_; refine W_region (by kernel_rfl) ?_; refine vl_n ?_; refine H_of_R (R_loadN TN_30 H fun _ t98 _ _ H _ _ => ?_)
            refine vl_n ?_; refine H_storeN TS_30 H fun h H => ?_; refine vl_n ?_; refine H_of_R (R_assign (v := (.bool true)) rfl ?_)
            refine vl_e ?_; refine WPc_ret ?_; refine resH_of rfl ?_; refine resL_N TN_30 ?_; refine loadN_imp H fun r2 H => ?_; refine resL_t ?_; exact H
          refine WPc_seq' ?_; refine W_region (by kernel_rfl) ?_; refine vl_n ?_; refine H_of_R (R_move (v := (e 0)) rfl ?_)
          refine vl_n ?_; refine H_of_R (R_nil H fun t91 H => ?_)
          refine vl_n ?_; refine H_of_R (R_fld TF_117_3 H fun t92 H => ?_)
          refine vl_n ?_; refine H_of_R (R_load1 T1_3 H fun _ t93 _ _ H => ?_)
          refine vl_n ?_; refine H_of_R (R_eqI H fun t94 H => ?_)
          refine vl_e ?_; obtain ⟨b, hc, H1, H2⟩ := H; refine WPc_cond hc (fun hh => ?_) (fun hh => ?_)
          · have H := H1 hh; clear H1 H2
            refine W_region (by kernel_rfl) ?_; refine vl_n ?_; refine H_of_R (R_move (v := (e 0)) rfl ?_)
            refine vl_n ?_; refine H_of_R (R_nil H fun t96 H => ?_)
            refine vl_n ?_; refine H_of_R (R_fld TF_117_2 H fun t97 H => ?_)
            refine vl_n ?_; refine H_store1 TS_115 H fun h H => ?_; refine vl_e ?_; exact ⟨H, hq1⟩
          · have H := H2 hh; clear H1 H2
            refine WPc_skip ?_; exact ⟨H, hq1⟩
        refine WPc_seq' ?_; refine W_drawn [0, 1, 3, 7, 15, 0, 32, 96, 224, 511] (.take 0 (.take 1 (.take 2 (.take 3 (.take 4 (.take 5 (.take 6 (.take 7 (.take 8 (.take 9 .done)))))))))) mixed (by kernel_rfl) ?_; refine tkP rfl ?_; refine R_move (v := (e1 4)) rfl ⟨fun _ => trivial, ?_⟩
        refine tkP rfl ?_; refine R_nil H fun t45 H => ⟨fun _ => trivial, ?_⟩
        refine tkP rfl ?_; refine R_fld TF_129_2 H fun t46 H => ⟨fun _ => trivial, ?_⟩
        refine tkL rfl ?_; refine R_load1 T1_25 H fun at47 t47 hat47 _ H => ?_; refine tkP rfl ?_; refine R_len Try.underlying25 H fun t48 H => ⟨fun _ => trivial, ?_⟩
        refine tkP rfl ?_; refine R_move (v := (e1 0)) rfl ⟨fun _ => trivial, ?_⟩
        refine tkP rfl ?_; refine R_nil H fun t50 H => ⟨fun _ => trivial, ?_⟩
        refine tkP rfl ?_; refine R_fld TF_117_9 H fun t51 H => ⟨fun _ => trivial, ?_⟩
        refine tkL rfl ?_; refine R_load1 T1_3 H fun at52 t52 hat52 _ H => ?_; refine tkP rfl ?_; refine R_eqI H fun t53 H => ⟨fun _ => trivial, ?_⟩
        refine vp_done ?_; obtain ⟨b_2, hc_2, H1, H2⟩ := H; refine WPc_cond hc_2 (fun hh => ?_) (fun hh => ?_)
        · have H := H1 hh; clear H1 H2
          refine WPc_exit ?_; exact H
        · have H := H2 hh; clear H1 H2
          refine WPc_skip ?_; exact ⟨H, rfl⟩
      · have H := H2 hh; clear H1 H2
        refine WPc_skip ?_; exact ⟨H, rfl⟩
    refine WPc_seq' ?_; refine W_region (by kernel_rfl) ?_; refine vl_n ?_; refine H_of_R (R_move (v := (e 0)) rfl ?_)
    refine vl_n ?_; refine H_of_R (R_nil H fun t10 H => ?_)
    refine vl_n ?_; refine H_of_R (R_fld TF_117_2 H fun t11 H => ?_)
    refine vl_n ?_; refine H_of_R (R_load1 T1_115 H fun _ t12 _ _ H => ?_)
    refine vl_n ?_; refine H_of_R (R_eqNilP Try.underlying115 rfl H fun t13 H => ?_)
    refine vl_e ?_; obtain ⟨b, hc, H1, H2⟩ := H; refine WPc_cond hc (fun hh => ?_) (fun hh => ?_)
    · have H := H1 hh; clear H1 H2
      refine WPc_seq' ?_; refine W_region (by kernel_rfl) ?_; refine vl_n ?_; refine H_of_R (R_move (v := (e 0)) rfl ?_)
      refine vl_n ?_; refine H_of_R (R_nil H fun t15 H => ?_)
      refine vl_n ?_; refine H_of_R (R_fld TF_117_7 H fun t16 H => ?_)
      refine vl_n ?_; refine H_of_R (R_loadN TN_30 H fun _ t17 _ _ H _ _ => ?_)
      refine vl_n ?_; refine H_storeN TS_30 H fun h H => ?_; refine vl_n ?_; refine H_of_R (R_assign (v := (.bool false)) rfl ?_)
      refine vl_e ?_; refine WPc_ret ?_; refine resH_of rfl ?_; refine resL_N TN_30 ?_; refine loadN_imp H fun r2 H => ?_; refine resL_t ?_; exact H
    · have H := H2 hh; clear H1 H2
      refine WPc_skip ?_; exact H
  refine WPc_seq' ?_; refine W_region (by kernel_rfl) ?_; refine vl_n ?_; refine H_of_R (R_move (v := a0) rfl ?_)
  refine vl_n ?_; refine H_call HB_72 H fun t7 h H => ?_; refine vl_e ?_; obtain ⟨b, hc, H1, H2⟩ := H; refine WPc_cond hc (fun hh => ?_) (fun hh => ?_)
  · have H := H1 hh; clear H1 H2
    refine W_region (by kernel_rfl) ?_; refine vl_n ?_; refine H_of_R (R_move (v := a0) rfl ?_)
    refine vl_n ?_; exact H.elim
  · have H := H2 hh; clear H1 H2
    refine WPc_skip ?_; exact H
end Go.Proofs.Ythpmeccnddchpaa
end
section
namespace Go.Proofs.Ythpmeccnddchpaa
open Go.Hp
set_option maxRecDepth 100000
set_option maxHeartbeats 8000000
/-! ### (*pub/tidwallbtree.BTreeG[impl.Item]).PopMin -/
def BTreeG_I_PopMin.j4 (s0 s2 s5 : Value) (h : Heap) (Q : Value → Heap → Prop) : Prop := loadN 2 s5 h fun t135 => BTreeG_I_deleteHint.call #[s0, t135, (.pointer none)] h fun t136 h => extr 0 t136 fun t137 => extr 1 t136 fun t138 => storeN 2 s2 t137 h fun h => loadN 2 s2 h fun r2 => Q (.tuple #[r2, t138]) h
def BTreeG_I_PopMin.j6 (s0 s2 s4 s5 : Value) (h : Heap) (K1 : List Value → Heap → Prop) (Q : Value → Heap → Prop) : Prop := nilck s4 fun t127 => fld 3 t127 fun t128 => load1 t128 h fun t129 => nilck t129 fun t130 => load1 t130 h fun t131 => idx 1 t131 (.int .i64 0) fun t132 => load1 t132 h fun t133 => K1 [t133] h
def BTreeG_I_PopMin.l5.b (c0 c2 c5 s4 : Value) (h : Heap) (K1 : List Value → Heap → Prop) (Q : Value → Heap → Prop) : Prop := nilck s4 fun t118 => fld 1 t118 fun t119 => load1 t119 h fun t120 => arith (· + ·) t120 (.int .i64 1) fun t121 => nilck s4 fun t122 => fld 1 t122 fun t123 => store1 t123 t121 h fun h => node_I_leaf.call #[s4] h fun t125 h => ifV t125 (BTreeG_I_PopMin.j4 c0 c2 c5 h Q) (BTreeG_I_PopMin.j6 c0 c2 s4 c5 h K1 Q)
def BTreeG_I_PopMin.j3 (s0 s2 s5 : Value) (h : Heap) (Q : Value → Heap → Prop) : Prop := nilck s0 fun t114 => fld 2 t114 fun t115 => load1 t115 h fun t116 => loopC (fun c s h K1 => BTreeG_I_PopMin.l5.b (c.getD 0 undef) (c.getD 1 undef) (c.getD 2 undef) (s.getD 0 undef) h K1 Q) [s0, s2, s5] [t116] h
def BTreeG_I_PopMin.j8 (s0 s2 s4 s5 : Value) (h : Heap) (K1 : List Value → Heap → Prop) (Q : Value → Heap → Prop) : Prop := nilck s4 fun t106 => fld 3 t106 fun t107 => load1 t107 h fun t108 => nilck t108 fun t109 => load1 t109 h fun t110 => idx 1 t110 (.int .i64 0) fun t111 => BTreeG_I_isoLoad.call #[s0, t111, (.bool true)] h fun t112 h => K1 [t112] h
def BTreeG_I_PopMin.j10 (s2 s5 : Value) (h : Heap) (K1 : List Value → Heap → Prop) (Q : Value → Heap → Prop) : Prop := loadN 2 s5 h fun t103 => storeN 2 s2 t103 h fun h => loadN 2 s2 h fun r2 => Q (.tuple #[r2, (.bool true)]) h
def BTreeG_I_PopMin.j9 (s0 s2 s4 s5 : Value) (h : Heap) (K1 : List Value → Heap → Prop) (Q : Value → Heap → Prop) : Prop := nilck s4 fun t49 => fld 2 t49 fun t50 => load1 t50 h fun t51 => slc 2 t51 none none none fun t52 => nilck s4 fun t54 => fld 2 t54 fun t55 => load1 t55 h fun t56 => slc 2 t56 (some (.int .i64 1)) none none fun t57 => cpy 2 t52 t57 h fun t58 h => nilck s4 fun t60 => fld 2 t60 fun t61 => load1 t61 h fun t62 => nilck s4 fun t64 => fld 2 t64 fun t65 => load1 t65 h fun t66 => lenV t66 fun t67 => arith (· - ·) t67 (.int .i64 1) fun t68 => nilck s0 fun t70 => fld 7 t70 fun t71 => loadN 2 t71 h fun t72 => idx 2 t62 t68 fun t73 => storeN 2 t73 t72 h fun h => nilck s4 fun t76 => fld 2 t76 fun t77 => load1 t77 h fun t78 => nilck s4 fun t80 => fld 2 t80 fun t81 => load1 t81 h fun t82 => lenV t82 fun t83 => arith (· - ·) t83 (.int .i64 1) fun t84 => slc 2 t78 none (some t84) none fun t85 => nilck s4 fun t86 => fld 2 t86 fun t87 => store1 t87 t85 h fun h => nilck s0 fun t89 => fld 3 t89 fun t90 => load1 t90 h fun t91 => arith (· - ·) t91 (.int .i64 1) fun t92 => nilck s0 fun t93 => fld 3 t93 fun t94 => store1 t94 t92 h fun h => nilck s0 fun t96 => fld 3 t96 fun t97 => load1 t97 h fun t98 => cmpI (fun a b => a == b) t98 (.int .i64 0) fun t99 => ifV t99 (nilck s0 fun t101 => fld 2 t101 fun t102 => store1 t102 (.pointer none) h fun h => BTreeG_I_PopMin.j10 s2 s5 h K1 Q) (BTreeG_I_PopMin.j10 s2 s5 h K1 Q)
def BTreeG_I_PopMin.l7.b (c0 c2 c5 s4 : Value) (h : Heap) (K1 : List Value → Heap → Prop) (Q : Value → Heap → Prop) : Prop := nilck s4 fun t24 => fld 1 t24 fun t25 => load1 t25 h fun t26 => arith (· - ·) t26 (.int .i64 1) fun t27 => nilck s4 fun t28 => fld 1 t28 fun t29 => store1 t29 t27 h fun h => node_I_leaf.call #[s4] h fun t31 h => ifV t31 (nilck s4 fun t33 => fld 2 t33 fun t34 => load1 t34 h fun t35 => idx 2 t35 (.int .i64 0) fun t36 => loadN 2 t36 h fun t37 => storeN 2 c5 t37 h fun h => nilck s4 fun t39 => fld 2 t39 fun t40 => load1 t40 h fun t41 => lenV t41 fun t42 => nilck c0 fun t44 => fld 10 t44 fun t45 => load1 t45 h fun t46 => cmpI (fun a b => a == b) t42 t46 fun t47 => ifV t47 (BTreeG_I_PopMin.j3 c0 c2 c5 h Q) (BTreeG_I_PopMin.j9 c0 c2 s4 c5 h K1 Q)) (BTreeG_I_PopMin.j8 c0 c2 s4 c5 h K1 Q)
def BTreeG_I_PopMin.j2 (s0 s2 : Value) (h : Heap) (Q : Value → Heap → Prop) : Prop := nilck s0 fun t20 => fld 2 t20 fun t21 => BTreeG_I_isoLoad.call #[s0, t21, (.bool true)] h fun t22 h => alloc [(.int .i64 0), (.int .i64 0)] 30 h fun t5 h => loopC (fun c s h K1 => BTreeG_I_PopMin.l7.b (c.getD 0 undef) (c.getD 1 undef) (c.getD 2 undef) (s.getD 0 undef) h K1 Q) [s0, s2, t5] [t22] h
def BTreeG_I_PopMin.j1 (s0 s2 : Value) (h : Heap) (Q : Value → Heap → Prop) : Prop := nilck s0 fun t10 => fld 2 t10 fun t11 => load1 t11 h fun t12 => eqNilP t12 fun t13 => ifV t13 (nilck s0 fun t15 => fld 7 t15 fun t16 => loadN 2 t16 h fun t17 => storeN 2 s2 t17 h fun h => loadN 2 s2 h fun r2 => Q (.tuple #[r2, (.bool false)]) h) (BTreeG_I_PopMin.j2 s0 s2 h Q)
def BTreeG_I_PopMin.sh (a0 : Value) (h : Heap) (Q : Value → Heap → Prop) : Prop := alloc [(.int .i64 0), (.int .i64 0)] 30 h fun t2 h => BTreeG_I_lock.call #[a0, (.bool true)] h fun t7 h => ifV t7 (False) (BTreeG_I_PopMin.j1 a0 t2 h Q)
theorem BTreeG_I_PopMin.body (a0 : Value) (h : Heap) (Q : Value → Heap → Prop) (H : BTreeG_I_PopMin.sh a0 h Q) : BTreeG_I_PopMin.call #[a0] h Q := by
  refine callsH_of (args := [a0]) Try.func63 rfl rfl ?_; unfold BTreeG_I_PopMin.sh at H; refine WPc_seq' ?_; refine W_region (by kernel_rfl) ?_; refine vl_n ?_; refine H_alloc TV_30 H fun t2 h H => ?_; refine vl_n ?_; refine H_of_R (R_assign (v := (.bool false)) rfl ?_)
  refine vl_e ?_; refine WPc_seq (fun e h => BTreeG_I_PopMin.j1 (e 0) (e 2) h Q) ?_ (fun e h H => ?_)
  rotate_left
  · unfold BTreeG_I_PopMin.j1 at H
    refine WPc_seq (fun e h => BTreeG_I_PopMin.j2 (e 0) (e 2) h Q) ?_ (fun e h H => ?_)
    rotate_left
    · unfold BTreeG_I_PopMin.j2 at H
      refine WPc_seq' ?_; refine W_region (by kernel_rfl) ?_; refine vl_n ?_; refine H_of_R (R_move (v := (e 0)) rfl ?_)
      refine vl_n ?_; refine H_of_R (R_move (v := (e 0)) rfl ?_)
      refine vl_n ?_; refine H_of_R (R_nil H fun t20 H => ?_)
      refine vl_n ?_; refine H_of_R (R_fld TF_117_2 H fun t21 H => ?_)
      refine vl_n ?_; refine H_call HB_77 H fun t22 h H => ?_; refine vl_n ?_; refine H_of_R (R_assign (v := t22) rfl ?_)
      refine vl_e ?_; refine WPc_seq' ?_; refine W_region (by kernel_rfl) ?_; refine vl_n ?_; refine H_alloc TV_30 H fun t5 h H => ?_; refine vl_e ?_; refine WPc_seq (fun e h => BTreeG_I_PopMin.j3 (e 0) (e 2) (e 5) h Q) ?_ (fun e h H => ?_)
      rotate_left
      · unfold BTreeG_I_PopMin.j3 at H
        refine WPc_seq' ?_; refine W_region (by kernel_rfl) ?_; refine vl_n ?_; refine H_of_R (R_move (v := (e 0)) rfl ?_)
        refine vl_n ?_; refine H_of_R (R_nil H fun t114 H => ?_)
        refine vl_n ?_; refine H_of_R (R_fld TF_117_2 H fun t115 H => ?_)
        refine vl_n ?_; refine H_of_R (R_load1 T1_115 H fun _ t116 _ _ H => ?_)
        refine vl_n ?_; refine H_of_R (R_assign (v := t116) rfl ?_)
        refine vl_e ?_; refine WPc_seq (fun e h => BTreeG_I_PopMin.j4 (e 0) (e 2) (e 5) h Q) ?_ (fun e h H => ?_)
        rotate_left
        · unfold BTreeG_I_PopMin.j4 at H
          refine WPc_seq' ?_; refine W_region (by kernel_rfl) ?_; refine vl_n ?_; refine H_of_R (R_move (v := (e 0)) rfl ?_)
          refine vl_n ?_; refine H_of_R (R_loadN TN_30 H fun _ t135 _ _ H _ _ => ?_)
          refine vl_n ?_; refine H_call HB_79 H fun t136 h H => ?_; refine vl_n ?_; refine H_of_R (R_ext H fun t137 H => ?_)
          refine vl_n ?_; refine H_of_R (R_ext H fun t138 H => ?_)
          refine vl_n ?_; refine H_storeN TS_30 H fun h H => ?_; refine vl_n ?_; refine H_of_R (R_assign (v := t138) rfl ?_)
          refine vl_e ?_; refine WPc_ret ?_; refine resH_of rfl ?_; refine resL_N TN_30 ?_; refine loadN_imp H fun r2 H => ?_; refine resL_t ?_; exact H
        refine WPc_block ?_; refine loop_at (fun e => [e 4]) (fun e => [e 0, e 2, e 5]) H rfl rfl ?_; intro K1 e1 h H hin1
        replace H : BTreeG_I_PopMin.l5.b (e1 0) (e1 2) (e1 5) (e1 4) h K1 Q := H
        unfold BTreeG_I_PopMin.l5.b at H; clear hin1; refine WPc_block ?_; refine WPc_seq' ?_; refine W_region (by kernel_rfl) ?_; refine vl_n ?_; refine H_of_R (R_move (v := (e1 4)) rfl ?_)
        refine vl_n ?_; refine H_of_R (R_nil H fun t118 H => ?_)
        refine vl_n ?_; refine H_of_R (R_fld TF_129_1 H fun t119 H => ?_)
        refine vl_n ?_; refine H_of_R (R_load1 T1_3 H fun _ t120 _ _ H => ?_)
        refine vl_n ?_; refine H_of_R (R_add H fun t121 H => ?_)
        refine vl_n ?_; refine H_of_R (R_nil H fun t122 H => ?_)
        refine vl_n ?_; refine H_of_R (R_fld TF_129_1 H fun t123 H => ?_)
        refine vl_n ?_; refine H_store1 TS_3 H fun h H => ?_; refine vl_e ?_; refine WPc_seq (fun e h => BTreeG_I_PopMin.j6 (e 0) (e 2) (e 4) (e 5) h K1 Q ∧ [e1 0, e1 2, e1 5] = [e 0, e 2, e 5]) ?_ (fun e h ⟨H, hq1⟩ => ?_)
        rotate_left
        · unfold BTreeG_I_PopMin.j6 at H
          refine W_region (by kernel_rfl) ?_; refine vl_n ?_; refine H_of_R (R_move (v := (e 4)) rfl ?_)
          refine vl_n ?_; refine H_of_R (R_nil H fun t127 H => ?_)
          refine vl_n ?_; refine H_of_R (R_fld TF_129_3 H fun t128 H => ?_)
          refine vl_n ?_; refine H_of_R (R_load1 T1_127 H fun _ t129 _ _ H => ?_)
          refine vl_n ?_; refine H_of_R (R_nil H fun t130 H => ?_)
          refine vl_n ?_; refine H_of_R (R_load1 T1_130 H fun _ t131 _ _ H => ?_)
          refine vl_n ?_; refine H_of_R (R_idx TE_130 H fun t132 H => ?_)
          refine vl_n ?_; refine H_of_R (R_load1 T1_115 H fun _ t133 _ _ H => ?_)
          refine vl_n ?_; refine H_of_R (R_assign (v := t133) rfl ?_)
          refine vl_e ?_; exact ⟨H, hq1⟩
        refine WPc_seq' ?_; refine W_region (by kernel_rfl) ?_; refine vl_n ?_; refine H_of_R (R_move (v := (e1 4)) rfl ?_)
        refine vl_n ?_; refine H_call HB_78 H fun t125 h H => ?_; refine vl_e ?_; obtain ⟨b, hc, H1, H2⟩ := H; refine WPc_cond hc (fun hh => ?_) (fun hh => ?_)
        · have H := H1 hh; clear H1 H2
          refine WPc_exit ?_; exact H
        · have H := H2 hh; clear H1 H2
          refine WPc_skip ?_; exact ⟨H, rfl⟩
      refine WPc_block ?_; refine loop_at (fun e => [e 4]) (fun e => [e 0, e 2, e 5]) H rfl rfl ?_; intro K1 e1 h H hin1
      replace H : BTreeG_I_PopMin.l7.b (e1 0) (e1 2) (e1 5) (e1 4) h K1 Q := H
      unfold BTreeG_I_PopMin.l7.b at H; clear hin1; refine WPc_block ?_; refine WPc_seq' ?_; refine W_region (by kernel_rfl) ?_; refine vl_n ?_; refine H_of_R (R_move (v := (e1 4)) rfl ?_)
      refine vl_n ?_; refine H_of_R (R_nil H fun t24 H => ?_)
      refine vl_n ?_; refine H_of_R (R_fld TF_129_1 H fun t25 H => ?_)
      refine vl_n ?_; refine H_of_R (R_load1 T1_3 H fun _ t26 _ _ H => ?_)
      refine vl_n ?_; refine H_of_R (R_sub H fun t27 H => ?_)
      refine vl_n ?_; refine H_of_R (R_nil H fun t28 H => ?_)
      refine vl_n ?_; refine H_of_R (R_fld TF_129_1 H fun t29 H => ?_)
      refine vl_n ?_; refine H_store1 TS_3 H fun h H => ?_; refine vl_e ?_; refine WPc_seq (fun e h => BTreeG_I_PopMin.j8 (e 0) (e 2) (e 4) (e 5) h K1 Q ∧ [e1 0, e1 2, e1 5] = [e 0, e 2, e 5]) ?_ (fun e h ⟨H, hq1⟩ => ?_)
      rotate_left
      · unfold BTreeG_I_PopMin.j8 at H
        refine W_region (by kernel_rfl) ?_; refine vl_n ?_; refine H_of_R (R_move (v := (e 0)) rfl ?_)
        refine vl_n ?_; refine H_of_R (R_move (v := (e 4)) rfl ?_)
        refine vl_n ?_; refine H_of_R (R_nil H fun t106 H => ?_)
        refine vl_n ?_; refine H_of_R (R_fld TF_129_3 H fun t107 H => ?_)
        refine vl_n ?_; refine H_of_R (R_load1 T1_127 H fun _ t108 _ _ H => ?_)
        refine vl_n ?_; refine H_of_R (R_nil H fun t109 H => ?_)
        refine vl_n ?_; refine H_of_R (R_load1 T1_130 H fun _ t110 _ _ H => ?_)
        refine vl_n ?_; refine H_of_R (R_idx TE_130 H fun t111 H => ?_)
        refine vl_n ?_; refine H_call HB_77 H fun t112 h H => ?_; refine vl_n ?_; refine H_of_R (R_assign (v := t112) rfl ?_)
        refine vl_e ?_; exact ⟨H, hq1⟩
      refine WPc_seq' ?_; refine W_region (by kernel_rfl) ?_; refine vl_n ?_; refine H_of_R (R_move (v := (e1 4)) rfl ?_)
      refine vl_n ?_; refine H_call HB_78 H fun t31 h H => ?_; refine vl_e ?_; obtain ⟨b, hc, H1, H2⟩ := H; refine WPc_cond hc (fun hh => ?_) (fun hh => ?_)
      · have H := H1 hh; clear H1 H2
        refine WPc_seq' ?_; refine W_region (by kernel_rfl) ?_; refine vl_n ?_; refine H_of_R (R_move (v := (e1 4)) rfl ?_)
        refine vl_n ?_; refine H_of_R (R_nil H fun t33 H => ?_)
        refine vl_n ?_; refine H_of_R (R_fld TF_129_2 H fun t34 H => ?_)
        refine vl_n ?_; refine H_of_R (R_load1 T1_25 H fun _ t35 _ _ H => ?_)
        refine vl_n ?_; refine H_of_R (R_idx TE_25 H fun t36 H => ?_)
        refine vl_n ?_; refine H_of_R (R_loadN TN_30 H fun _ t37 _ _ H _ _ => ?_)
        refine vl_n ?_; refine H_storeN TS_30 H fun h H => ?_; refine vl_e ?_; refine WPc_seq (fun e h => BTreeG_I_PopMin.j9 (e 0) (e 2) (e 4) (e 5) h K1 Q ∧ [e1 0, e1 2, e1 5] = [e 0, e 2, e 5]) ?_ (fun e h ⟨H, hq1⟩ => ?_)
        rotate_left
        · unfold BTreeG_I_PopMin.j9 at H
          refine WPc_seq' ?_; refine W_drawn [0, 1, 3, 7, 15, 0, 32, 96, 224, 480, 1023] (.take 0 (.take 1 (.take 2 (.take 3 (.take 4 (.take 5 (.take 6 (.take 7 (.take 8 (.take 9 (.alt 10 .done .none))))))))))) mixed (by kernel_rfl) ?_; refine tkP rfl ?_; refine R_move (v := (e 4)) rfl ⟨fun _ => trivial, ?_⟩
          refine tkP rfl ?_; refine R_nil H fun t49 H => ⟨fun _ => trivial, ?_⟩
          refine tkP rfl ?_; refine R_fld TF_129_2 H fun t50 H => ⟨fun _ => trivial, ?_⟩
          refine tkL rfl ?_; refine R_load1 T1_25 H fun at51 t51 hat51 _ H => ?_; refine tkP rfl ?_; refine R_slice TE_25 (by decide) H fun t52 H => ⟨fun _ => trivial, ?_⟩
          refine tkP rfl ?_; refine R_move (v := (e 4)) rfl ⟨fun _ => trivial, ?_⟩
          refine tkP rfl ?_; refine R_nil H fun t54 H => ⟨fun _ => trivial, ?_⟩
          refine tkP rfl ?_; refine R_fld TF_129_2 H fun t55 H => ⟨fun _ => trivial, ?_⟩
          refine tkL rfl ?_; refine R_load1 T1_25 H fun at56 t56 hat56 _ H => ?_; refine tkP rfl ?_; refine R_slice TE_25 (by decide) H fun t57 H => ⟨fun _ => trivial, ?_⟩
          refine alt_n rfl ?_ vp_none
          refine H_cpy TE_25 H fun t58 h H => ⟨(hskip rfl (hskip rfl hnil)), ?_⟩
          refine vp_done ?_; refine WPc_seq' ?_; refine W_drawn [0, 1, 3, 7, 0, 16, 48, 112, 240, 496, 0, 1024, 3072, 7168, 16383, 32767] (.take 0 (.take 1 (.take 2 (.take 3 (.take 4 (.take 5 (.take 6 (.take 7 (.take 8 (.take 9 (.take 10 (.take 11 (.take 12 (.take 13 (.take 14 (.alt 15 .done .none)))))))))))))))) mixed (by kernel_rfl) ?_; refine tkP rfl ?_; refine R_move (v := (e 4)) rfl ⟨fun _ => trivial, ?_⟩
          refine tkP rfl ?_; refine R_nil H fun t60 H => ⟨fun _ => trivial, ?_⟩
          refine tkP rfl ?_; refine R_fld TF_129_2 H fun t61 H => ⟨fun _ => trivial, ?_⟩
          refine tkL rfl ?_; refine R_load1 T1_25 H fun at62 t62 hat62 _ H => ?_; refine tkP rfl ?_; refine R_move (v := (e 4)) rfl ⟨fun _ => trivial, ?_⟩
          refine tkP rfl ?_; refine R_nil H fun t64 H => ⟨fun _ => trivial, ?_⟩
          refine tkP rfl ?_; refine R_fld TF_129_2 H fun t65 H => ⟨fun _ => trivial, ?_⟩
          refine tkL rfl ?_; refine R_load1 T1_25 H fun at66 t66 hat66 _ H => ?_; refine tkP rfl ?_; refine R_len Try.underlying25 H fun t67 H => ⟨fun _ => trivial, ?_⟩
          refine tkP rfl ?_; refine R_sub H fun t68 H => ⟨fun _ => trivial, ?_⟩
          refine tkP rfl ?_; refine R_move (v := (e 0)) rfl ⟨fun _ => trivial, ?_⟩
          refine tkP rfl ?_; refine R_nil H fun t70 H => ⟨fun _ => trivial, ?_⟩
          refine tkP rfl ?_; refine R_fld TF_117_7 H fun t71 H => ⟨fun _ => trivial, ?_⟩
          refine tkL rfl ?_; refine R_loadN TN_30 H fun at72 xt72 hat72 _ H St72 hSt72 => ?_; refine tkP rfl ?_; refine R_idx TE_25 H fun t73 H => ⟨fun _ => trivial, ?_⟩
          refine alt_n rfl ?_ vp_none
          refine H_storeN TS_30 H fun h H => ⟨(hskip rfl (hskip rfl (hskip rfl hnil))), ?_⟩
          refine vp_done ?_; refine WPc_seq' ?_; refine W_drawn [0, 0, 2, 6, 14, 0, 32, 96, 224, 480, 992, 2046, 4095, 8191, 16383] (.take 0 (.take 1 (.take 2 (.take 3 (.take 4 (.take 5 (.take 6 (.take 7 (.take 8 (.take 9 (.take 10 (.take 11 (.take 12 (.take 13 (.alt 14 .done .none))))))))))))))) mixed (by kernel_rfl) ?_; refine tkP rfl ?_; refine R_move (v := (e 4)) rfl ⟨fun _ => trivial, ?_⟩
          refine tkP rfl ?_; refine R_move (v := (e 4)) rfl ⟨fun _ => trivial, ?_⟩
          refine tkP rfl ?_; refine R_nil H fun t76 H => ⟨fun _ => trivial, ?_⟩
          refine tkP rfl ?_; refine R_fld TF_129_2 H fun t77 H => ⟨fun _ => trivial, ?_⟩
          refine tkL rfl ?_; refine R_load1 T1_25 H fun at78 t78 hat78 _ H => ?_; refine tkP rfl ?_; refine R_move (v := (e 4)) rfl ⟨fun _ => trivial, ?_⟩
          refine tkP rfl ?_; refine R_nil H fun t80 H => ⟨fun _ => trivial, ?_⟩
          refine tkP rfl ?_; refine R_fld TF_129_2 H fun t81 H => ⟨fun _ => trivial, ?_⟩
          refine tkL rfl ?_; refine R_load1 T1_25 H fun at82 t82 hat82 _ H => ?_; refine tkP rfl ?_; refine R_len Try.underlying25 H fun t83 H => ⟨fun _ => trivial, ?_⟩
          refine tkP rfl ?_; refine R_sub H fun t84 H => ⟨fun _ => trivial, ?_⟩
          refine tkP rfl ?_; refine R_slice TE_25 (by decide) H fun t85 H => ⟨fun _ => trivial, ?_⟩
          refine tkP rfl ?_; refine R_nil H fun t86 H => ⟨fun _ => trivial, ?_⟩
          refine tkP rfl ?_; refine R_fld TF_129_2 H fun t87 H => ⟨fun _ => trivial, ?_⟩
          refine alt_n rfl ?_ vp_none
          refine H_store1 TS_25 H fun h H => ⟨(hskip rfl (hskip rfl hnil)), ?_⟩
          refine vp_done ?_; refine WPc_seq' ?_; refine W_region (by kernel_rfl) ?_; refine vl_n ?_; refine H_of_R (R_move (v := (e 0)) rfl ?_)
          refine vl_n ?_; refine H_of_R (R_nil H fun t89 H => ?_)
          refine vl_n ?_; refine H_of_R (R_fld TF_117_3 H fun t90 H => ?_)
          refine vl_n ?_; refine H_of_R (R_load1 T1_3 H fun _ t91 _ _ H => ?_)
          refine vl_n ?_; refine H_of_R (R_sub H fun t92 H => ?_)
          refine vl_n ?_; refine H_of_R (R_nil H fun t93 H => ?_)
          refine vl_n ?_; refine H_of_R (R_fld TF_117_3 H fun t94 H => ?_)
          refine vl_n ?_; refine H_store1 TS_3 H fun h H => ?_; refine vl_e ?_; refine WPc_seq (fun e h => BTreeG_I_PopMin.j10 (e 2) (e 5) h K1 Q ∧ [e1 0, e1 2, e1 5] = [e 0, e 2, e 5]) ?_ (fun e h ⟨H, hq1⟩ => ?_)
          rotate_left
          · unfold BTreeG_I_PopMin.j10 at H
            refine WPc_seq' ?_; refine W_region (by kernel_rfl) ?_; refine vl_n ?_; refine H_of_R (R_loadN TN_30 H fun _ t103 _ _ H _ _ => ?_)
            refine vl_n ?_; refine H_storeN TS_30 H fun h H => ?_; refine vl_n ?_; refine H_of_R (R_assign (v := (.bool true)) rfl ?_)
            refine vl_e ?_; refine WPc_ret ?_; refine resH_of rfl ?_; refine resL_N TN_30 ?_; refine loadN_imp H fun r2 H => ?_; refine resL_t ?_; exact H
          refine WPc_seq' ?_; refine W_region (by kernel_rfl) ?_; refine vl_n ?_; refine H_of_R (R_move (v := (e 0)) rfl ?_)
          refine vl_n ?_; refine H_of_R (R_nil H fun t96 H => ?_)
          refine vl_n ?_; refine H_of_R (R_fld TF_117_3 H fun t97 H => ?_)
          refine vl_n ?_; refine H_of_R (R_load1 T1_3 H fun _ t98 _ _ H => ?_)
          refine vl_n ?_; refine H_of_R (R_eqI H fun t99 H => ?_)
          refine vl_e ?_; obtain ⟨b, hc, H1, H2⟩ := H; refine WPc_cond hc (fun hh => ?_) (fun hh => ?_)
          · have H := H1 hh; clear H1 H2
            refine W_region (by kernel_rfl) ?_; refine vl_n ?_; refine H_of_R (R_move (v := (e 0)) rfl ?_)
            refine vl_n ?_; refine H_of_R (R_nil H fun t101 H => ?_)
            refine vl_n ?_; refine H_of_R (R_fld TF_117_2 H fun t102 H => ?_)
            refine vl_n ?_; refine H_store1 TS_115 H fun h H => ?_; refine vl_e ?_; exact ⟨H, hq1⟩
          · have H := H2 hh; clear H1 H2
            refine WPc_skip ?_; exact ⟨H, hq1⟩
        refine WPc_seq' ?_; refine W_drawn [0, 1, 3, 7, 15, 0, 32, 96, 224, 511] (.take 0 (.take 1 (.take 2 (.take 3 (.take 4 (.take 5 (.take 6 (.take 7 (.take 8 (.take 9 .done)))))))))) mixed (by kernel_rfl) ?_; refine tkP rfl ?_; refine R_move (v := (e1 4)) rfl ⟨fun _ => trivial, ?_⟩
        refine tkP rfl ?_; refine R_nil H fun t39 H => ⟨fun _ => trivial, ?_⟩
        refine tkP rfl ?_; refine R_fld TF_129_2 H fun t40 H => ⟨fun _ => trivial, ?_⟩
        refine tkL rfl ?_; refine R_load1 T1_25 H fun at41 t41 hat41 _ H => ?_; refine tkP rfl ?_; refine R_len Try.underlying25 H fun t42 H => ⟨fun _ => trivial, ?_⟩
        refine tkP rfl ?_; refine R_move (v := (e1 0)) rfl ⟨fun _ => trivial, ?_⟩
        refine tkP rfl ?_; refine R_nil H fun t44 H => ⟨fun _ => trivial, ?_⟩
        refine tkP rfl ?_; refine R_fld TF_117_9 H fun t45 H => ⟨fun _ => trivial, ?_⟩
        refine tkL rfl ?_; refine R_load1 T1_3 H fun at46 t46 hat46 _ H => ?_; refine tkP rfl ?_; refine R_eqI H fun t47 H => ⟨fun _ => trivial, ?_⟩
        refine vp_done ?_; obtain ⟨b_2, hc_2, H1, H2⟩ := H; refine WPc_cond hc_2 (fun hh => ?_) (fun hh => ?_)
        · have H := H1 hh; clear H1 H2
          refine WPc_exit ?_; exact H
        · have H := H2 hh; clear H1 H2
          refine WPc_skip ?_; exact ⟨H, rfl⟩
      · have H := H2 hh; clear H1 H2
        refine WPc_skip ?_; exact ⟨H, rfl⟩
    refine WPc_seq' ?_; refine W_region (by kernel_rfl) ?_; refine vl_n ?_; refine H_of_R (R_move (v := (e 0)) rfl ?_)
    refine vl_n ?_; refine H_of_R (R_nil H fun t10 H => ?_)
    refine vl_n ?_; refine H_of_R (R_fld TF_117_2 H fun t11 H => ?_)
    refine vl_n ?_; refine H_of_R (R_load1 T1_115 H fun _ t12 _ _ H => ?_)
    refine vl_n ?_; refine H_of_R (R_eqNilP Try.underlying115 rfl H fun t13 H => ?_)
    refine vl_e ?_; obtain ⟨b, hc, H1, H2⟩ := H; refine WPc_cond hc (fun hh => ?_) (fun hh => ?_)
    · have H := H1 hh; clear H1 H2
      refine WPc_seq' ?_; refine W_region (by kernel_rfl) ?_; refine vl_n ?_; refine H_of_R (R_move (v := (e 0)) rfl ?_)
      refine vl_n ?_; refine H_of_R (R_nil H fun t15 H => ?_)
      refine vl_n ?_; refine H_of_R (R_fld TF_117_7 H fun t16 H => ?_)
      refine vl_n ?_; refine H_of_R (R_loadN TN_30 H fun _ t17 _ _ H _ _ => ?_)
      refine vl_n ?_; refine H_storeN TS_30 H fun h H => ?_; refine vl_n ?_; refine H_of_R (R_assign (v := (.bool false)) rfl ?_)
      refine vl_e ?_; refine WPc_ret ?_; refine resH_of rfl ?_; refine resL_N TN_30 ?_; refine loadN_imp H fun r2 H => ?_; refine resL_t ?_; exact H
    · have H := H2 hh; clear H1 H2
      refine WPc_skip ?_; exact H
  refine WPc_seq' ?_; refine W_region (by kernel_rfl) ?_; refine vl_n ?_; refine H_of_R (R_move (v := a0) rfl ?_)
  refine vl_n ?_; refine H_call HB_72 H fun t7 h H => ?_; refine vl_e ?_; obtain ⟨b, hc, H1, H2⟩ := H; refine WPc_cond hc (fun hh => ?_) (fun hh => ?_)
  · have H := H1 hh; clear H1 H2
    refine W_region (by kernel_rfl) ?_; refine vl_n ?_; refine H_of_R (R_move (v := a0) rfl ?_)
    refine vl_n ?_; exact H.elim
  · have H := H2 hh; clear H1 H2
    refine WPc_skip ?_; exact H
end Go.Proofs.Ythpmeccnddchpaa
end
section
namespace Go.Proofs.Ythpmeccnddchpaa
open Go.Hp
set_option maxRecDepth 100000
set_option maxHeartbeats 8000000
/-! ### slices.Clone[[]impl.Item,impl.Item] -/
def sl_Clone_implItemI.j1 (s0 : Value) (h : Heap) (Q : Value → Heap → Prop) : Prop := mkSl (if 0 * 2 = 0 then [] else zeros [(.int .i64 0), (.int .i64 0)] 0) 0 [] 30 h fun t5 h => app 30 2 16 [(.int .i64 0), (.int .i64 0)] t5 s0 h fun t7 h => Q t7 h
def sl_Clone_implItemI.sh (a0 : Value) (h : Heap) (Q : Value → Heap → Prop) : Prop := eqNilS a0 fun t4 => ifV t4 (Q (.slice none 0 0) h) (sl_Clone_implItemI.j1 a0 h Q)
theorem sl_Clone_implItemI.body (a0 : Value) (h : Heap) (Q : Value → Heap → Prop) (H : sl_Clone_implItemI.sh a0 h Q) : sl_Clone_implItemI.call #[a0] h Q := by
  refine callsH_of (args := [a0]) Try.func42 rfl rfl ?_; unfold sl_Clone_implItemI.sh at H; refine WPc_seq' ?_; refine W_region (by kernel_rfl) ?_; refine vl_n ?_; refine H_of_R (R_assign (v := (.slice none 0 0)) rfl ?_)
  refine vl_e ?_; refine WPc_seq (fun e h => sl_Clone_implItemI.j1 (e 0) h Q) ?_ (fun e h H => ?_)
  rotate_left
  · unfold sl_Clone_implItemI.j1 at H
    refine WPc_seq' ?_; refine W_region (by kernel_rfl) ?_; refine vl_n ?_; refine H_mkSl TZ_25 (by decide) rfl H rfl fun t5 h H => ?_; refine vl_n ?_; refine H_of_R (R_move (v := (e 0)) rfl ?_)
    refine vl_n ?_; refine H_app TZ_25 TU_25 H fun t7 h H => ?_; refine vl_n ?_; refine H_of_R (R_assign (v := t7) rfl ?_)
    refine vl_e ?_; refine WPc_ret ?_; refine resH_of rfl ?_; exact H
  refine WPc_seq' ?_; refine W_region (by kernel_rfl) ?_; refine vl_n ?_; refine H_of_R (R_move (v := a0) rfl ?_)
  refine vl_n ?_; refine H_of_R (R_eqNilS Try.underlying25 rfl H fun t4 H => ?_)
  refine vl_e ?_; obtain ⟨b, hc, H1, H2⟩ := H; refine WPc_cond hc (fun hh => ?_) (fun hh => ?_)
  · have H := H1 hh; clear H1 H2
    refine WPc_seq' ?_; refine W_region (by kernel_rfl) ?_; refine vl_n ?_; refine H_of_R (R_assign (v := (.slice none 0 0)) rfl ?_)
    refine vl_e ?_; refine WPc_ret ?_; refine resH_of rfl ?_; exact H
  · have H := H2 hh; clear H1 H2
    refine WPc_skip ?_; exact H
end Go.Proofs.Ythpmeccnddchpaa
end
section
namespace Go.Proofs.Ythpmeccnddchpaa
open Go.Hp
set_option maxRecDepth 100000
set_option maxHeartbeats 8000000
/-! ### impl.GSet -/
def i_GSet.j1 (s6 s7 : Value) (h : Heap) (Q : Value → Heap → Prop) : Prop := BTreeG_I_Items.call #[s6] h fun t30 h => Q (.tuple #[s7, t30]) h
def i_GSet.j4 (s6 s7 s12 s13 s14 : Value) (h : Heap) (K1 : List Value → Heap → Prop) (Q : Value → Heap → Prop) : Prop := arith (· + ·) s14 (.int .i64 1) fun t27 => K1 [s7, t27] h
def i_GSet.j3 (s6 s7 s12 s13 s14 : Value) (h : Heap) (K1 : List Value → Heap → Prop) (Q : Value → Heap → Prop) : Prop := idx 2 s12 s14 fun t16 => loadN 2 t16 h fun t17 => alloc [(.int .i64 0), (.int .i64 0)] 30 h fun t9 h => storeN 2 t9 t17 h fun h => loadN 2 t9 h fun t20 => BTreeG_I_Set.call #[s6, t20] h fun t21 h => extr 0 t21 fun t22 => extr 1 t21 fun t23 => i_found.call #[t22, t23] h fun t24 h => mkSl (if 1 * 3 = 0 then [] else zeros [(.int .i64 0), (.int .i64 0), (.bool false)] 1) 1 [(0 * 3, 3, t24)] 48 h fun t25 h => app 48 3 24 [(.int .i64 0), (.int .i64 0), (.bool false)] s7 t25 h fun t26 h => i_GSet.j4 s6 t26 s12 s13 s14 h K1 Q
def i_GSet.l2.b (c6 c12 c13 s7 s14 : Value) (h : Heap) (K1 : List Value → Heap → Prop) (Q : Value → Heap → Prop) : Prop := cmpI (fun a b => decide (a < b)) s14 c13 fun t15 => ifV t15 (i_GSet.j3 c6 s7 c12 c13 s14 h K1 Q) (i_GSet.j1 c6 s7 h Q)
def i_GSet.sh (a0 a1 : Value) (h : Heap) (Q : Value → Heap → Prop) : Prop := box 34 a0 h fun t2 h => loadN 3 t2 h fun t10 => i_grow.call #[t10, (.slice none 0 0)] h fun t11 h => lenV a1 fun t13 => loopC (fun c s h K1 => i_GSet.l2.b (c.getD 0 undef) (c.getD 1 undef) (c.getD 2 undef) (s.getD 0 undef) (s.getD 1 undef) h K1 Q) [t11, a1, t13] [(.slice none 0 0), (.int .i64 0)] h
theorem i_GSet.body (a0 a1 : Value) (h : Heap) (Q : Value → Heap → Prop) (H : i_GSet.sh a0 a1 h Q) : i_GSet.call #[a0, a1] h Q := by
  refine callsH_of (args := [a0, a1]) Try.func46 rfl rfl ?_; unfold i_GSet.sh at H; refine WPc_seq' ?_; refine W_region (by kernel_rfl) ?_; refine vl_n ?_; refine H_box H fun t2 h H => ?_; refine vl_n ?_; refine H_of_R (R_assign (v := (.slice none 0 0)) rfl ?_)
  refine vl_n ?_; refine H_of_R (R_assign (v := (.slice none 0 0)) rfl ?_)
  refine vl_e ?_; refine WPc_seq' ?_; refine W_region (by kernel_rfl) ?_; refine vl_n ?_; refine H_of_R (R_loadN TN_34 H fun _ t10 _ _ H _ _ => ?_)
  refine vl_n ?_; refine H_call HB_40 H fun t11 h H => ?_; refine vl_n ?_; refine H_of_R (R_assign (v := t11) rfl ?_)
  refine vl_e ?_; refine WPc_seq' ?_; refine W_region (by kernel_rfl) ?_; refine vl_n ?_; refine H_of_R (R_assign (v := (.slice none 0 0)) rfl ?_)
  refine vl_e ?_; refine WPc_seq (fun e h => i_GSet.j1 (e 6) (e 7) h Q) ?_ (fun e h H => ?_)
  rotate_left
  · unfold i_GSet.j1 at H
    refine WPc_seq' ?_; refine W_region (by kernel_rfl) ?_; refine vl_n ?_; refine H_of_R (R_move (v := (e 7)) rfl ?_)
    refine vl_n ?_; refine H_of_R (R_move (v := (e 6)) rfl ?_)
    refine vl_n ?_; refine H_call HB_41 H fun t30 h H => ?_; refine vl_n ?_; refine H_of_R (R_assign (v := (e 7)) rfl ?_)
    refine vl_n ?_; refine H_of_R (R_assign (v := t30) rfl ?_)
    refine vl_e ?_; refine WPc_ret ?_; refine resH_of rfl ?_; exact H
  refine WPc_seq' ?_; refine W_region (by kernel_rfl) ?_; refine vl_n ?_; refine H_of_R (R_move (v := a1) rfl ?_)
  refine vl_n ?_; refine H_of_R (R_len Try.underlying25 H fun t13 H => ?_)
  refine vl_n ?_; refine H_of_R (R_move (v := (.int .i64 0)) rfl ?_)
  refine vl_e ?_; refine WPc_block ?_; refine loop_at (fun e => [e 7, e 14]) (fun e => [e 6, e 12, e 13]) H rfl rfl ?_; intro K1 e1 h H hin1
  replace H : i_GSet.l2.b (e1 6) (e1 12) (e1 13) (e1 7) (e1 14) h K1 Q := H
  unfold i_GSet.l2.b at H; clear hin1; refine WPc_seq' ?_; refine W_region (by kernel_rfl) ?_; refine vl_n ?_; refine H_of_R (R_lss H fun t15 H => ?_)
  refine vl_e ?_; refine WPc_seq (fun e h => i_GSet.j3 (e 6) (e 7) (e 12) (e 13) (e 14) h K1 Q ∧ [e1 6, e1 12, e1 13] = [e 6, e 12, e 13]) ?_ (fun e h ⟨H, hq1⟩ => ?_)
  rotate_left
  · unfold i_GSet.j3 at H
    refine WPc_seq (fun e h => i_GSet.j4 (e 6) (e 7) (e 12) (e 13) (e 14) h K1 Q ∧ [e1 6, e1 12, e1 13] = [e 6, e 12, e 13]) ?_ (fun e h ⟨H, hq1⟩ => ?_)
    rotate_left
    · unfold i_GSet.j4 at H
      refine W_region (by kernel_rfl) ?_; refine vl_n ?_; refine H_of_R (R_add H fun t27 H => ?_)
      refine vl_n ?_; refine H_of_R (R_move (v := t27) rfl ?_)
      refine vl_e ?_; exact ⟨H, hq1⟩
    refine WPc_block ?_; refine WPc_seq' ?_; refine W_region (by kernel_rfl) ?_; refine vl_n ?_; refine H_of_R (R_idx TE_25 H fun t16 H => ?_)
    refine vl_n ?_; refine H_of_R (R_loadN TN_30 H fun _ t17 _ _ H _ _ => ?_)
    refine vl_n ?_; refine H_alloc TV_30 H fun t9 h H => ?_; refine vl_n ?_; refine H_storeN TS_30 H fun h H => ?_; refine vl_e ?_; refine W_region (by kernel_rfl) ?_; refine vl_n ?_; refine H_of_R (R_move (v := (e 7)) rfl ?_)
    refine vl_n ?_; refine H_of_R (R_move (v := (e 6)) rfl ?_)
    refine vl_n ?_; refine H_of_R (R_loadN TN_30 H fun _ t20 _ _ H _ _ => ?_)
    refine vl_n ?_; refine H_call HB_57 H fun t21 h H => ?_; refine vl_n ?_; refine H_of_R (R_ext H fun t22 H => ?_)
    refine vl_n ?_; refine H_of_R (R_ext H fun t23 H => ?_)
    refine vl_n ?_; refine H_call HB_47 H fun t24 h H => ?_; refine vl_n ?_; refine H_mkSl TZ_53 (by decide) rfl H rfl fun t25 h H => ?_; refine vl_n ?_; refine H_app TZ_53 TU_53 H fun t26 h H => ?_; refine vl_n ?_; refine H_of_R (R_assign (v := t26) rfl ?_)
    refine vl_e ?_; exact ⟨H, hq1⟩
  obtain ⟨b, hc, H1, H2⟩ := H; refine WPc_cond hc (fun hh => ?_) (fun hh => ?_)
  · have H := H1 hh; clear H1 H2
    refine WPc_skip ?_; exact ⟨H, rfl⟩
  · have H := H2 hh; clear H1 H2
    refine WPc_exit ?_; exact H
/-! ### laws.with -/
def l_with.sh (a0 a1 a2 : Value) (h : Heap) (Q : Value → Heap → Prop) : Prop := box 34 a0 h fun t3 h => box 30 a2 h fun t5 h => loadN 3 t3 h fun t10 => loadN 2 t5 h fun t13 => (sl_Clone_implItemI.call #[a1] h fun t12 h => stillN 3 t3 t10 h ∧ stillN 2 t5 t13 h ∧ mkSl (if 1 * 2 = 0 then [] else zeros [(.int .i64 0), (.int .i64 0)] 1) 1 [(0 * 2, 2, t13)] 30 h fun t14 h => stillN 3 t3 t10 h ∧ app 30 2 16 [(.int .i64 0), (.int .i64 0)] t12 t14 h fun t15 h => stillN 3 t3 t10 h ∧ i_GSet.call #[t10, t15] h fun t16 h => extr 0 t16 fun t17 => extr 1 t16 fun t18 => Q t18 h) ∧ (mkSl (if 1 * 2 = 0 then [] else zeros [(.int .i64 0), (.int .i64 0)] 1) 1 [(0 * 2, 2, t13)] 30 h fun t14_2 h => stillN 3 t3 t10 h ∧ sl_Clone_implItemI.call #[a1] h fun t12_2 h => stillN 3 t3 t10 h ∧ app 30 2 16 [(.int .i64 0), (.int .i64 0)] t12_2 t14_2 h fun t15_2 h => stillN 3 t3 t10 h ∧ i_GSet.call #[t10, t15_2] h fun t16_2 h => extr 0 t16_2 fun t17_2 => extr 1 t16_2 fun t18_2 => Q t18_2 h)
theorem l_with.body (a0 a1 a2 : Value) (h : Heap) (Q : Value → Heap → Prop) (H : l_with.sh a0 a1 a2 h Q) : l_with.call #[a0, a1, a2] h Q := by
  refine callsH_of (args := [a0, a1, a2]) Try.func22 rfl rfl ?_; unfold l_with.sh at H; refine WPc_seq' ?_; refine W_region (by kernel_rfl) ?_; refine vl_n ?_; refine H_box H fun t3 h H => ?_; refine vl_n ?_; refine H_box H fun t5 h H => ?_; refine vl_n ?_; refine H_of_R (R_assign (v := (.slice none 0 0)) rfl ?_)
  refine vl_e ?_; refine WPc_seq' ?_; refine W_drawn [0, 0, 2, 0, 8, 30, 63, 127, 255, 255, 511, 2047] (.take 0 (.take 1 (.take 3 (.alt 2 (.alt 4 (.alt 5 (.alt 6 (.take 7 (.take 8 (.take 9 (.take 10 (.take 11 .done))))) .none) .none) .none) (.alt 4 (.alt 2 (.alt 5 (.alt 6 (.take 7 (.take 8 (.take 9 (.take 10 (.take 11 .done))))) .none) .none) .none) .none))))) mixed (by kernel_rfl) ?_; refine tkL rfl ?_; refine R_loadN TN_34 H fun at10 xt10 hat10 _ H St10 hSt10 => ?_; refine tkP rfl ?_; refine R_move (v := a1) rfl ⟨fun _ => trivial, ?_⟩
  refine tkL rfl ?_; refine R_loadN TN_30 H fun at13 xt13 hat13 _ H St13 hSt13 => ?_; obtain ⟨HA0, HA1⟩ := H; refine alt_n rfl ?_ ?_
  · have H := HA0; clear HA0 HA1
    refine H_call HB_42 H fun t12 h ⟨S, S_2, H⟩ => ⟨(hcons rfl (hSt13 _ (still_N S_2 hat13 rfl)) (hcons rfl (hSt10 _ (still_N S hat10 rfl)) hnil)), ?_⟩
    refine alt_n rfl ?_ vp_none
    refine H_mkSl TZ_25 (by decide) rfl H rfl fun t14 h ⟨S_3, H⟩ => ⟨(hskip rfl (hcons rfl (hSt10 _ (still_N S_3 hat10 rfl)) hnil)), ?_⟩
    refine alt_n rfl ?_ vp_none
    refine H_app TZ_25 TU_25 H fun t15 h ⟨S_4, H⟩ => ⟨(hcons rfl (hSt10 _ (still_N S_4 hat10 rfl)) hnil), ?_⟩
    refine alt_n rfl ?_ vp_none
    refine H_call HB_46 H fun t16 h H => ⟨(hskip rfl hnil), ?_⟩
    refine tkP rfl ?_; refine R_move (v := t16) rfl ⟨fun _ => trivial, ?_⟩
    refine tkP rfl ?_; refine R_ext H fun t17 H => ⟨fun _ => trivial, ?_⟩
    refine tkP rfl ?_; refine R_ext H fun t18 H => ⟨fun _ => trivial, ?_⟩
    refine tkP rfl ?_; refine R_assign (v := t17) rfl ⟨fun _ => trivial, ?_⟩
    refine tkP rfl ?_; refine R_assign (v := t18) rfl ⟨fun _ => trivial, ?_⟩
    refine vp_done ?_; refine WPc_seq' ?_; refine W_region (by kernel_rfl) ?_; refine vl_n ?_; refine H_of_R (R_move (v := t18) rfl ?_)
    refine vl_n ?_; refine H_of_R (R_assign (v := t18) rfl ?_)
    refine vl_e ?_; refine WPc_ret ?_; refine resH_of rfl ?_; exact H
  refine alt_n rfl ?_ vp_none
  have H := HA1; clear HA0 HA1
  refine H_mkSl TZ_25 (by decide) rfl H rfl fun t14_2 h ⟨S_5, H⟩ => ⟨(hskip rfl (hcons rfl (hSt10 _ (still_N S_5 hat10 rfl)) hnil)), ?_⟩
  refine alt_n rfl ?_ vp_none
  refine H_call HB_42 H fun t12_2 h ⟨S_6, H⟩ => ⟨(hcons rfl (hSt10 _ (still_N S_6 hat10 rfl)) hnil), ?_⟩
  refine alt_n rfl ?_ vp_none
  refine H_app TZ_25 TU_25 H fun t15_2 h ⟨S_7, H⟩ => ⟨(hcons rfl (hSt10 _ (still_N S_7 hat10 rfl)) hnil), ?_⟩
  refine alt_n rfl ?_ vp_none
  refine H_call HB_46 H fun t16_2 h H => ⟨(hskip rfl hnil), ?_⟩
  refine tkP rfl ?_; refine R_move (v := t16_2) rfl ⟨fun _ => trivial, ?_⟩
  refine tkP rfl ?_; refine R_ext H fun t17_2 H => ⟨fun _ => trivial, ?_⟩
  refine tkP rfl ?_; refine R_ext H fun t18_2 H => ⟨fun _ => trivial, ?_⟩
  refine tkP rfl ?_; refine R_assign (v := t17_2) rfl ⟨fun _ => trivial, ?_⟩
  refine tkP rfl ?_; refine R_assign (v := t18_2) rfl ⟨fun _ => trivial, ?_⟩
  refine vp_done ?_; refine WPc_seq' ?_; refine W_region (by kernel_rfl) ?_; refine vl_n ?_; refine H_of_R (R_move (v := t18_2) rfl ?_)
  refine vl_n ?_; refine H_of_R (R_assign (v := t18_2) rfl ?_)
  refine vl_e ?_; refine WPc_ret ?_; refine resH_of rfl ?_; exact H
/-! ### (*pub/tidwallbtree.BTreeG[impl.Item]).maxMut -/
def BTreeG_I_maxMut.j4 (s0 s1 s4 s6 : Value) (h : Heap) (K1 : List Value → Heap → Prop) (Q : Value → Heap → Prop) : Prop := nilck s6 fun t43 => fld 3 t43 fun t44 => load1 t44 h fun t45 => nilck t45 fun t46 => load1 t46 h fun t47 => nilck s6 fun t49 => fld 3 t49 fun t50 => load1 t50 h fun t51 => nilck t51 fun t52 => load1 t52 h fun t53 => lenV t53 fun t54 => arith (· - ·) t54 (.int .i64 1) fun t55 => idx 1 t47 t55 fun t56 => BTreeG_I_isoLoad.call #[s0, t56, s1] h fun t58 h => K1 [t58] h
def BTreeG_I_maxMut.l3.b (c0 c1 c4 s6 : Value) (h : Heap) (K1 : List Value → Heap → Prop) (Q : Value → Heap → Prop) : Prop := node_I_leaf.call #[s6] h fun t28 h => ifV t28 (nilck s6 fun t30 => fld 2 t30 fun t31 => load1 t31 h fun t32 => nilck s6 fun t34 => fld 2 t34 fun t35 => load1 t35 h fun t36 => lenV t36 fun t37 => arith (· - ·) t37 (.int .i64 1) fun t38 => idx 2 t32 t38 fun t39 => loadN 2 t39 h fun t40 => storeN 2 c4 t40 h fun h => loadN 2 c4 h fun r4 => Q (.tuple #[r4, (.bool true)]) h) (BTreeG_I_maxMut.j4 c0 c1 c4 s6 h K1 Q)
def BTreeG_I_maxMut.j2 (s0 s1 s4 : Value) (h : Heap) (Q : Value → Heap → Prop) : Prop := nilck s0 fun t23 => fld 2 t23 fun t24 => BTreeG_I_isoLoad.call #[s0, t24, s1] h fun t26 h => loopC (fun c s h K1 => BTreeG_I_maxMut.l3.b (c.getD 0 undef) (c.getD 1 undef) (c.getD 2 undef) (s.getD 0 undef) h K1 Q) [s0, s1, s4] [t26] h
def BTreeG_I_maxMut.j1 (s0 s1 s4 : Value) (h : Heap) (Q : Value → Heap → Prop) : Prop := nilck s0 fun t13 => fld 2 t13 fun t14 => load1 t14 h fun t15 => eqNilP t15 fun t16 => ifV t16 (nilck s0 fun t18 => fld 7 t18 fun t19 => loadN 2 t19 h fun t20 => storeN 2 s4 t20 h fun h => loadN 2 s4 h fun r4 => Q (.tuple #[r4, (.bool false)]) h) (BTreeG_I_maxMut.j2 s0 s1 s4 h Q)
def BTreeG_I_maxMut.sh (a0 a1 : Value) (h : Heap) (Q : Value → Heap → Prop) : Prop := alloc [(.int .i64 0), (.int .i64 0)] 30 h fun t4 h => BTreeG_I_lock.call #[a0, a1] h fun t9 h => ifV t9 (False) (BTreeG_I_maxMut.j1 a0 a1 t4 h Q)
theorem BTreeG_I_maxMut.body (a0 a1 : Value) (h : Heap) (Q : Value → Heap → Prop) (H : BTreeG_I_maxMut.sh a0 a1 h Q) : BTreeG_I_maxMut.call #[a0, a1] h Q := by
  refine callsH_of (args := [a0, a1]) Try.func60 rfl rfl ?_; unfold BTreeG_I_maxMut.sh at H; refine WPc_seq' ?_; refine W_region (by kernel_rfl) ?_; refine vl_n ?_; refine H_alloc TV_30 H fun t4 h H => ?_; refine vl_n ?_; refine H_of_R (R_assign (v := (.bool false)) rfl ?_)
  refine vl_e ?_; refine WPc_seq (fun e h => BTreeG_I_maxMut.j1 (e 0) (e 1) (e 4) h Q) ?_ (fun e h H => ?_)
  rotate_left
  · unfold BTreeG_I_maxMut.j1 at H
    refine WPc_seq (fun e h => BTreeG_I_maxMut.j2 (e 0) (e 1) (e 4) h Q) ?_ (fun e h H => ?_)
    rotate_left
    · unfold BTreeG_I_maxMut.j2 at H
      refine WPc_seq' ?_; refine W_region (by kernel_rfl) ?_; refine vl_n ?_; refine H_of_R (R_move (v := (e 0)) rfl ?_)
      refine vl_n ?_; refine H_of_R (R_move (v := (e 0)) rfl ?_)
      refine vl_n ?_; refine H_of_R (R_nil H fun t23 H => ?_)
      refine vl_n ?_; refine H_of_R (R_fld TF_117_2 H fun t24 H => ?_)
      refine vl_n ?_; refine H_of_R (R_move (v := (e 1)) rfl ?_)
      refine vl_n ?_; refine H_call HB_77 H fun t26 h H => ?_; refine vl_n ?_; refine H_of_R (R_assign (v := t26) rfl ?_)
      refine vl_e ?_; refine WPc_block ?_; refine loop_at (fun e => [e 6]) (fun e => [e 0, e 1, e 4]) H rfl rfl ?_; intro K1 e1 h H hin1
      replace H : BTreeG_I_maxMut.l3.b (e1 0) (e1 1) (e1 4) (e1 6) h K1 Q := H
      unfold BTreeG_I_maxMut.l3.b at H; clear hin1; refine WPc_block ?_; refine WPc_seq (fun e h => BTreeG_I_maxMut.j4 (e 0) (e 1) (e 4) (e 6) h K1 Q ∧ [e1 0, e1 1, e1 4] = [e 0, e 1, e 4]) ?_ (fun e h ⟨H, hq1⟩ => ?_)
      rotate_left
      · unfold BTreeG_I_maxMut.j4 at H
        refine W_drawn [0, 0, 2, 6, 14, 30, 62, 0, 128, 384, 896, 1920, 3968, 8064, 16256, 32766, 0, 131071, 262143] (.take 0 (.take 1 (.take 2 (.take 3 (.take 4 (.take 5 (.take 6 (.take 7 (.take 8 (.take 9 (.take 10 (.take 11 (.take 12 (.take 13 (.take 14 (.take 15 (.take 16 (.alt 17 (.take 18 .done) .none)))))))))))))))))) mixed (by kernel_rfl) ?_; refine tkP rfl ?_; refine R_move (v := (e 0)) rfl ⟨fun _ => trivial, ?_⟩
        refine tkP rfl ?_; refine R_move (v := (e 6)) rfl ⟨fun _ => trivial, ?_⟩
        refine tkP rfl ?_; refine R_nil H fun t43 H => ⟨fun _ => trivial, ?_⟩
        refine tkP rfl ?_; refine R_fld TF_129_3 H fun t44 H => ⟨fun _ => trivial, ?_⟩
        refine tkL rfl ?_; refine R_load1 T1_127 H fun at45 t45 hat45 _ H => ?_; refine tkP rfl ?_; refine R_nil H fun t46 H => ⟨fun _ => trivial, ?_⟩
        refine tkL rfl ?_; refine R_load1 T1_130 H fun at47 t47 hat47 _ H => ?_; refine tkP rfl ?_; refine R_move (v := (e 6)) rfl ⟨fun _ => trivial, ?_⟩
        refine tkP rfl ?_; refine R_nil H fun t49 H => ⟨fun _ => trivial, ?_⟩
        refine tkP rfl ?_; refine R_fld TF_129_3 H fun t50 H => ⟨fun _ => trivial, ?_⟩
        refine tkL rfl ?_; refine R_load1 T1_127 H fun at51 t51 hat51 _ H => ?_; refine tkP rfl ?_; refine R_nil H fun t52 H => ⟨fun _ => trivial, ?_⟩
        refine tkL rfl ?_; refine R_load1 T1_130 H fun at53 t53 hat53 _ H => ?_; refine tkP rfl ?_; refine R_len Try.underlying130 H fun t54 H => ⟨fun _ => trivial, ?_⟩
        refine tkP rfl ?_; refine R_sub H fun t55 H => ⟨fun _ => trivial, ?_⟩
        refine tkP rfl ?_; refine R_idx TE_130 H fun t56 H => ⟨fun _ => trivial, ?_⟩
        refine tkP rfl ?_; refine R_move (v := (e 1)) rfl ⟨fun _ => trivial, ?_⟩
        refine alt_n rfl ?_ vp_none
        refine H_call HB_77 H fun t58 h H => ⟨(hskip rfl (hskip rfl (hskip rfl (hskip rfl hnil)))), ?_⟩
        refine tkP rfl ?_; refine R_assign (v := t58) rfl ⟨fun _ => trivial, ?_⟩
        refine vp_done ?_; exact ⟨H, hq1⟩
      refine WPc_seq' ?_; refine W_region (by kernel_rfl) ?_; refine vl_n ?_; refine H_of_R (R_move (v := (e1 6)) rfl ?_)
      refine vl_n ?_; refine H_call HB_78 H fun t28 h H => ?_; refine vl_e ?_; obtain ⟨b, hc, H1, H2⟩ := H; refine WPc_cond hc (fun hh => ?_) (fun hh => ?_)
      · have H := H1 hh; clear H1 H2
        refine WPc_seq' ?_; refine W_drawn [0, 1, 3, 7, 0, 16, 48, 112, 240, 496, 1023, 2047, 4095, 8191] (.take 0 (.take 1 (.take 2 (.take 3 (.take 4 (.take 5 (.take 6 (.take 7 (.take 8 (.take 9 (.take 10 (.take 11 (.alt 12 (.take 13 .done) .none))))))))))))) mixed (by kernel_rfl) ?_; refine tkP rfl ?_; refine R_move (v := (e1 6)) rfl ⟨fun _ => trivial, ?_⟩
        refine tkP rfl ?_; refine R_nil H fun t30 H => ⟨fun _ => trivial, ?_⟩
        refine tkP rfl ?_; refine R_fld TF_129_2 H fun t31 H => ⟨fun _ => trivial, ?_⟩
        refine tkL rfl ?_; refine R_load1 T1_25 H fun at32 t32 hat32 _ H => ?_; refine tkP rfl ?_; refine R_move (v := (e1 6)) rfl ⟨fun _ => trivial, ?_⟩
        refine tkP rfl ?_; refine R_nil H fun t34 H => ⟨fun _ => trivial, ?_⟩
        refine tkP rfl ?_; refine R_fld TF_129_2 H fun t35 H => ⟨fun _ => trivial, ?_⟩
        refine tkL rfl ?_; refine R_load1 T1_25 H fun at36 t36 hat36 _ H => ?_; refine tkP rfl ?_; refine R_len Try.underlying25 H fun t37 H => ⟨fun _ => trivial, ?_⟩
        refine tkP rfl ?_; refine R_sub H fun t38 H => ⟨fun _ => trivial, ?_⟩
        refine tkP rfl ?_; refine R_idx TE_25 H fun t39 H => ⟨fun _ => trivial, ?_⟩
        refine tkL rfl ?_; refine R_loadN TN_30 H fun at40 xt40 hat40 _ H St40 hSt40 => ?_; refine alt_n rfl ?_ vp_none
        refine H_storeN TS_30 H fun h H => ⟨(hskip rfl (hskip rfl (hskip rfl hnil))), ?_⟩
        refine tkP rfl ?_; refine R_assign (v := (.bool true)) rfl ⟨fun _ => trivial, ?_⟩
        refine vp_done ?_; refine WPc_ret ?_; refine resH_of rfl ?_; refine resL_N TN_30 ?_; refine loadN_imp H fun r4 H => ?_; refine resL_t ?_; exact H
      · have H := H2 hh; clear H1 H2
        refine WPc_skip ?_; exact ⟨H, rfl⟩
    refine WPc_seq' ?_; refine W_region (by kernel_rfl) ?_; refine vl_n ?_; refine H_of_R (R_move (v := (e 0)) rfl ?_)
    refine vl_n ?_; refine H_of_R (R_nil H fun t13 H => ?_)
    refine vl_n ?_; refine H_of_R (R_fld TF_117_2 H fun t14 H => ?_)
    refine vl_n ?_; refine H_of_R (R_load1 T1_115 H fun _ t15 _ _ H => ?_)
    refine vl_n ?_; refine H_of_R (R_eqNilP Try.underlying115 rfl H fun t16 H => ?_)
    refine vl_e ?_; obtain ⟨b, hc, H1, H2⟩ := H; refine WPc_cond hc (fun hh => ?_) (fun hh => ?_)
    · have H := H1 hh; clear H1 H2
      refine WPc_seq' ?_; refine W_region (by kernel_rfl) ?_; refine vl_n ?_; refine H_of_R (R_move (v := (e 0)) rfl ?_)
      refine vl_n ?_; refine H_of_R (R_nil H fun t18 H => ?_)
      refine vl_n ?_; refine H_of_R (R_fld TF_117_7 H fun t19 H => ?_)
      refine vl_n ?_; refine H_of_R (R_loadN TN_30 H fun _ t20 _ _ H _ _ => ?_)
      refine vl_n ?_; refine H_storeN TS_30 H fun h H => ?_; refine vl_n ?_; refine H_of_R (R_assign (v := (.bool false)) rfl ?_)
      refine vl_e ?_; refine WPc_ret ?_; refine resH_of rfl ?_; refine resL_N TN_30 ?_; refine loadN_imp H fun r4 H => ?_; refine resL_t ?_; exact H
    · have H := H2 hh; clear H1 H2
      refine WPc_skip ?_; exact H
  refine WPc_seq' ?_; refine W_region (by kernel_rfl) ?_; refine vl_n ?_; refine H_of_R (R_move (v := a0) rfl ?_)
  refine vl_n ?_; refine H_of_R (R_move (v := a1) rfl ?_)
  refine vl_n ?_; refine H_call HB_72 H fun t9 h H => ?_; refine vl_e ?_; obtain ⟨b, hc, H1, H2⟩ := H; refine WPc_cond hc (fun hh => ?_) (fun hh => ?_)
  · have H := H1 hh; clear H1 H2
    refine W_region (by kernel_rfl) ?_; refine vl_n ?_; refine H_of_R (R_move (v := a0) rfl ?_)
    refine vl_n ?_; refine H_of_R (R_move (v := a1) rfl ?_)
    refine vl_n ?_; exact H.elim
  · have H := H2 hh; clear H1 H2
    refine WPc_skip ?_; exact H
/-! ### (*pub/tidwallbtree.BTreeG[impl.Item]).Max -/
def BTreeG_I_Max.sh (a0 : Value) (h : Heap) (Q : Value → Heap → Prop) : Prop := alloc [(.int .i64 0), (.int .i64 0)] 30 h fun t2 h => BTreeG_I_maxMut.call #[a0, (.bool false)] h fun t5 h => extr 0 t5 fun t6 => extr 1 t5 fun t7 => storeN 2 t2 t6 h fun h => loadN 2 t2 h fun r2 => Q (.tuple #[r2, t7]) h
theorem BTreeG_I_Max.body (a0 : Value) (h : Heap) (Q : Value → Heap → Prop) (H : BTreeG_I_Max.sh a0 h Q) : BTreeG_I_Max.call #[a0] h Q := by
  refine callsH_of (args := [a0]) Try.func48 rfl rfl ?_; unfold BTreeG_I_Max.sh at H; refine WPc_seq' ?_; refine W_region (by kernel_rfl) ?_; refine vl_n ?_; refine H_alloc TV_30 H fun t2 h H => ?_; refine vl_n ?_; refine H_of_R (R_assign (v := (.bool false)) rfl ?_)
  refine vl_e ?_; refine WPc_seq' ?_; refine W_region (by kernel_rfl) ?_; refine vl_n ?_; refine H_of_R (R_move (v := a0) rfl ?_)
  refine vl_n ?_; refine H_call HB_60 H fun t5 h H => ?_; refine vl_n ?_; refine H_of_R (R_ext H fun t6 H => ?_)
  refine vl_n ?_; refine H_of_R (R_ext H fun t7 H => ?_)
  refine vl_n ?_; refine H_storeN TS_30 H fun h H => ?_; refine vl_n ?_; refine H_of_R (R_assign (v := t7) rfl ?_)
  refine vl_e ?_; refine WPc_ret ?_; refine resH_of rfl ?_; refine resL_N TN_30 ?_; refine loadN_imp H fun r2 H => ?_; refine resL_t ?_; exact H
/-! ### impl.GMax -/
def i_GMax.sh (a0 a1 : Value) (h : Heap) (Q : Value → Heap → Prop) : Prop := box 34 a0 h fun t2 h => alloc [(.int .i64 0), (.int .i64 0), (.bool false)] 48 h fun t4 h => loadN 3 t2 h fun t5 => i_grow.call #[t5, a1] h fun t7 h => BTreeG_I_Max.call #[t7] h fun t8 h => extr 0 t8 fun t9 => extr 1 t8 fun t10 => i_found.call #[t9, t10] h fun t11 h => storeN 3 t4 t11 h fun h => loadN 3 t4 h fun r4 => Q r4 h
theorem i_GMax.body (a0 a1 : Value) (h : Heap) (Q : Value → Heap → Prop) (H : i_GMax.sh a0 a1 h Q) : i_GMax.call #[a0, a1] h Q := by
  refine callsH_of (args := [a0, a1]) Try.func23 rfl rfl ?_; unfold i_GMax.sh at H; refine WPc_seq' ?_; refine W_region (by kernel_rfl) ?_; refine vl_n ?_; refine H_box H fun t2 h H => ?_; refine vl_n ?_; refine H_alloc TV_48 H fun t4 h H => ?_; refine vl_e ?_; refine WPc_seq' ?_; refine W_region (by kernel_rfl) ?_; refine vl_n ?_; refine H_of_R (R_loadN TN_34 H fun _ t5 _ _ H _ _ => ?_)
  refine vl_n ?_; refine H_of_R (R_move (v := a1) rfl ?_)
  refine vl_n ?_; refine H_call HB_40 H fun t7 h H => ?_; refine vl_n ?_; refine H_call HB_48 H fun t8 h H => ?_; refine vl_n ?_; refine H_of_R (R_ext H fun t9 H => ?_)
  refine vl_n ?_; refine H_of_R (R_ext H fun t10 H => ?_)
  refine vl_n ?_; refine H_call HB_47 H fun t11 h H => ?_; refine vl_n ?_; refine H_storeN TS_48 H fun h H => ?_; refine vl_e ?_; refine WPc_ret ?_; refine resH_of rfl ?_; refine resL_N TN_48 ?_; refine loadN_imp H fun r4 H => ?_; exact H
/-! ### spec.Outline -/
def s_Outline.j1 (s4 s5 : Value) (h : Heap) (Q : Value → Heap → Prop) : Prop := loadN 512 s5 h fun t36 => storeN 512 s4 t36 h fun h => loadN 512 s4 h fun r4 => Q r4 h
def s_Outline.j4 (s3 s4 s5 s9 s10 s11 : Value) (h : Heap) (K1 : List Value → Heap → Prop) (Q : Value → Heap → Prop) : Prop := arith (· + ·) s11 (.int .i64 1) fun t35 => K1 [t35] h
def s_Outline.j7 (s3 s4 s5 s6 s7 s8 s9 s10 s11 : Value) (h : Heap) (K1 : List Value → Heap → Prop) (K2 : List Value → Heap → Prop) (Q : Value → Heap → Prop) : Prop := arith (· + ·) s8 (.int .i64 1) fun t24 => K2 [t24] h
def s_Outline.j6 (s3 s4 s5 s6 s7 s8 s9 s10 s11 : Value) (h : Heap) (K1 : List Value → Heap → Prop) (K2 : List Value → Heap → Prop) (Q : Value → Heap → Prop) : Prop := idxA 512 1 s5 s8 fun t27 => load1 t27 h fun t28 => idxA 30 1 s3 s6 fun t30 => load1 t30 h fun t31 => cvI .i64 t31 fun t32 => max2V t28 t32 fun t33 => idxA 512 1 s5 s8 fun t34 => store1 t34 t33 h fun h => s_Outline.j7 s3 s4 s5 s6 s7 s8 s9 s10 s11 h K1 K2 Q
def s_Outline.l5.b (c3 c4 c5 c6 c7 c9 c10 c11 s8 : Value) (h : Heap) (K1 : List Value → Heap → Prop) (K2 : List Value → Heap → Prop) (Q : Value → Heap → Prop) : Prop := loadN 2 c7 h fun t20 => s_Interval_End.call #[t20] h fun t21 h => cmpI (fun a b => decide (a < b)) s8 t21 fun t22 => ifV t22 (s_Outline.j6 c3 c4 c5 c6 c7 s8 c9 c10 c11 h K1 K2 Q) (s_Outline.j4 c3 c4 c5 c9 c10 c11 h K1 Q)
def s_Outline.j3 (s3 s4 s5 s9 s10 s11 : Value) (h : Heap) (K1 : List Value → Heap → Prop) (Q : Value → Heap → Prop) : Prop := idx 2 s9 s11 fun t14 => loadN 2 t14 h fun t15 => alloc [(.int .u8 0), (.int .u8 0)] 63 h fun t7 h => storeN 2 t7 t15 h fun h => fld 0 t7 fun t16 => load1 t16 h fun t17 => cvI .i64 t17 fun t18 => loopC (fun c s h K2 => s_Outline.l5.b (c.getD 0 undef) (c.getD 1 undef) (c.getD 2 undef) (c.getD 3 undef) (c.getD 4 undef) (c.getD 5 undef) (c.getD 6 undef) (c.getD 7 undef) (s.getD 0 undef) h K1 K2 Q) [s3, s4, s5, s11, t7, s9, s10, s11] [t18] h
def s_Outline.l2.b (c3 c4 c5 c9 c10 s11 : Value) (h : Heap) (K1 : List Value → Heap → Prop) (Q : Value → Heap → Prop) : Prop := cmpI (fun a b => decide (a < b)) s11 c10 fun t12 => ifV t12 (s_Outline.j3 c3 c4 c5 c9 c10 s11 h K1 Q) (s_Outline.j1 c4 c5 h Q)
def s_Outline.sh (a0 a1 : Value) (h : Heap) (Q : Value → Heap → Prop) : Prop := box 41 a1 h fun t3 h => alloc (List.replicate 512 (.int .i64 0)) 42 h fun t4 h => alloc (List.replicate 512 (.int .i64 0)) 42 h fun t5 h => lenV a0 fun t10 => loopC (fun c s h K1 => s_Outline.l2.b (c.getD 0 undef) (c.getD 1 undef) (c.getD 2 undef) (c.getD 3 undef) (c.getD 4 undef) (s.getD 0 undef) h K1 Q) [t3, t4, t5, a0, t10] [(.int .i64 0)] h
theorem s_Outline.body (a0 a1 : Value) (h : Heap) (Q : Value → Heap → Prop) (H : s_Outline.sh a0 a1 h Q) : s_Outline.call #[a0, a1] h Q := by
  refine callsH_of (args := [a0, a1]) Try.func24 rfl rfl ?_; unfold s_Outline.sh at H; refine WPc_seq' ?_; refine W_region (by kernel_rfl) ?_; refine vl_n ?_; refine H_box H fun t3 h H => ?_; refine vl_n ?_; refine H_alloc TV_42 H fun t4 h H => ?_; refine vl_e ?_; refine WPc_seq' ?_; refine W_region (by kernel_rfl) ?_; refine vl_n ?_; refine H_alloc TV_42 H fun t5 h H => ?_; refine vl_e ?_; refine WPc_seq (fun e h => s_Outline.j1 (e 4) (e 5) h Q) ?_ (fun e h H => ?_)
  rotate_left
  · unfold s_Outline.j1 at H
    refine WPc_seq' ?_; refine W_region (by kernel_rfl) ?_; refine vl_n ?_; refine H_of_R (R_loadN TN_42 H fun _ t36 _ _ H _ _ => ?_)
    refine vl_n ?_; refine H_storeN TS_42 H fun h H => ?_; refine vl_e ?_; refine WPc_ret ?_; refine resH_of rfl ?_; refine resL_N TN_42 ?_; refine loadN_imp H fun r4 H => ?_; exact H
  refine WPc_seq' ?_; refine W_region (by kernel_rfl) ?_; refine vl_n ?_; refine H_of_R (R_move (v := a0) rfl ?_)
  refine vl_n ?_; refine H_of_R (R_len Try.underlying40 H fun t10 H => ?_)
  refine vl_n ?_; refine H_of_R (R_move (v := (.int .i64 0)) rfl ?_)
  refine vl_e ?_; refine WPc_block ?_; refine loop_at (fun e => [e 11]) (fun e => [e 3, e 4, e 5, e 9, e 10]) H rfl rfl ?_; intro K1 e1 h H hin1
  replace H : s_Outline.l2.b (e1 3) (e1 4) (e1 5) (e1 9) (e1 10) (e1 11) h K1 Q := H
  unfold s_Outline.l2.b at H; clear hin1; refine WPc_seq' ?_; refine W_region (by kernel_rfl) ?_; refine vl_n ?_; refine H_of_R (R_lss H fun t12 H => ?_)
  refine vl_e ?_; refine WPc_seq (fun e h => s_Outline.j3 (e 3) (e 4) (e 5) (e 9) (e 10) (e 11) h K1 Q ∧ [e1 3, e1 4, e1 5, e1 9, e1 10] = [e 3, e 4, e 5, e 9, e 10]) ?_ (fun e h ⟨H, hq1⟩ => ?_)
  rotate_left
  · unfold s_Outline.j3 at H
    refine WPc_seq (fun e h => s_Outline.j4 (e 3) (e 4) (e 5) (e 9) (e 10) (e 11) h K1 Q ∧ [e1 3, e1 4, e1 5, e1 9, e1 10] = [e 3, e 4, e 5, e 9, e 10]) ?_ (fun e h ⟨H, hq1⟩ => ?_)
    rotate_left
    · unfold s_Outline.j4 at H
      refine W_region (by kernel_rfl) ?_; refine vl_n ?_; refine H_of_R (R_add H fun t35 H => ?_)
      refine vl_n ?_; refine H_of_R (R_move (v := t35) rfl ?_)
      refine vl_e ?_; exact ⟨H, hq1⟩
    refine WPc_block ?_; refine WPc_seq' ?_; refine W_region (by kernel_rfl) ?_; refine vl_n ?_; refine H_of_R (R_move (v := (e 11)) rfl ?_)
    refine vl_n ?_; refine H_of_R (R_idx TE_40 H fun t14 H => ?_)
    refine vl_n ?_; refine H_of_R (R_loadN TN_63 H fun _ t15 _ _ H _ _ => ?_)
    refine vl_n ?_; refine H_alloc TV_63 H fun t7 h H => ?_; refine vl_n ?_; refine H_of_R (R_assign (v := (e 11)) rfl ?_)
    refine vl_n ?_; refine H_storeN TS_63 H fun h H => ?_; refine vl_e ?_; refine WPc_seq' ?_; refine W_region (by kernel_rfl) ?_; refine vl_n ?_; refine H_of_R (R_fld TF_63_0 H fun t16 H => ?_)
    refine vl_n ?_; refine H_of_R (R_load1 T1_5 H fun _ t17 _ _ H => ?_)
    refine vl_n ?_; refine H_of_R (R_cvI Try.underlying5 Try.underlying3 H fun t18 H => ?_)
    refine vl_n ?_; refine H_of_R (R_assign (v := t18) rfl ?_)
    refine vl_e ?_; refine WPc_block ?_; refine loop_at (fun e => [e 8]) (fun e => [e 3, e 4, e 5, e 6, e 7, e 9, e 10, e 11]) H rfl rfl ?_; intro K2 e2 h H hin2
    replace H : s_Outline.l5.b (e2 3) (e2 4) (e2 5) (e2 6) (e2 7) (e2 9) (e2 10) (e2 11) (e2 8) h K1 K2 Q := H
    unfold s_Outline.l5.b at H
    have hz1 : [e1 3, e1 4, e1 5, e1 9, e1 10] = [e2 3, e2 4, e2 5, e2 9, e2 10] := Eq.trans hq1 (congrArg (fun l : List Value => [l.getD 0 undef, l.getD 1 undef, l.getD 2 undef, l.getD 5 undef, l.getD 6 undef]) hin2)
    clear hin2; refine WPc_seq (fun e h => s_Outline.j6 (e 3) (e 4) (e 5) (e 6) (e 7) (e 8) (e 9) (e 10) (e 11) h K1 K2 Q ∧ [e1 3, e1 4, e1 5, e1 9, e1 10] = [e 3, e 4, e 5, e 9, e 10] ∧ [e2 3, e2 4, e2 5, e2 6, e2 7, e2 9, e2 10, e2 11] = [e 3, e 4, e 5, e 6, e 7, e 9, e 10, e 11]) ?_ (fun e h ⟨H, hq1, hq2⟩ => ?_)
    rotate_left
    · unfold s_Outline.j6 at H
      refine WPc_seq (fun e h => s_Outline.j7 (e 3) (e 4) (e 5) (e 6) (e 7) (e 8) (e 9) (e 10) (e 11) h K1 K2 Q ∧ [e1 3, e1 4, e1 5, e1 9, e1 10] = [e 3, e 4, e 5, e 9, e 10] ∧ [e2 3, e2 4, e2 5, e2 6, e2 7, e2 9, e2 10, e2 11] = [e 3, e 4, e 5, e 6, e 7, e 9, e 10, e 11]) ?_ (fun e h ⟨H, hq1, hq2⟩ => ?_)
      rotate_left
      · unfold s_Outline.j7 at H
        refine W_region (by kernel_rfl) ?_; refine vl_n ?_; refine H_of_R (R_move (v := (e 8)) rfl ?_)
        refine vl_n ?_; refine H_of_R (R_add H fun t24 H => ?_)
        refine vl_n ?_; refine H_of_R (R_assign (v := t24) rfl ?_)
        refine vl_e ?_; exact ⟨H, hq2⟩
      refine WPc_block ?_; refine W_drawn [0, 0, 2, 6, 0, 16, 48, 112, 254, 511, 1023] (.take 0 (.take 1 (.take 2 (.take 3 (.take 4 (.take 5 (.take 6 (.take 7 (.take 8 (.take 9 (.alt 10 .done .none))))))))))) mixed (by kernel_rfl) ?_; refine tkP rfl ?_; refine R_move (v := (e 8)) rfl ⟨fun _ => trivial, ?_⟩
      refine tkP rfl ?_; refine R_move (v := (e 8)) rfl ⟨fun _ => trivial, ?_⟩
      refine tkP rfl ?_; refine R_idxA TA_42 H fun t27 H => ⟨fun _ => trivial, ?_⟩
      refine tkL rfl ?_; refine R_load1 T1_3 H fun at28 t28 hat28 _ H => ?_; refine tkP rfl ?_; refine R_move (v := (e 6)) rfl ⟨fun _ => trivial, ?_⟩
      refine tkP rfl ?_; refine R_idxA TA_41 H fun t30 H => ⟨fun _ => trivial, ?_⟩
      refine tkL rfl ?_; refine R_load1 T1_5 H fun at31 t31 hat31 _ H => ?_; refine tkP rfl ?_; refine R_cvI Try.underlying5 Try.underlying3 H fun t32 H => ⟨fun _ => trivial, ?_⟩
      refine tkP rfl ?_; refine R_max H fun t33 H => ⟨fun _ => trivial, ?_⟩
      refine tkP rfl ?_; refine R_idxA TA_42 H fun t34 H => ⟨fun _ => trivial, ?_⟩
      refine alt_n rfl ?_ vp_none
      refine H_store1 TS_3 H fun h H => ⟨(hskip rfl (hskip rfl hnil)), ?_⟩
      refine vp_done ?_; exact ⟨H, hq1, hq2⟩
    refine WPc_seq' ?_; refine W_region (by kernel_rfl) ?_; refine vl_n ?_; refine H_of_R (R_move (v := (e2 8)) rfl ?_)
    refine vl_n ?_; refine H_of_R (R_loadN TN_63 H fun _ t20 _ _ H _ _ => ?_)
    refine vl_n ?_; refine H_call HB_44 H fun t21 h H => ?_; refine vl_n ?_; refine H_of_R (R_lss H fun t22 H => ?_)
    refine vl_e ?_; obtain ⟨b, hc, H1, H2⟩ := H; refine WPc_cond hc (fun hh => ?_) (fun hh => ?_)
    · have H := H1 hh; clear H1 H2
      refine WPc_skip ?_; exact ⟨H, hz1, rfl⟩
    · have H := H2 hh; clear H1 H2
      refine WPc_exit ?_; exact ⟨H, hz1⟩
  obtain ⟨b, hc, H1, H2⟩ := H; refine WPc_cond hc (fun hh => ?_) (fun hh => ?_)
  · have H := H1 hh; clear H1 H2
    refine WPc_skip ?_; exact ⟨H, rfl⟩
  · have H := H2 hh; clear H1 H2
    refine WPc_exit ?_; exact H
end Go.Proofs.Ythpmeccnddchpaa
end
section
namespace Go.Proofs.Ythpmeccnddchpaa
open Go.Hp
set_option maxRecDepth 100000
set_option maxHeartbeats 8000000
/-! ### laws.FnSkyline -/
def l_FnSkyline.j3 (s1 s5 s9 s11 : Value) (h : Heap) (Q : Value → Heap → Prop) : Prop := cmpI (fun a b => a == b) s11 (.int .i64 0) fun t88 => br t88 true (loadN 512 s9 h fun t90 => loadN 30 s5 h fun t92 => s_Outline.call #[s1, t92] h fun t93 h => stillN 512 s9 t90 h ∧ eqArr 512 .i64 t90 t93 fun t94 => br t94 true (l_alive.call #[] h fun t97 h => Q t97 h) (Q (.bool false) h)) (Q (.bool false) h)
def l_FnSkyline.j6 (s1 s5 s7 s8 s9 s10 s11 s35 s36 s37 : Value) (h : Heap) (K1 : List Value → Heap → Prop) (Q : Value → Heap → Prop) : Prop := arith (· + ·) s37 (.int .i64 1) fun t86 => K1 [s8, s10, s11, t86] h
def l_FnSkyline.j8 (s1 s5 s7 s8 s9 s14 s35 s36 s37 : Value) (h : Heap) (K1 : List Value → Heap → Prop) (Q : Value → Heap → Prop) : Prop := loadN 3 s7 h fun t78 => i_GMax.call #[t78, s8] h fun t80 h => alloc [(.int .i64 0), (.int .i64 0), (.bool false)] 48 h fun t18 h => storeN 3 t18 t80 h fun h => fld 0 t18 fun t82 => fld 0 t82 fun t83 => load1 t83 h fun t84 => shrV t84 (.int .u64 6) fun t85 => l_FnSkyline.j6 s1 s5 s7 s8 s9 s14 t85 s35 s36 s37 h K1 Q
def l_FnSkyline.j7 (s1 s5 s7 s8 s9 s13 s14 s35 s36 s37 : Value) (h : Heap) (K1 : List Value → Heap → Prop) (Q : Value → Heap → Prop) : Prop := fld 1 s13 fun t55 => load1 t55 h fun t56 => s_Modulo.call #[t56, (.int .i64 64)] h fun t57 h => remi t57 (.int .i64 30) fun t58 => idxA 30 1 s5 t58 fun t60 => load1 t60 h fun t61 => cvI .i64 t61 fun t62 => shlV t62 (.int .u64 6) fun t63 => arith (· + ·) t63 t58 fun t65 => fld 1 s13 fun t66 => load1 t66 h fun t67 => cmpI (fun a b => decide (a < b)) t67 (.int .i64 64) fun t68 => ifV t68 (loadN 3 s7 h fun t69 => l_without.call #[t69, s8, t65] h fun t72 h => l_FnSkyline.j8 s1 s5 s7 t72 s9 s14 s35 s36 s37 h K1 Q) (loadN 3 s7 h fun t73 => buildV [(.int .i64 0), (.int .i64 0)] [(0, 1, t65)] fun t76 => l_with.call #[t73, s8, t76] h fun t77 h => l_FnSkyline.j8 s1 s5 s7 t77 s9 s14 s35 s36 s37 h K1 Q)
def l_FnSkyline.j11 (s1 s5 s7 s8 s9 s11 s13 s14 s15 s35 s36 s37 : Value) (h : Heap) (K1 : List Value → Heap → Prop) (K2 : List Value → Heap → Prop) (Q : Value → Heap → Prop) : Prop := arith (· + ·) s15 (.int .i64 1) fun t51 => K2 [t51] h
def l_FnSkyline.j10 (s1 s5 s7 s8 s9 s11 s13 s14 s15 s35 s36 s37 : Value) (h : Heap) (K1 : List Value → Heap → Prop) (K2 : List Value → Heap → Prop) (Q : Value → Heap → Prop) : Prop := idxA 512 1 s9 s15 fun t54 => store1 t54 s11 h fun h => l_FnSkyline.j11 s1 s5 s7 s8 s9 s11 s13 s14 s15 s35 s36 s37 h K1 K2 Q
def l_FnSkyline.l9.b (c1 c5 c7 c8 c9 c11 c13 c14 c35 c36 c37 s15 : Value) (h : Heap) (K1 : List Value → Heap → Prop) (K2 : List Value → Heap → Prop) (Q : Value → Heap → Prop) : Prop := min2V (.int .i64 512) c14 fun t48 => cmpI (fun a b => decide (a < b)) s15 t48 fun t49 => ifV t49 (l_FnSkyline.j10 c1 c5 c7 c8 c9 c11 c13 c14 s15 c35 c36 c37 h K1 K2 Q) (l_FnSkyline.j7 c1 c5 c7 c8 c9 c13 c14 c35 c36 c37 h K1 Q)
def l_FnSkyline.j5 (s1 s5 s7 s8 s9 s10 s11 s35 s36 s37 : Value) (h : Heap) (K1 : List Value → Heap → Prop) (Q : Value → Heap → Prop) : Prop := idx 2 s35 s37 fun t39 => loadN 2 t39 h fun t40 => alloc [(.int .i64 0), (.int .i64 0)] 30 h fun t13 h => storeN 2 t13 t40 h fun h => fld 0 t13 fun t41 => load1 t41 h fun t42 => shrV t42 (.int .u64 7) fun t43 => max2V (.int .i64 0) s10 fun t45 => loopC (fun c s h K2 => l_FnSkyline.l9.b (c.getD 0 undef) (c.getD 1 undef) (c.getD 2 undef) (c.getD 3 undef) (c.getD 4 undef) (c.getD 5 undef) (c.getD 6 undef) (c.getD 7 undef) (c.getD 8 undef) (c.getD 9 undef) (c.getD 10 undef) (s.getD 0 undef) h K1 K2 Q) [s1, s5, s7, s8, s9, s11, t13, t43, s35, s36, s37] [t45] h
def l_FnSkyline.l4.b (c1 c5 c7 c9 c35 c36 s8 s10 s11 s37 : Value) (h : Heap) (K1 : List Value → Heap → Prop) (Q : Value → Heap → Prop) : Prop := cmpI (fun a b => decide (a < b)) s37 c36 fun t38 => ifV t38 (l_FnSkyline.j5 c1 c5 c7 s8 c9 s10 s11 c35 c36 s37 h K1 Q) (l_FnSkyline.j3 c1 c5 c9 s11 h Q)
def l_FnSkyline.j2 (s0 s1 s5 : Value) (h : Heap) (Q : Value → Heap → Prop) : Prop := l_byKeys.call #[s0] h fun t32 h => alloc [(.slice none 0 0), (.int .i64 0), (.bool false)] 34 h fun t7 h => storeN 3 t7 t32 h fun h => alloc (List.replicate 512 (.int .i64 0)) 42 h fun t9 h => loadN 3 t7 h fun t33 => l_borders.call #[t33, s1] h fun t35 h => lenV t35 fun t36 => loopC (fun c s h K1 => l_FnSkyline.l4.b (c.getD 0 undef) (c.getD 1 undef) (c.getD 2 undef) (c.getD 3 undef) (c.getD 4 undef) (c.getD 5 undef) (s.getD 0 undef) (s.getD 1 undef) (s.getD 2 undef) (s.getD 3 undef) h K1 Q) [s1, s5, t7, t9, t35, t36] [(.slice none 0 0), (.int .i64 0), (.int .i64 0), (.int .i64 0)] h
def l_FnSkyline.j1 (s0 s1 s5 : Value) (h : Heap) (Q : Value → Heap → Prop) : Prop := s_Fits.call #[s0] h fun t23 h => notV t23 fun t24 => br t24 false (lenV s1 fun t27 => cmpI (fun a b => decide (a > b)) t27 (.int .i64 30) fun t28 => ifV t28 (l_alive.call #[] h fun t30 h => Q t30 h) (l_FnSkyline.j2 s0 s1 s5 h Q)) (l_alive.call #[] h fun t30_2 h => Q t30_2 h)
def l_FnSkyline.sh (a0 a1 a2 : Value) (h : Heap) (Q : Value → Heap → Prop) : Prop := box 41 a2 h fun t5 h => lenV a1 fun t20 => cmpI (fun a b => decide (a > b)) t20 (.int .i64 2147483647) fun t21 => ifV t21 (Q (.bool true) h) (l_FnSkyline.j1 a0 a1 t5 h Q)
theorem l_FnSkyline.body (a0 a1 a2 : Value) (h : Heap) (Q : Value → Heap → Prop) (H : l_FnSkyline.sh a0 a1 a2 h Q) : l_FnSkyline.call #[a0, a1, a2] h Q := by
  refine callsH_of (args := [a0, a1, a2]) Try.func4 rfl rfl ?_; unfold l_FnSkyline.sh at H; refine WPc_seq' ?_; refine W_region (by kernel_rfl) ?_; refine vl_n ?_; refine H_box H fun t5 h H => ?_; refine vl_n ?_; refine H_of_R (R_assign (v := (.bool false)) rfl ?_)
  refine vl_e ?_; refine WPc_seq (fun e h => l_FnSkyline.j1 (e 0) (e 1) (e 5) h Q) ?_ (fun e h H => ?_)
  rotate_left
  · unfold l_FnSkyline.j1 at H
    refine WPc_seq (fun e h => l_FnSkyline.j2 (e 0) (e 1) (e 5) h Q) ?_ (fun e h H => ?_)
    rotate_left
    · unfold l_FnSkyline.j2 at H
      refine WPc_seq' ?_; refine W_region (by kernel_rfl) ?_; refine vl_n ?_; refine H_of_R (R_move (v := (e 0)) rfl ?_)
      refine vl_n ?_; refine H_call HB_14 H fun t32 h H => ?_; refine vl_n ?_; refine H_alloc TV_34 H fun t7 h H => ?_; refine vl_n ?_; refine H_storeN TS_34 H fun h H => ?_; refine vl_e ?_; refine WPc_seq' ?_; refine W_region (by kernel_rfl) ?_; refine vl_n ?_; refine H_of_R (R_assign (v := (.slice none 0 0)) rfl ?_)
      refine vl_e ?_; refine WPc_seq' ?_; refine W_region (by kernel_rfl) ?_; refine vl_n ?_; refine H_alloc TV_42 H fun t9 h H => ?_; refine vl_e ?_; refine WPc_seq' ?_; refine W_region (by kernel_rfl) ?_; refine vl_n ?_; refine H_of_R (R_assign (v := (.int .i64 0)) rfl ?_)
      refine vl_n ?_; refine H_of_R (R_assign (v := (.int .i64 0)) rfl ?_)
      refine vl_e ?_; refine WPc_seq (fun e h => l_FnSkyline.j3 (e 1) (e 5) (e 9) (e 11) h Q) ?_ (fun e h H => ?_)
      rotate_left
      · unfold l_FnSkyline.j3 at H
        refine WPc_seq' ?_; refine W_drawn [0, 1, 3, 7, 7, 7, 55, 127, 255, 511, 1023, 2047, 4095] (.take 0 (.take 1 (.take 2 (.take 3 (.take 4 (.take 5 (.alt 6 (.take 7 (.take 8 (.take 9 (.alt 10 (.take 11 (.take 12 .done)) .none)))) .none))))))) mixed (by kernel_rfl) ?_; refine tkP rfl ?_; refine R_move (v := (e 11)) rfl ⟨fun _ => trivial, ?_⟩
        refine tkP rfl ?_; refine R_eqI H fun t88 H => ⟨fun _ => trivial, ?_⟩
        refine tkP rfl ?_; refine R_move (v := t88) rfl ⟨fun _ => trivial, ?_⟩
        obtain ⟨b, hb, H1, H2⟩ := H
        cases b
        · have H := H2 rfl; clear H1 H2
          refine tk_s rfl rfl (nbT hb) ?_; refine tk_s rfl rfl (nbT hb) ?_; refine tk_s rfl rfl (nbT hb) ?_; refine alt_s rfl rfl (nbT hb) ?_ vp_none
          refine tk_s rfl rfl (nbT hb) ?_; refine tkP rfl ?_; refine R_pickC (v := (.bool false)) false hb rfl ⟨fun _ => trivial, ?_⟩
          refine tkP rfl ?_; refine R_move (v := (.bool false)) rfl ⟨fun _ => trivial, ?_⟩
          refine alt_s rfl rfl (nbT rfl) ?_ vp_none
          refine tkP rfl ?_; refine R_pickC (v := (.bool false)) false rfl rfl ⟨fun _ => trivial, ?_⟩
          refine tkP rfl ?_; refine R_assign (v := (.bool false)) rfl ⟨fun _ => trivial, ?_⟩
          refine vp_done ?_; refine WPc_ret ?_; refine resH_of rfl ?_; exact H
        · have H := H1 rfl; clear H1 H2
          refine tkLy rfl rfl hb ?_; refine R_loadN TN_42 H fun at90 xt90 hat90 _ H St90 hSt90 => ?_; refine tkPy rfl rfl hb ?_; refine R_move (v := (e 1)) rfl ⟨fun _ => trivial, ?_⟩
          refine tkLy rfl rfl hb ?_; refine R_loadN TN_41 H fun at92 xt92 hat92 _ H St92 hSt92 => ?_; refine alt_y rfl rfl hb ?_ vp_none
          refine H_call HB_24 H fun t93 h ⟨S, H⟩ => ⟨(hskip rfl (hcons rfl (hSt90 _ (still_N S hat90 rfl)) hnil)), ?_⟩
          refine tkPy rfl rfl hb ?_; refine R_eqArr (by kernel_rfl) Try.underlying42 Try.underlying3 Try.type3 rfl H fun t94 H => ⟨fun _ => trivial, ?_⟩
          refine tkP rfl ?_; refine R_pickC (v := t94) true hb rfl ⟨fun _ => trivial, ?_⟩
          refine tkP rfl ?_; refine R_move (v := t94) rfl ⟨fun _ => trivial, ?_⟩
          obtain ⟨b_2, hb_2, H1, H2⟩ := H
          cases b_2
          · have H := H2 rfl; clear H1 H2
            refine alt_s rfl rfl (nbT hb_2) ?_ vp_none
            refine tkP rfl ?_; refine R_pickC (v := (.bool false)) false hb_2 rfl ⟨fun _ => trivial, ?_⟩
            refine tkP rfl ?_; refine R_assign (v := (.bool false)) rfl ⟨fun _ => trivial, ?_⟩
            refine vp_done ?_; refine WPc_ret ?_; refine resH_of rfl ?_; exact H
          · have H := H1 rfl; clear H1 H2
            refine alt_y rfl rfl hb_2 ?_ vp_none
            refine H_call HB_12 H fun t97 h H => ⟨(hskip rfl hnil), ?_⟩
            refine tkP rfl ?_; refine R_pickC (v := t97) true hb_2 rfl ⟨fun _ => trivial, ?_⟩
            refine tkP rfl ?_; refine R_assign (v := t97) rfl ⟨fun _ => trivial, ?_⟩
            refine vp_done ?_; refine WPc_ret ?_; refine resH_of rfl ?_; exact H
      refine WPc_seq' ?_; refine W_region (by kernel_rfl) ?_; refine vl_n ?_; refine H_of_R (R_loadN TN_34 H fun _ t33 _ _ H _ _ => ?_)
      refine vl_n ?_; refine H_of_R (R_move (v := (e 1)) rfl ?_)
      refine vl_n ?_; refine H_call HB_19 H fun t35 h H => ?_; refine vl_n ?_; refine H_of_R (R_len Try.underlying25 H fun t36 H => ?_)
      refine vl_n ?_; refine H_of_R (R_move (v := (.int .i64 0)) rfl ?_)
      refine vl_e ?_; refine WPc_block ?_; refine loop_at (fun e => [e 8, e 10, e 11, e 37]) (fun e => [e 1, e 5, e 7, e 9, e 35, e 36]) H rfl rfl ?_; intro K1 e1 h H hin1
      replace H : l_FnSkyline.l4.b (e1 1) (e1 5) (e1 7) (e1 9) (e1 35) (e1 36) (e1 8) (e1 10) (e1 11) (e1 37) h K1 Q := H
      unfold l_FnSkyline.l4.b at H; clear hin1; refine WPc_seq' ?_; refine W_region (by kernel_rfl) ?_; refine vl_n ?_; refine H_of_R (R_lss H fun t38 H => ?_)
      refine vl_e ?_; refine WPc_seq (fun e h => l_FnSkyline.j5 (e 1) (e 5) (e 7) (e 8) (e 9) (e 10) (e 11) (e 35) (e 36) (e 37) h K1 Q ∧ [e1 1, e1 5, e1 7, e1 9, e1 35, e1 36] = [e 1, e 5, e 7, e 9, e 35, e 36]) ?_ (fun e h ⟨H, hq1⟩ => ?_)
      rotate_left
      · unfold l_FnSkyline.j5 at H
        refine WPc_seq (fun e h => l_FnSkyline.j6 (e 1) (e 5) (e 7) (e 8) (e 9) (e 10) (e 11) (e 35) (e 36) (e 37) h K1 Q ∧ [e1 1, e1 5, e1 7, e1 9, e1 35, e1 36] = [e 1, e 5, e 7, e 9, e 35, e 36]) ?_ (fun e h ⟨H, hq1⟩ => ?_)
        rotate_left
        · unfold l_FnSkyline.j6 at H
          refine W_region (by kernel_rfl) ?_; refine vl_n ?_; refine H_of_R (R_add H fun t86 H => ?_)
          refine vl_n ?_; refine H_of_R (R_move (v := t86) rfl ?_)
          refine vl_e ?_; exact ⟨H, hq1⟩
        refine WPc_block ?_; refine WPc_seq' ?_; refine W_region (by kernel_rfl) ?_; refine vl_n ?_; refine H_of_R (R_idx TE_25 H fun t39 H => ?_)
        refine vl_n ?_; refine H_of_R (R_loadN TN_30 H fun _ t40 _ _ H _ _ => ?_)
        refine vl_n ?_; refine H_alloc TV_30 H fun t13 h H => ?_; refine vl_n ?_; refine H_storeN TS_30 H fun h H => ?_; refine vl_e ?_; refine WPc_seq' ?_; refine W_region (by kernel_rfl) ?_; refine vl_n ?_; refine H_of_R (R_fld TF_30_0 H fun t41 H => ?_)
        refine vl_n ?_; refine H_of_R (R_load1 T1_3 H fun _ t42 _ _ H => ?_)
        refine vl_n ?_; refine H_of_R (R_shr H fun t43 H => ?_)
        refine vl_n ?_; refine H_of_R (R_assign (v := t43) rfl ?_)
        refine vl_e ?_; refine WPc_seq (fun e h => l_FnSkyline.j7 (e 1) (e 5) (e 7) (e 8) (e 9) (e 13) (e 14) (e 35) (e 36) (e 37) h K1 Q ∧ [e1 1, e1 5, e1 7, e1 9, e1 35, e1 36] = [e 1, e 5, e 7, e 9, e 35, e 36]) ?_ (fun e h ⟨H, hq1⟩ => ?_)
        rotate_left
        · unfold l_FnSkyline.j7 at H
          refine WPc_seq' ?_; refine W_region (by kernel_rfl) ?_; refine vl_n ?_; refine H_of_R (R_fld TF_30_1 H fun t55 H => ?_)
          refine vl_n ?_; refine H_of_R (R_load1 T1_3 H fun _ t56 _ _ H => ?_)
          refine vl_n ?_; refine H_call HB_20 H fun t57 h H => ?_; refine vl_n ?_; refine H_of_R (R_rem H fun t58 H => ?_)
          refine vl_n ?_; refine H_of_R (R_assign (v := t58) rfl ?_)
          refine vl_e ?_; refine WPc_seq' ?_; refine W_region (by kernel_rfl) ?_; refine vl_n ?_; refine H_of_R (R_move (v := t58) rfl ?_)
          refine vl_n ?_; refine H_of_R (R_idxA TA_41 H fun t60 H => ?_)
          refine vl_n ?_; refine H_of_R (R_load1 T1_5 H fun _ t61 _ _ H => ?_)
          refine vl_n ?_; refine H_of_R (R_cvI Try.underlying5 Try.underlying3 H fun t62 H => ?_)
          refine vl_n ?_; refine H_of_R (R_shl H fun t63 H => ?_)
          refine vl_n ?_; refine H_of_R (R_move (v := t58) rfl ?_)
          refine vl_n ?_; refine H_of_R (R_add H fun t65 H => ?_)
          refine vl_n ?_; refine H_of_R (R_assign (v := t65) rfl ?_)
          refine vl_e ?_; refine WPc_seq (fun e h => l_FnSkyline.j8 (e 1) (e 5) (e 7) (e 8) (e 9) (e 14) (e 35) (e 36) (e 37) h K1 Q ∧ [e1 1, e1 5, e1 7, e1 9, e1 35, e1 36] = [e 1, e 5, e 7, e 9, e 35, e 36]) ?_ (fun e h ⟨H, hq1⟩ => ?_)
          rotate_left
          · unfold l_FnSkyline.j8 at H
            refine WPc_seq' ?_; refine W_region (by kernel_rfl) ?_; refine vl_n ?_; refine H_of_R (R_loadN TN_34 H fun _ t78 _ _ H _ _ => ?_)
            refine vl_n ?_; refine H_of_R (R_move (v := (e 8)) rfl ?_)
            refine vl_n ?_; refine H_call HB_23 H fun t80 h H => ?_; refine vl_n ?_; refine H_alloc TV_48 H fun t18 h H => ?_; refine vl_n ?_; refine H_storeN TS_48 H fun h H => ?_; refine vl_e ?_; refine W_drawn [0, 0, 2, 6, 14, 1, 63] (.take 0 (.take 1 (.take 2 (.take 3 (.take 4 (.take 5 (.take 6 .done))))))) mixed (by kernel_rfl) ?_; refine tkP rfl ?_; refine R_move (v := (e 14)) rfl ⟨fun _ => trivial, ?_⟩
            refine tkP rfl ?_; refine R_fld TF_48_0 H fun t82 H => ⟨fun _ => trivial, ?_⟩
            refine tkP rfl ?_; refine R_fld TF_30_0 H fun t83 H => ⟨fun _ => trivial, ?_⟩
            refine tkL rfl ?_; refine R_load1 T1_3 H fun at84 t84 hat84 _ H => ?_; refine tkP rfl ?_; refine R_shr H fun t85 H => ⟨fun _ => trivial, ?_⟩
            refine tkP rfl ?_; refine R_assign (v := (e 14)) rfl ⟨fun _ => trivial, ?_⟩
            refine tkP rfl ?_; refine R_assign (v := t85) rfl ⟨fun _ => trivial, ?_⟩
            refine vp_done ?_; exact ⟨H, hq1⟩
          refine WPc_seq' ?_; refine W_region (by kernel_rfl) ?_; refine vl_n ?_; refine H_of_R (R_fld TF_30_1 H fun t66 H => ?_)
          refine vl_n ?_; refine H_of_R (R_load1 T1_3 H fun _ t67 _ _ H => ?_)
          refine vl_n ?_; refine H_of_R (R_lss H fun t68 H => ?_)
          refine vl_e ?_; obtain ⟨b, hc, H1, H2⟩ := H; refine WPc_cond hc (fun hh => ?_) (fun hh => ?_)
          · have H := H1 hh; clear H1 H2
            refine W_region (by kernel_rfl) ?_; refine vl_n ?_; refine H_of_R (R_loadN TN_34 H fun _ t69 _ _ H _ _ => ?_)
            refine vl_n ?_; refine H_of_R (R_move (v := (e 8)) rfl ?_)
            refine vl_n ?_; refine H_of_R (R_move (v := t65) rfl ?_)
            refine vl_n ?_; refine H_call HB_21 H fun t72 h H => ?_; refine vl_n ?_; refine H_of_R (R_assign (v := t72) rfl ?_)
            refine vl_e ?_; exact ⟨H, hq1⟩
          · have H := H2 hh; clear H1 H2
            refine W_region (by kernel_rfl) ?_; refine vl_n ?_; refine H_of_R (R_loadN TN_34 H fun _ t73 _ _ H _ _ => ?_)
            refine vl_n ?_; refine H_of_R (R_move (v := (e 8)) rfl ?_)
            refine vl_n ?_; refine H_of_R (R_move (v := t65) rfl ?_)
            refine vl_n ?_; refine H_of_R (R_build TB_30 rfl (by decide) H fun t76 H => ?_)
            refine vl_n ?_; refine H_call HB_22 H fun t77 h H => ?_; refine vl_n ?_; refine H_of_R (R_assign (v := t77) rfl ?_)
            refine vl_e ?_; exact ⟨H, hq1⟩
        refine WPc_seq' ?_; refine W_region (by kernel_rfl) ?_; refine vl_n ?_; refine H_of_R (R_move (v := (e 10)) rfl ?_)
        refine vl_n ?_; refine H_of_R (R_max H fun t45 H => ?_)
        refine vl_n ?_; refine H_of_R (R_assign (v := t45) rfl ?_)
        refine vl_e ?_; refine WPc_block ?_; refine loop_at (fun e => [e 15]) (fun e => [e 1, e 5, e 7, e 8, e 9, e 11, e 13, e 14, e 35, e 36, e 37]) H rfl rfl ?_; intro K2 e2 h H hin2
        replace H : l_FnSkyline.l9.b (e2 1) (e2 5) (e2 7) (e2 8) (e2 9) (e2 11) (e2 13) (e2 14) (e2 35) (e2 36) (e2 37) (e2 15) h K1 K2 Q := H
        unfold l_FnSkyline.l9.b at H
        have hz1 : [e1 1, e1 5, e1 7, e1 9, e1 35, e1 36] = [e2 1, e2 5, e2 7, e2 9, e2 35, e2 36] := Eq.trans hq1 (congrArg (fun l : List Value => [l.getD 0 undef, l.getD 1 undef, l.getD 2 undef, l.getD 4 undef, l.getD 8 undef, l.getD 9 undef]) hin2)
        clear hin2; refine WPc_seq (fun e h => l_FnSkyline.j10 (e 1) (e 5) (e 7) (e 8) (e 9) (e 11) (e 13) (e 14) (e 15) (e 35) (e 36) (e 37) h K1 K2 Q ∧ [e1 1, e1 5, e1 7, e1 9, e1 35, e1 36] = [e 1, e 5, e 7, e 9, e 35, e 36] ∧ [e2 1, e2 5, e2 7, e2 8, e2 9, e2 11, e2 13, e2 14, e2 35, e2 36, e2 37] = [e 1, e 5, e 7, e 8, e 9, e 11, e 13, e 14, e 35, e 36, e 37]) ?_ (fun e h ⟨H, hq1, hq2⟩ => ?_)
        rotate_left
        · unfold l_FnSkyline.j10 at H
          refine WPc_seq (fun e h => l_FnSkyline.j11 (e 1) (e 5) (e 7) (e 8) (e 9) (e 11) (e 13) (e 14) (e 15) (e 35) (e 36) (e 37) h K1 K2 Q ∧ [e1 1, e1 5, e1 7, e1 9, e1 35, e1 36] = [e 1, e 5, e 7, e 9, e 35, e 36] ∧ [e2 1, e2 5, e2 7, e2 8, e2 9, e2 11, e2 13, e2 14, e2 35, e2 36, e2 37] = [e 1, e 5, e 7, e 8, e 9, e 11, e 13, e 14, e 35, e 36, e 37]) ?_ (fun e h ⟨H, hq1, hq2⟩ => ?_)
          rotate_left
          · unfold l_FnSkyline.j11 at H
            refine W_region (by kernel_rfl) ?_; refine vl_n ?_; refine H_of_R (R_move (v := (e 15)) rfl ?_)
            refine vl_n ?_; refine H_of_R (R_add H fun t51 H => ?_)
            refine vl_n ?_; refine H_of_R (R_assign (v := t51) rfl ?_)
            refine vl_e ?_; exact ⟨H, hq2⟩
          refine WPc_block ?_; refine W_region (by kernel_rfl) ?_; refine vl_n ?_; refine H_of_R (R_move (v := (e 15)) rfl ?_)
          refine vl_n ?_; refine H_of_R (R_move (v := (e 11)) rfl ?_)
          refine vl_n ?_; refine H_of_R (R_idxA TA_42 H fun t54 H => ?_)
          refine vl_n ?_; refine H_store1 TS_3 H fun h H => ?_; refine vl_e ?_; exact ⟨H, hq1, hq2⟩
        refine WPc_seq' ?_; refine W_region (by kernel_rfl) ?_; refine vl_n ?_; refine H_of_R (R_move (v := (e2 15)) rfl ?_)
        refine vl_n ?_; refine H_of_R (R_move (v := (e2 14)) rfl ?_)
        refine vl_n ?_; refine H_of_R (R_min H fun t48 H => ?_)
        refine vl_n ?_; refine H_of_R (R_lss H fun t49 H => ?_)
        refine vl_e ?_; obtain ⟨b, hc, H1, H2⟩ := H; refine WPc_cond hc (fun hh => ?_) (fun hh => ?_)
        · have H := H1 hh; clear H1 H2
          refine WPc_skip ?_; exact ⟨H, hz1, rfl⟩
        · have H := H2 hh; clear H1 H2
          refine WPc_exit ?_; exact ⟨H, hz1⟩
      obtain ⟨b, hc, H1, H2⟩ := H; refine WPc_cond hc (fun hh => ?_) (fun hh => ?_)
      · have H := H1 hh; clear H1 H2
        refine WPc_skip ?_; exact ⟨H, rfl⟩
      · have H := H2 hh; clear H1 H2
        refine WPc_exit ?_; exact H
    refine WPc_seq' ?_; refine W_region (by kernel_rfl) ?_; refine vl_n ?_; refine H_of_R (R_move (v := (e 0)) rfl ?_)
    refine vl_n ?_; refine H_call HB_11 H fun t23 h H => ?_; refine vl_n ?_; refine H_of_R (R_not H fun t24 H => ?_)
    refine vl_n ?_; refine H_of_R (R_move (v := t24) rfl ?_)
    obtain ⟨b, hb, H1, H2⟩ := H
    cases b
    · have H := H1 rfl; clear H1 H2
      refine vl_y rfl hb ?_; refine H_of_R (R_move (v := (e 1)) rfl ?_)
      refine vl_y rfl hb ?_; refine H_of_R (R_len Try.underlying40 H fun t27 H => ?_)
      refine vl_y rfl hb ?_; refine H_of_R (R_gtr H fun t28 H => ?_)
      refine vl_n ?_; refine H_of_R (R_pickC (v := t28) false hb rfl ?_)
      refine vl_e ?_; obtain ⟨b_2, hc, H1, H2⟩ := H; refine WPc_cond hc (fun hh => ?_) (fun hh => ?_)
      · have H := H1 hh; clear H1 H2
        refine WPc_seq' ?_; refine W_region (by kernel_rfl) ?_; refine vl_n ?_; refine H_call HB_12 H fun t30 h H => ?_; refine vl_n ?_; refine H_of_R (R_assign (v := t30) rfl ?_)
        refine vl_e ?_; refine WPc_ret ?_; refine resH_of rfl ?_; exact H
      · have H := H2 hh; clear H1 H2
        refine WPc_skip ?_; exact H
    · have H := H2 rfl; clear H1 H2
      refine vl_s rfl (nbF hb) ?_; refine vl_s rfl (nbF hb) ?_; refine vl_s rfl (nbF hb) ?_; refine vl_n ?_; refine H_of_R (R_pickC (v := (.bool true)) true hb rfl ?_)
      refine vl_e ?_; refine WPc_cond (t := true) rfl (fun _ => ?_) (fun hh => by cases hh)
      refine WPc_seq' ?_; refine W_region (by kernel_rfl) ?_; refine vl_n ?_; refine H_call HB_12 H fun t30_2 h H => ?_; refine vl_n ?_; refine H_of_R (R_assign (v := t30_2) rfl ?_)
      refine vl_e ?_; refine WPc_ret ?_; refine resH_of rfl ?_; exact H
  refine WPc_seq' ?_; refine W_region (by kernel_rfl) ?_; refine vl_n ?_; refine H_of_R (R_move (v := a1) rfl ?_)
  refine vl_n ?_; refine H_of_R (R_len Try.underlying40 H fun t20 H => ?_)
  refine vl_n ?_; refine H_of_R (R_gtr H fun t21 H => ?_)
  refine vl_e ?_; obtain ⟨b, hc, H1, H2⟩ := H; refine WPc_cond hc (fun hh => ?_) (fun hh => ?_)
  · have H := H1 hh; clear H1 H2
    refine WPc_seq' ?_; refine W_region (by kernel_rfl) ?_; refine vl_n ?_; refine H_of_R (R_assign (v := (.bool true)) rfl ?_)
    refine vl_e ?_; refine WPc_ret ?_; refine resH_of rfl ?_; exact H
  · have H := H2 hh; clear H1 H2
    refine WPc_skip ?_; exact H
end Go.Proofs.Ythpmeccnddchpaa
end
section
namespace Go.Proofs.Ythpmeccnddchpaa
open Go.Hp
theorem degree_ok {h : Heap} {Q : Value → Heap → Prop} {d : Int} (h1 : 2 ≤ d) (h2 : d ≤ 1073741824) (H : Q (.tuple #[.int .i64 (d - 1), .int .i64 (2 * d - 1)]) h) : degreeToMinMax.call #[.int .i64 d] h Q := by
  refine degreeToMinMax.body _ _ _ ?_; unfold degreeToMinMax.sh
  simp only [w_load1, w_loadN, w_nil, w_fld, w_idx, w_len, w_lenStr, w_cap, w_arith, w_divi, w_remi, w_cmpI, w_cmpS, w_not, w_ext, w_eqNilP, w_neNilP, w_eqB, w_pick, w_max, w_ifV, w_br, w_store1, w_storeN, w_alloc, w_box, add_mk, Nat.zero_add, Nat.add_zero, Option.some.injEq, exists_eq_left', List.getElem?_cons_zero, List.getElem?_cons_succ, List.getD_cons_zero, List.getD_cons_succ]
  refine ⟨fun e => absurd e (by simp; omega), fun _ => ⟨fun e => absurd e (by simp; omega), fun _ => ?_⟩⟩
  unfold degreeToMinMax.j1
  simp only [w_load1, w_loadN, w_nil, w_fld, w_idx, w_len, w_lenStr, w_cap, w_arith, w_divi, w_remi, w_cmpI, w_cmpS, w_not, w_ext, w_eqNilP, w_neNilP, w_eqB, w_pick, w_max, w_ifV, w_br, w_store1, w_storeN, w_alloc, w_box, add_mk, Nat.zero_add, Nat.add_zero, Option.some.injEq, exists_eq_left', List.getElem?_cons_zero, List.getElem?_cons_succ, List.getD_cons_zero, List.getD_cons_succ]
  rw [i64w (n := d * 2) (by omega) (by omega), i64w (n := d * 2 - 1) (by omega) (by omega)]
  have hd : (d * 2 - 1).tdiv 2 = d - 1 := by rw [Int.tdiv_eq_ediv_of_nonneg (by omega)]; omega
  rw [hd, i64w (n := d - 1) (by omega) (by omega), show d * 2 - 1 = 2 * d - 1 by omega]; exact ⟨by decide, H⟩
theorem degree_zero {h : Heap} {Q : Value → Heap → Prop} (H : Q (.tuple #[.int .i64 31, .int .i64 63]) h) : degreeToMinMax.call #[.int .i64 0] h Q := by
  refine degreeToMinMax.body _ _ _ ?_; unfold degreeToMinMax.sh
  simp only [w_load1, w_loadN, w_nil, w_fld, w_idx, w_len, w_lenStr, w_cap, w_arith, w_divi, w_remi, w_cmpI, w_cmpS, w_not, w_ext, w_eqNilP, w_neNilP, w_eqB, w_pick, w_max, w_ifV, w_br, w_store1, w_storeN, w_alloc, w_box, add_mk, Nat.zero_add, Nat.add_zero, Option.some.injEq, exists_eq_left', List.getElem?_cons_zero, List.getElem?_cons_succ, List.getD_cons_zero, List.getD_cons_succ]
  refine ⟨fun _ => ?_, fun e => absurd e (by simp)⟩
  unfold degreeToMinMax.j1
  simp only [w_load1, w_loadN, w_nil, w_fld, w_idx, w_len, w_lenStr, w_cap, w_arith, w_divi, w_remi, w_cmpI, w_cmpS, w_not, w_ext, w_eqNilP, w_neNilP, w_eqB, w_pick, w_max, w_ifV, w_br, w_store1, w_storeN, w_alloc, w_box, add_mk, Nat.zero_add, Nat.add_zero, Option.some.injEq, exists_eq_left', List.getElem?_cons_zero, List.getElem?_cons_succ, List.getD_cons_zero, List.getD_cons_succ]
  exact ⟨by decide, H⟩
end Go.Proofs.Ythpmeccnddchpaa
end
section
namespace Go.Proofs.Ythpmeccnddchpaa.Gi
open Go.Hp
abbrev It := Int × Int
abbrev enc (p : It) : List Value := [.int .i64 p.1, .int .i64 p.2]
abbrev emp : It := (0, 0)
abbrev av (p : It) : Value := .agg (enc p).toArray
abbrev hd0 (iso : Int) (ctr : Option Addr) : List Value := [.int .u64 iso, .pointer ctr]
abbrev hd4 (lf : Value) (mn mx : Int) : List Value := [.bool false, .bool false, lf] ++ enc emp ++ [.int .i64 mx, .int .i64 mn]
abbrev hdr (iso : Int) (ctr root : Option Addr) (cnt : Int) (lf : Value) (mn mx : Int) : List Value := [.int .u64 iso, .pointer ctr, .pointer root, .int .i64 cnt] ++ hd4 lf mn mx
theorem encl (p : It) : (enc p).length = 2 := rfl
theorem enc1 (p : It) : ∀ y ∈ enc p, one1 y = true := by simp [one1]
structure OrdC (Z : List Rg) (lf : Value) (lt : It → It → Bool) : Prop where
  nn : notNil lf = true
  one : one1 lf = true
  call : ∀ {h0 h : Heap} {E : List Rg} {a b : It} {Q : Value → Heap → Prop}, St h0 Z E h → (∀ E' h', St h [] E' h' → Q (.bool (lt a b)) h') → callV Try.prog lf #[av a, av b] h Q
theorem OrdC.mono {Z Z' : List Rg} {lf : Value} {lt : It → It → Bool} (o : OrdC Z lf lt) (hz : ∀ r, r ∈ Z → r ∈ Z') : OrdC Z' lf lt := ⟨o.nn, o.one, fun s H => o.call (s.subZ hz) H⟩
def HintC (hc : List Value) : Prop := ∃ (us : List Bool) (ps : List Int), us.length = 8 ∧ ps.length = 8 ∧ (∀ p ∈ ps, 0 ≤ p ∧ p ≤ 255) ∧ hc = (us.map fun b => .bool b) ++ ps.map fun p => .int .u8 p
theorem HintC.len {hc : List Value} (h : HintC hc) : hc.length = 16 := by
  obtain ⟨us, ps, h1, h2, _, rfl⟩ := h; simp [h1, h2]
theorem HintC.used {hc : List Value} (h : HintC hc) {i : Nat} (hi : i < 8) : ∃ b, hc[i]? = some (.bool b) := by
  obtain ⟨us, ps, h1, h2, _, rfl⟩ := h; exact ⟨us[i], by rw [List.getElem?_append_left (by simp; omega), List.getElem?_map, List.getElem?_eq_getElem (by omega)]; rfl⟩
theorem HintC.path {hc : List Value} (h : HintC hc) {i : Nat} (hi : i < 8) : ∃ p, hc[8 + i]? = some (.int .u8 p) ∧ 0 ≤ p ∧ p ≤ 255 := by
  obtain ⟨us, ps, h1, h2, h3, rfl⟩ := h; refine ⟨ps[i], ?_, h3 _ (List.getElem_mem _)⟩
  rw [List.getElem?_append_right (by simp; omega), List.length_map, h1, Nat.add_sub_cancel_left, List.getElem?_map, List.getElem?_eq_getElem (by omega)]; rfl
theorem HintC.setU {hc : List Value} (h : HintC hc) {i : Nat} (hi : i < 8) (b : Bool) : HintC (hc.set i (.bool b)) := by
  obtain ⟨us, ps, h1, h2, h3, rfl⟩ := h; refine ⟨us.set i b, ps, by simp [h1], h2, h3, ?_⟩
  rw [List.set_append_left _ _ (by simp; omega), List.map_set]
theorem HintC.setP {hc : List Value} (h : HintC hc) {i : Nat} (hi : i < 8) {p : Int} (h0 : 0 ≤ p) (hp : p ≤ 255) : HintC (hc.set (8 + i) (.int .u8 p)) := by
  obtain ⟨us, ps, h1, h2, h3, rfl⟩ := h; refine ⟨us, ps.set i p, h1, by simp [h2], fun q hq => ?_, ?_⟩
  · rcases List.mem_or_eq_of_mem_set hq with e | e
    · exact h3 q e
    · rw [e]; exact ⟨h0, hp⟩
  · rw [List.set_append_right _ _ (by simp; omega), List.length_map, h1, Nat.add_sub_cancel_left, List.map_set]
theorem HintC.zero : HintC (List.replicate 8 (.bool false) ++ List.replicate 8 (.int .u8 0)) := ⟨List.replicate 8 false, List.replicate 8 0, rfl, rfl, by simp, by simp⟩
def Hn (hv : Value) (hb : Nat) (hc : List Value) : Prop := (hv = .pointer none ∧ hc = []) ∨ (hv = ptr hb 0 ∧ HintC hc)
theorem Hn.none : Hn (.pointer none) 0 [] := .inl ⟨rfl, rfl⟩
theorem Hn.some {hb : Nat} {hc : List Value} (h : HintC hc) : Hn (ptr hb 0) hb hc := .inr ⟨rfl, h⟩
theorem u64w {n : Int} (h1 : 0 ≤ n) (h2 : n ≤ 9223372036854775807) : IntKind.wrap .u64 n = n := by
  have e : IntKind.wrap .u64 n = n % 18446744073709551616 := rfl
  rw [e]; omega
theorem u8w (n : Int) : 0 ≤ IntKind.wrap .u8 n ∧ IntKind.wrap .u8 n ≤ 255 := by
  have e : IntKind.wrap .u8 n = n % 256 := rfl
  rw [e]; omega
theorem r_idxA {len sz b o : Nat} {k : IntKind} {i : Int} {K : Value → Prop} (n j : Nat) (hi : i = n) (hn : n < len) (hj : o + n * sz = j) (H : K (ptr b j)) : idxA len sz (ptr b o) (.int k i) K :=
  ⟨_, k, i, rfl, rfl, by omega, by omega, by rw [add_mk, show i.toNat = n by omega, hj]; exact H⟩
theorem r_div2 {n : Nat} {K : Value → Prop} (h : n ≤ 9223372036854775807) (H : K (.int .i64 ((n / 2 : Nat) : Int))) : divi (.int .i64 n) (.int .i64 2) K :=
  ⟨.i64, _, _, rfl, rfl, by decide, by rw [show ((n : Int)).tdiv 2 = ((n / 2 : Nat) : Int) from (Int.ofNat_tdiv n 2).symm, i64w (by omega) (by omega)]; exact H⟩
theorem _root_.Go.Hp.St.dropMid {h0 h : Heap} {Z A E : List Rg} {r : Rg} (s : St h0 Z (r :: (A ++ E)) h) : St h0 Z (r :: E) h := s.sub (List.Sublist.cons_cons _ (List.sublist_append_right _ _))
theorem found_at {lt : It → It → Bool} (o : Swo lt) {its : List It} {x : It} (ha : Asc lt its) {i : Nat} (hi : i < its.length) (h1 : lt x its[i] = false) (h2 : lt its[i] x = false) : pos lt its x = i ∧ (lget lt its x).isSome = true := by
  have hs : ∀ i j (hi : i < its.length) (hj : j < its.length), i < j → lt its[i] its[j] = true := fun i j hi hj hij => List.pairwise_iff_getElem.1 ha i j hi hj hij
  have e : pos lt its x = i := pos_uni (by omega) (fun j hj hjl => o.tr1 (hs j i hj hi hjl) h1) (fun _ => h2)
  refine ⟨e, ?_⟩
  unfold lget; rw [e, List.getElem?_eq_getElem hi, Option.bind_some, h1]; rfl
theorem notfound_at {lt : It → It → Bool} (o : Swo lt) {its : List It} {x : It} (ha : Asc lt its) {i : Nat} (hi : i ≤ its.length) (h1 : ∀ (h : i < its.length), lt x its[i] = true) (h2 : ∀ (h : i - 1 < its.length), 0 < i → lt its[i - 1] x = true) : pos lt its x = i ∧ (lget lt its x).isSome = false := by
  have hs : ∀ i j (hi : i < its.length) (hj : j < its.length), i < j → lt its[i] its[j] = true := fun i j hi hj hij => List.pairwise_iff_getElem.1 ha i j hi hj hij
  have e : pos lt its x = i := by
    refine pos_uni hi (fun j hj hjl => ?_) (fun hl => o.asym (h1 hl))
    rcases Nat.lt_or_ge j (i - 1) with hl | hl
    · exact o.tr _ _ _ (hs j (i - 1) hj (by omega) hl) (h2 (by omega) (by omega))
    · have : j = i - 1 := by omega
      subst this; exact h2 hj (by omega)
  refine ⟨e, ?_⟩
  unfold lget; rw [e]
  rcases Nat.lt_or_ge i its.length with hl | hl
  · rw [List.getElem?_eq_getElem hl, Option.bind_some, h1 hl]; rfl
  · rw [List.getElem?_eq_none hl]; rfl
end Go.Proofs.Ythpmeccnddchpaa.Gi
end
section
namespace Go.Proofs.Ythpmeccnddchpaa.Gi
open Go.Hp Go.Proofs.Ythpmeccnddchpaa
variable {h0 h : Heap} {Z E : List Rg} {Q : Value → Heap → Prop} {lt : It → It → Bool} {lf : Value}
theorem bsearch_ok (o : Swo lt) (hO : OrdC Z lf lt) {tb n : Nat} {iv : Value} {its : List It} {x : It} (s : St h0 Z E h) (hlf : cl h tb 6 = some lf) (hn : cl h n 2 = some iv) (hr : Rdl 2 h iv its.length (its.flatMap enc)) (ha : Asc lt its) (hb : its.length ≤ 4611686018427387903)
    (H : ∀ E' h', St h [] E' h' → Q (.tuple #[.int .i64 (pos lt its x), .bool (lget lt its x).isSome]) h') : BTreeG_I_bsearch.call #[ptr tb 0, ptr n 0, av x] h Q := by
  have hs : ∀ i j (hi : i < its.length) (hj : j < its.length), i < j → lt its[i] its[j] = true := fun i j hi hj hij => List.pairwise_iff_getElem.1 ha i j hi hj hij
  refine BTreeG_I_bsearch.body _ _ _ _ _ ?_; unfold BTreeG_I_bsearch.sh
  have u := St.start h
  refine St.r_box (cs := enc x) u fun t5 h1 u => ?_; refine r_nil ?_; refine r_fld ?_; refine u.r_loadB hn ?_; refine hr.lenV ?_
  refine loop_intro (fun st h' => ∃ (lo hi : Nat) (R : List Rg), st = [.int .i64 lo, .int .i64 hi] ∧ lo ≤ hi ∧ hi ≤ its.length ∧ (∀ i (hi' : i < its.length), i < lo → lt x its[i] = false) ∧ (∀ i (hi' : i < its.length), hi ≤ i → lt x its[i] = true) ∧ St h [] ((t5, 0, enc x) :: R) h')
    (fun st _ => (Hp.iv (st.getD 1 undef) - Hp.iv (st.getD 0 undef)).toNat) ⟨0, its.length, [], rfl, by omega, by omega, fun i hi hl => by omega, fun i h1 h2 => by omega, u⟩ ?_
  clear u
  rintro st h1 ⟨lo, hi, R, rfl, h1', h2, h3, h4, u⟩
  unfold BTreeG_I_bsearch.l3.b; refine r_cmpI ?_; refine r_if (fun hlt => ?_) (fun hge => ?_)
  · have hlt : lo < hi := by simpa using hlt
    have hm : (lo + hi) / 2 < its.length := by omega
    unfold BTreeG_I_bsearch.j4; refine r_add (z := ((lo + hi : Nat) : Int)) (by rw [i64w (by omega) (by omega)]; omega) ?_; refine r_cvI (z := ((lo + hi : Nat) : Int)) (u64w (by omega) (by omega)) ?_; refine r_shr (z := (((lo + hi) / 2 : Nat) : Int)) (by decide) (by show (((lo + hi : Nat) : Int)).fdiv 2 = _; rw [Int.fdiv_eq_ediv_of_nonneg _ (by decide)]; omega) ?_; refine r_cvI (z := (((lo + hi) / 2 : Nat) : Int)) (i64w (by omega) (by omega)) ?_; refine r_nil ?_; refine r_fld ?_; refine u.r_loadB hlf ?_; refine St.r_loadN0 u 0 rfl (by simp) ?_; refine r_nil ?_; refine r_fld ?_; refine u.r_loadB hn ?_; refine hr.at (n := (lo + hi) / 2) (f := enc) rfl encl rfl rfl hm fun b ob hbb => ?_; refine (hbb.st u).loadN rfl ?_; refine hO.call (s.join u) (a := x) (b := its[(lo + hi) / 2]) fun E2 h2' u2 => ?_
    have u := (u.join u2).perm List.perm_append_comm
    refine r_not ?_; refine r_if (fun hc => ?_) (fun hc => ?_)
    · have hc : lt x its[(lo + hi) / 2] = false := by simpa using hc
      refine r_add (z := (((lo + hi) / 2 + 1 : Nat) : Int)) (by rw [i64w (by omega) (by omega)]; omega) ?_; refine ⟨⟨(lo + hi) / 2 + 1, hi, _, rfl, by omega, h2, fun i hi' hl => ?_, h4, u⟩, by simp; omega⟩
      rcases Nat.lt_or_ge i ((lo + hi) / 2) with hl | hl
      · cases e : lt x its[i] with
        | false => rfl
        | true => have := o.tr _ _ _ e (hs i _ hi' hm hl); rw [hc] at this; cases this
      · have : i = (lo + hi) / 2 := by omega
        subst this; exact hc
    · have hc : lt x its[(lo + hi) / 2] = true := by simpa using hc
      refine ⟨⟨lo, (lo + hi) / 2, _, rfl, by omega, by omega, h3, fun i hi1 hi2 => ?_, u⟩, by simp; omega⟩
      rcases Nat.lt_or_ge ((lo + hi) / 2) i with hl | hl
      · exact o.tr _ _ _ hc (hs _ i hm hi1 hl)
      · have : i = (lo + hi) / 2 := by omega
        subst this; exact hc
  · have hge : lo = hi := by simp at hge; omega
    subst hge
    have no : ∀ {h' : Heap} {R : List Rg}, St h [] R h' → (∀ hp : lo - 1 < its.length, 0 < lo → lt its[lo - 1] x = true) → BTreeG_I_bsearch.j2 (.int .i64 lo) h' Q := fun u h5 => by
      obtain ⟨e1, e2⟩ := notfound_at o (x := x) ha h2 (fun hl => h4 lo hl (Nat.le_refl _)) h5
      have := H _ _ u
      rw [e1, e2] at this; exact this
    unfold BTreeG_I_bsearch.j1; refine r_cmpI ?_; refine r_br (fun hpos => ?_) (fun hz => ?_)
    · have hpos : 0 < lo := by simpa using hpos
      have hm : lo - 1 < its.length := by omega
      refine r_nil ?_; refine r_fld ?_; refine u.r_loadB hlf ?_; refine r_nil ?_; refine r_fld ?_; refine u.r_loadB hn ?_; refine r_sub1 (by omega) (by omega) ?_; refine hr.at (n := lo - 1) (f := enc) rfl encl rfl rfl hm fun b ob hbb => ?_; refine (hbb.st u).loadN rfl ?_; refine St.r_loadN0 u 0 rfl (by simp) ?_; refine hO.call (s.join u) (a := its[lo - 1]) (b := x) fun E2 h2' u2 => ?_
      have u := (u.join u2).perm List.perm_append_comm
      refine r_not ?_; refine r_if (fun hc => ?_) (fun hc => ?_)
      · have hc : lt its[lo - 1] x = false := by simpa using hc
        refine r_sub1 (by omega) (by omega) ?_; obtain ⟨e1, e2⟩ := found_at o ha hm (h3 _ hm (by omega)) hc
        have := H _ _ u
        rw [e1, e2] at this; exact this
      · exact no u (fun _ _ => by simpa using hc)
    · exact no u (fun _ e => by simp at hz; omega)
theorem node_leaf_ok {n : Nat} {a : Option Addr} (hn : cl h n 3 = some (.pointer a)) (H : Q (.bool a.isNone) h) : node_I_leaf.call #[ptr n 0] h Q := by
  refine node_I_leaf.body _ _ _ ?_; unfold node_I_leaf.sh
  have s := St.start h
  refine r_nil ?_; refine r_fld ?_; refine s.r_loadB hn ?_; refine r_eqNilP ?_; exact H
theorem Less_ok (hO : OrdC Z lf lt) {tb : Nat} {a b : It} (s : St h0 Z E h) (hlf : cl h tb 6 = some lf) (H : ∀ E' h', St h [] E' h' → Q (.bool (lt a b)) h') : BTreeG_I_Less.call #[ptr tb 0, av a, av b] h Q := by
  refine BTreeG_I_Less.body _ _ _ _ _ ?_; unfold BTreeG_I_Less.sh
  have u := St.start h
  refine St.r_box (cs := enc a) u fun t4 h1 u => ?_; refine St.r_box (cs := enc b) u fun t5 h1 u => ?_; refine r_nil ?_; refine r_fld ?_; refine u.r_loadB hlf ?_; refine St.r_loadN0 u 1 rfl (by simp) ?_; refine St.r_loadN0 u 0 rfl (by simp) ?_; refine hO.call (s.join u) fun E2 h2 u2 => ?_; exact H _ _ (u.join u2)
section
variable {tb n hb dp : Nat} {iv : Value} {its : List It} {x : It} {a : Option Addr}
theorem hint_end {hc : List Value} {i : Int} {f : Bool} (hh : HintC hc) (hd : dp ≤ 4611686018427387903) (s : St h0 Z ((hb, 0, hc) :: E) h) {c0 c1 c2 : Value} (hl : (n, 0, [c0, c1, c2, .pointer a]) ∈ E ++ Z) (hi : 0 ≤ i) (hi2 : i ≤ 4611686018427387903)
    (H : ∀ hc' h', HintC hc' → St h0 Z ((hb, 0, hc') :: E) h' → Q (.tuple #[.int .i64 i, .bool f]) h') : BTreeG_I_hintsearch.j1 (ptr n 0) (ptr hb 0) (.int .i64 dp) (.int .i64 i) (.bool f) h Q := by
  unfold BTreeG_I_hintsearch.j1
  have e2 : ∀ {hc' : List Value} {h' : Heap}, HintC hc' → St h0 Z ((hb, 0, hc') :: E) h' → BTreeG_I_hintsearch.j2 (.int .i64 i) (.bool f) h' Q := fun h1 s => H _ _ h1 s
  refine r_cmpI ?_; refine r_if (fun hlt => ?_) (fun _ => e2 hh s)
  have hlt : dp < 8 := by have := of_decide_eq_true hlt; omega
  have e3 : ∀ {hc' : List Value} {h' : Heap} (p : Int), HintC hc' → St h0 Z ((hb, 0, hc') :: E) h' → BTreeG_I_hintsearch.j3 (ptr hb 0) (.int .i64 dp) (.int .i64 i) (.bool f) (.int .u8 (IntKind.wrap .u8 p)) h' Q := fun {hc'} {h'} p hh s => by
    unfold BTreeG_I_hintsearch.j3; obtain ⟨q, hq, _, _⟩ := hh.path hlt
    have hlen := hh.len
    refine r_nil ?_; refine r_fld ?_; refine r_idxA dp (8 + dp) rfl hlt (by omega) ?_; refine St.r_load0 s 0 rfl hq ?_; refine r_cmpI ?_; refine r_if (fun _ => ?_) (fun _ => e2 hh s)
    refine r_nil ?_; refine r_fld ?_; refine r_idxA dp (8 + dp) rfl hlt (by omega) ?_; refine St.r_store0 s 0 rfl (by omega) rfl ?_; intro h' s
    have hh := hh.setP hlt (u8w p).1 (u8w p).2
    have s : St h0 Z ((hb, 0, hc'.set (8 + dp) (.int .u8 (IntKind.wrap .u8 p))) :: E) h' := s
    refine r_add1 (by omega) ?_; refine loop_intro (fun st h => ∃ (j : Nat) (hc : List Value), st = [.int .i64 j] ∧ j ≤ 8 ∧ HintC hc ∧ St h0 Z ((hb, 0, hc) :: E) h) (fun st _ => 8 - (Hp.iv (st.getD 0 undef)).toNat) ⟨dp + 1, _, rfl, by omega, hh, s⟩ ?_; clear hh s
    rintro st h ⟨j, hc, rfl, hj, hh, s⟩
    unfold BTreeG_I_hintsearch.l4.b
    have hlen := hh.len
    refine r_cmpI ?_; refine r_if (fun hl => ?_) (fun _ => e2 hh s)
    have hl : j < 8 := by have := of_decide_eq_true hl; omega
    unfold BTreeG_I_hintsearch.j5; refine r_nil ?_; refine r_fld ?_; refine r_idxA j j rfl hl (by omega) ?_; refine St.r_store0 s 0 rfl (by omega) rfl ?_; intro h s
    unfold BTreeG_I_hintsearch.j6; refine r_add1 (by omega) ?_; exact ⟨⟨j + 1, _, rfl, by omega, hh.setU hl false, s⟩, by simp; omega⟩
  have hlen := hh.len
  refine r_nil ?_; refine r_fld ?_; refine r_idxA dp dp rfl hlt (by omega) ?_; refine St.r_store0 s 0 rfl (by omega) rfl ?_; intro h1 s1
  have hh1 := hh.setU hlt true
  have s1 : St h0 Z ((hb, 0, hc.set dp (.bool true)) :: E) h1 := s1
  have hl1 : cl h1 n 3 = some (.pointer a) := by
    have := s1.getM (j := 3) (List.mem_cons_of_mem _ hl) (by simp); simpa using this
  refine node_leaf_ok hl1 ?_; refine r_br (fun _ => ?_) (fun _ => ?_)
  · refine r_if (fun _ => ?_) (fun _ => ?_)
    · refine r_add (z := i + 1) (i64w (by omega) (by omega)) ?_
      exact r_cvI rfl (e3 _ hh1 s1)
    · exact r_cvI rfl (e3 _ hh1 s1)
  · exact r_cvI rfl (e3 _ hh1 s1)
theorem hint_mid (o : Swo lt) (hO : OrdC Z lf lt) {b : Heap} {R : List Rg} {t7 lo : Nat} {hi : Int} {hc : List Value} (hh : HintC hc) (hd : dp ≤ 4611686018427387903) (s : St h0 Z ((hb, 0, hc) :: E) b) (hlf : cl b tb 6 = some lf) {c0 c1 : Value} (hl : (n, 0, [c0, c1, iv, .pointer a]) ∈ E ++ Z) (hr : Rdl 2 b iv its.length (its.flatMap enc)) (ha : Asc lt its) (hb2 : its.length ≤ 4611686018427387903)
    (u : St b [] ((t7, 0, enc x) :: R) h) (h1 : (lo : Int) ≤ hi + 1) (h2 : hi < its.length) (h3 : ∀ i (hi' : i < its.length), i < lo → lt x its[i] = false) (h4 : ∀ i (hi' : i < its.length), hi < i → lt x its[i] = true)
    (H : ∀ hc' h', HintC hc' → St h0 Z ((hb, 0, hc') :: E) h' → Q (.tuple #[.int .i64 (pos lt its x), .bool (lget lt its x).isSome]) h') : BTreeG_I_hintsearch.j7 (ptr tb 0) (ptr n 0) (ptr hb 0) (.int .i64 dp) (ptr t7 0) (.int .i64 lo) (.int .i64 hi) h Q := by
  have hs : ∀ i j (hi : i < its.length) (hj : j < its.length), i < j → lt its[i] its[j] = true := fun i j hi hj hij => List.pairwise_iff_getElem.1 ha i j hi hj hij
  have hn : cl b n 2 = some iv := by
    have := s.getM (j := 2) (List.mem_cons_of_mem _ hl) (by simp); simpa using this
  have fin : ∀ {R : List Rg} {h' : Heap} {i : Nat} {f : Bool}, St b [] ((t7, 0, enc x) :: R) h' → pos lt its x = i → (lget lt its x).isSome = f → BTreeG_I_hintsearch.j1 (ptr n 0) (ptr hb 0) (.int .i64 dp) (.int .i64 i) (.bool f) h' Q := fun {R} {h'} {i} {f} u e1 e2 => by
    have hpl := pos_le (lt := lt) its x
    have s1 : St h0 Z ((hb, 0, hc) :: (((t7, 0, enc x) :: R) ++ E)) h' := (s.join u).perm (by ((apply perm_rg; intro f; simp only [set_cons_zero, set_cons_succ, eraseIdx_cons_zero, eraseIdx_cons_succ, cons_append, nil_append, map_append, map_cons, map_nil, List.sum_append, List.sum_cons, List.sum_nil, map_flatMap, Nat.add_zero, Nat.zero_add]; ac_rfl)))
    refine hint_end hh hd s1 (c0 := c0) (c1 := c1) (c2 := iv) (a := a) ?_ (by omega) (by omega) fun hc' h' hh' s' => ?_
    · rw [List.append_assoc]; exact List.mem_append_right _ hl
    · have := H hc' h' hh' s'.dropMid
      rw [e1, e2] at this; exact this
  unfold BTreeG_I_hintsearch.j7
  refine loop_intro (fun st h' => ∃ (lo : Nat) (hi : Int) (R : List Rg), st = [.int .i64 lo, .int .i64 hi] ∧ (lo : Int) ≤ hi + 1 ∧ hi < its.length ∧ (∀ i (hi' : i < its.length), i < lo → lt x its[i] = false) ∧ (∀ i (hi' : i < its.length), hi < i → lt x its[i] = true) ∧ St b [] ((t7, 0, enc x) :: R) h')
    (fun st _ => (Hp.iv (st.getD 1 undef) + 1 - Hp.iv (st.getD 0 undef)).toNat) ⟨lo, hi, R, rfl, h1, h2, h3, h4, u⟩ ?_
  clear u h1 h2 h3 h4
  rintro st h1 ⟨lo, hi, R, rfl, h1', h2, h3, h4, u⟩
  unfold BTreeG_I_hintsearch.l9.b; refine r_cmpI ?_; refine r_if (fun hlt => ?_) (fun hge => ?_)
  · have hlt : (lo : Int) ≤ hi := of_decide_eq_true hlt
    obtain ⟨hi, rfl⟩ : ∃ k : Nat, hi = k := ⟨hi.toNat, by omega⟩
    have hlt : lo ≤ hi := by omega
    have hm : lo + (hi + 1 - lo) / 2 < its.length := by omega
    unfold BTreeG_I_hintsearch.j10; refine r_add1 (by omega) ?_; refine r_sub (z := ((hi + 1 - lo : Nat) : Int)) (by rw [i64w (by omega) (by omega)]; omega) ?_; refine r_div2 (by omega) ?_; refine r_add (z := ((lo + (hi + 1 - lo) / 2 : Nat) : Int)) (by rw [i64w (by omega) (by omega)]; omega) ?_
    generalize hmid : lo + (hi + 1 - lo) / 2 = mid at hm ⊢
    refine St.r_loadN0 u 0 rfl (by simp) ?_; refine r_nil ?_; refine r_fld ?_; refine u.r_loadB hn ?_; refine hr.at (n := mid) (f := enc) rfl encl rfl rfl hm fun bb ob hbb => ?_; refine (hbb.st u).loadN rfl ?_
    have hlf1 := u.base hlf
    refine Less_ok hO (a := x) (b := its[mid]) (s.join u) hlf1 fun E2 h2' u2 => ?_
    have u := (u.join u2).perm List.perm_append_comm
    refine r_not ?_; refine r_if (fun hc => ?_) (fun hc => ?_)
    · have hc : lt x its[mid] = false := by simpa using hc
      refine r_add1 (by omega) ?_; refine ⟨⟨mid + 1, hi, _, rfl, by omega, h2, fun i hi' hl => ?_, h4, u⟩, by simp; omega⟩
      rcases Nat.lt_or_ge i mid with hl | hl
      · cases e : lt x its[i] with
        | false => rfl
        | true => have := o.tr _ _ _ e (hs i _ hi' hm hl); rw [hc] at this; cases this
      · have : i = mid := by omega
        subst this; exact hc
    · have hc : lt x its[mid] = true := by simpa using hc
      refine r_sub (z := (mid : Int) - 1) (i64w (by omega) (by omega)) ?_; refine ⟨⟨lo, (mid : Int) - 1, _, rfl, by omega, by omega, h3, fun i hi1 hi2 => ?_, u⟩, by simp; omega⟩
      rcases Nat.lt_or_ge mid i with hl | hl
      · exact o.tr _ _ _ hc (hs _ i hm hi1 hl)
      · have : i = mid := by omega
        subst this; exact hc
  · have hge : hi = (lo : Int) - 1 := by
      have : ¬ ((lo : Int) ≤ hi) := of_decide_eq_false hge
      omega
    subst hge
    have no : ∀ {R : List Rg} {h' : Heap}, St b [] ((t7, 0, enc x) :: R) h' → (∀ hp : lo - 1 < its.length, 0 < lo → lt its[lo - 1] x = true) → BTreeG_I_hintsearch.j1 (ptr n 0) (ptr hb 0) (.int .i64 dp) (.int .i64 lo) (.bool false) h' Q := fun u h5 => by
      obtain ⟨e1, e2⟩ := notfound_at o (x := x) ha (by omega) (fun hl => h4 lo hl (by omega)) h5; exact fin u e1 e2
    unfold BTreeG_I_hintsearch.j8; refine r_cmpI ?_; refine r_br (fun hpos => ?_) (fun hz => ?_)
    · have hpos : 0 < lo := by simpa using hpos
      have hm : lo - 1 < its.length := by omega
      refine r_nil ?_; refine r_fld ?_; refine u.r_loadB hn ?_; refine r_sub1 (by omega) (by omega) ?_; refine hr.at (n := lo - 1) (f := enc) rfl encl rfl rfl hm fun bb ob hbb => ?_; refine (hbb.st u).loadN rfl ?_; refine St.r_loadN0 u 0 rfl (by simp) ?_
      have hlf1 := u.base hlf
      refine Less_ok hO (a := its[lo - 1]) (b := x) (s.join u) hlf1 fun E2 h2' u2 => ?_
      have u := (u.join u2).perm List.perm_append_comm
      refine r_not ?_; refine r_if (fun hc => ?_) (fun hc => ?_)
      · have hc : lt its[lo - 1] x = false := by simpa using hc
        refine r_sub1 (by omega) (by omega) ?_; obtain ⟨e1, e2⟩ := found_at o ha hm (h3 _ hm (by omega)) hc; exact fin u e1 e2
      · exact no u (fun _ _ => by simpa using hc)
    · exact no u (fun _ e => by simp at hz; omega)
theorem hintsearch_ok (o : Swo lt) (hO : OrdC Z lf lt) {hc : List Value} (hh : HintC hc) (hd : dp ≤ 4611686018427387903) (s : St h0 Z ((hb, 0, hc) :: E) h) (hlf : cl h tb 6 = some lf) {c0 c1 : Value} (hl : (n, 0, [c0, c1, iv, .pointer a]) ∈ E ++ Z) (hr : Rdl 2 h iv its.length (its.flatMap enc)) (ha : Asc lt its) (hb2 : its.length ≤ 4611686018427387903) (hne : 1 ≤ its.length)
    (H : ∀ hc' h', HintC hc' → St h0 Z ((hb, 0, hc') :: E) h' → Q (.tuple #[.int .i64 (pos lt its x), .bool (lget lt its x).isSome]) h') : BTreeG_I_hintsearch.call #[ptr tb 0, ptr n 0, av x, ptr hb 0, .int .i64 dp] h Q := by
  have hs : ∀ i j (hi : i < its.length) (hj : j < its.length), i < j → lt its[i] its[j] = true := fun i j hi hj hij => List.pairwise_iff_getElem.1 ha i j hi hj hij
  have hn : cl h n 2 = some iv := by
    have := s.getM (j := 2) (List.mem_cons_of_mem _ hl) (by simp); simpa using this
  have fin : ∀ {R : List Rg} {h' : Heap} {i : Nat} {f : Bool} {t7 : Nat}, St h [] ((t7, 0, enc x) :: R) h' → pos lt its x = i → (lget lt its x).isSome = f → BTreeG_I_hintsearch.j1 (ptr n 0) (ptr hb 0) (.int .i64 dp) (.int .i64 i) (.bool f) h' Q := fun {R} {h'} {i} {f} {t7} u e1 e2 => by
    have hpl := pos_le (lt := lt) its x
    have s1 : St h0 Z ((hb, 0, hc) :: (((t7, 0, enc x) :: R) ++ E)) h' := (s.join u).perm (by ((apply perm_rg; intro f; simp only [set_cons_zero, set_cons_succ, eraseIdx_cons_zero, eraseIdx_cons_succ, cons_append, nil_append, map_append, map_cons, map_nil, List.sum_append, List.sum_cons, List.sum_nil, map_flatMap, Nat.add_zero, Nat.zero_add]; ac_rfl)))
    refine hint_end hh hd s1 (c0 := c0) (c1 := c1) (c2 := iv) (a := a) ?_ (by omega) (by omega) fun hc' h' hh' s' => ?_
    · rw [List.append_assoc]; exact List.mem_append_right _ hl
    · have := H hc' h' hh' s'.dropMid
      rw [e1, e2] at this; exact this
  have mid : ∀ {R : List Rg} {h' : Heap} {t7 lo : Nat} {hi : Int}, St h [] ((t7, 0, enc x) :: R) h' → (lo : Int) ≤ hi + 1 → hi < its.length → (∀ i (hi' : i < its.length), i < lo → lt x its[i] = false) → (∀ i (hi' : i < its.length), hi < i → lt x its[i] = true) →
      BTreeG_I_hintsearch.j7 (ptr tb 0) (ptr n 0) (ptr hb 0) (.int .i64 dp) (ptr t7 0) (.int .i64 lo) (.int .i64 hi) h' Q := fun u h1 h2 h3 h4 => hint_mid o hO hh hd s hlf hl hr ha hb2 u h1 h2 h3 h4 H
  refine BTreeG_I_hintsearch.body _ _ _ _ _ _ _ ?_; unfold BTreeG_I_hintsearch.sh
  have u := St.start h
  refine St.r_box (cs := enc x) u fun t7 h1 u => ?_
  have hlen := hh.len
  have cold : BTreeG_I_hintsearch.j7 (ptr tb 0) (ptr n 0) (ptr hb 0) (.int .i64 dp) (ptr t7 0) (.int .i64 0) (.int .i64 ((its.length - 1 : Nat) : Int)) h1 Q := mid (lo := 0) u (by omega) (by omega) (fun i _ hi => absurd hi (Nat.not_lt_zero _)) (fun i hi hl => by omega)
  have sj : ∀ {R : List Rg} {h' : Heap}, St h [] R h' → St h0 Z ((hb, 0, hc) :: (R ++ E)) h' := fun u => (s.join u).perm (by ((apply perm_rg; intro f; simp only [set_cons_zero, set_cons_succ, eraseIdx_cons_zero, eraseIdx_cons_succ, cons_append, nil_append, map_append, map_cons, map_nil, List.sum_append, List.sum_cons, List.sum_nil, map_flatMap, Nat.add_zero, Nat.zero_add]; ac_rfl)))
  -- a place within the node
  have within : ∀ {R : List Rg} {h' : Heap} {i : Nat}, St h [] ((t7, 0, enc x) :: R) h' → i < its.length → BTreeG_I_hintsearch.j11 (ptr tb 0) (ptr n 0) (ptr hb 0) (.int .i64 dp) (ptr t7 0) (.int .i64 i) (.bool false) (.int .i64 0) (.int .i64 ((its.length - 1 : Nat) : Int)) h' Q := fun {R} {h'} {i} u hi => by
    unfold BTreeG_I_hintsearch.j11; refine St.r_loadN0 u 0 rfl (by simp) ?_; refine r_nil ?_; refine r_fld ?_; refine u.r_loadB hn ?_; refine hr.at (n := i) (f := enc) rfl encl rfl rfl hi fun bb ob hbb => ?_; refine (hbb.st u).loadN rfl ?_; refine Less_ok hO (a := x) (b := its[i]) (s.join u) (u.base hlf) fun E2 h2' u2 => ?_
    have u := (u.join u2).perm List.perm_append_comm
    refine r_if (fun hc => ?_) (fun hc => ?_)
    · refine r_cmpI ?_
      have back : ∀ {R : List Rg} {h' : Heap}, St h [] ((t7, 0, enc x) :: R) h' → (∀ hp : i - 1 < its.length, 0 < i → lt its[i - 1] x = true) → BTreeG_I_hintsearch.j1 (ptr n 0) (ptr hb 0) (.int .i64 dp) (.int .i64 i) (.bool false) h' Q := fun u h5 => by
        obtain ⟨e1, e2⟩ := notfound_at o (x := x) ha (Nat.le_of_lt hi) (fun _ => hc) h5; exact fin u e1 e2
      refine r_br (fun h0' => ?_) (fun h0' => ?_)
      · have hi0 : 0 < i := by
          have : ¬ ((i : Int) = 0) := by simpa using h0'
          omega
        refine r_nil ?_; refine r_fld ?_; refine u.r_loadB hn ?_; refine r_sub1 (by omega) (by omega) ?_; refine hr.at (n := i - 1) (f := enc) rfl encl rfl rfl (by omega) fun bb ob hbb => ?_; refine (hbb.st u).loadN rfl ?_; refine St.r_loadN0 u 0 rfl (by simp) ?_; refine Less_ok hO (a := its[i - 1]) (b := x) (s.join u) (u.base hlf) fun E2 h2' u2 => ?_
        have u := (u.join u2).perm List.perm_append_comm
        refine r_if (fun h5 => back u fun _ _ => h5) (fun h5 => ?_)
        unfold BTreeG_I_hintsearch.j12; refine r_sub1 (by omega) (by omega) ?_; refine mid (lo := 0) u (by omega) (by omega) (fun i _ hi => absurd hi (Nat.not_lt_zero _)) (fun j hj hl => ?_)
        rcases Nat.lt_or_ge i j with hl2 | hl2
        · exact o.tr _ _ _ hc (hs _ j hi hj hl2)
        · have : j = i := by omega
          subst this; exact hc
      · have hi0 : i = 0 := by
          have : (i : Int) = 0 := by simpa using h0'
          omega
        exact back u fun _ e => by omega
    · refine r_nil ?_
      refine r_fld ?_; refine u.r_loadB hn ?_; refine hr.at (n := i) (f := enc) rfl encl rfl rfl hi fun bb ob hbb => ?_; refine (hbb.st u).loadN rfl ?_; refine St.r_loadN0 u 0 rfl (by simp) ?_; refine Less_ok hO (a := its[i]) (b := x) (s.join u) (u.base hlf) fun E2 h2' u2 => ?_
      have u := (u.join u2).perm List.perm_append_comm
      refine r_if (fun h5 => ?_) (fun h5 => ?_)
      · refine r_add1 (by omega) ?_
        refine mid (lo := i + 1) u (by omega) (by omega) (fun j hj hl => ?_) (fun j hj hl => by omega)
        exact o.asym (o.tr2 (lt := lt) (a := its[j]) (b := its[i]) (c := x) (by
          rcases Nat.lt_or_ge j i with hl2 | hl2
          · exact o.asym (hs j i hj hi hl2)
          · have : j = i := by omega
            subst this; exact o.irr _) h5)
      · obtain ⟨e1, e2⟩ := found_at o ha hi hc h5
        exact fin u e1 e2
  refine r_nil ?_; refine r_fld ?_; refine u.r_loadB hn ?_; refine hr.lenV ?_; refine r_sub1 (by omega) (by omega) ?_; refine r_cmpI ?_; refine r_br (fun hlt => ?_) (fun _ => cold)
  have hlt : dp < 8 := by have := of_decide_eq_true hlt; omega
  obtain ⟨b, hb'⟩ := hh.used hlt; obtain ⟨p, hp, hp0, hp1⟩ := hh.path hlt; obtain ⟨p, rfl⟩ : ∃ k : Nat, p = k := ⟨p.toNat, by omega⟩; refine r_nil ?_; refine r_fld ?_; refine r_idxA dp dp rfl hlt (by omega) ?_; refine St.r_load0 (sj u) 0 rfl hb' ?_; refine r_if (fun _ => ?_) (fun _ => cold)
  refine r_nil ?_; refine r_fld ?_; refine r_idxA dp (8 + dp) rfl hlt (by omega) ?_; refine St.r_load0 (sj u) 0 rfl hp ?_; refine r_cvI (z := (p : Int)) (i64w (by omega) (by omega)) ?_; refine r_nil ?_; refine r_fld ?_; refine u.r_loadB hn ?_; refine hr.lenV ?_; refine r_cmpI ?_; refine r_if (fun hge => ?_) (fun hl2 => ?_)
  · refine r_nil ?_
    refine r_fld ?_; refine u.r_loadB hn ?_; refine r_nil ?_; refine r_fld ?_; refine u.r_loadB hn ?_; refine hr.lenV ?_; refine r_sub1 (by omega) (by omega) ?_; refine hr.at (n := its.length - 1) (f := enc) rfl encl rfl rfl (by omega) fun bb ob hbb => ?_; refine (hbb.st u).loadN rfl ?_; refine St.r_loadN0 u 0 rfl (by simp) ?_; refine Less_ok hO (a := its[its.length - 1]) (b := x) (s.join u) (u.base hlf) fun E2 h2' u2 => ?_
    have u := (u.join u2).perm List.perm_append_comm
    refine r_if (fun h5 => ?_) (fun h5 => ?_)
    · refine r_nil ?_
      refine r_fld ?_; refine u.r_loadB hn ?_; refine hr.lenV ?_; obtain ⟨e1, e2⟩ := notfound_at o (x := x) ha (Nat.le_refl _) (fun hl => absurd hl (Nat.lt_irrefl _)) (fun _ _ => h5); exact fin u e1 e2
    · unfold BTreeG_I_hintsearch.j13
      refine r_nil ?_; refine r_fld ?_; refine u.r_loadB hn ?_; refine hr.lenV ?_; refine r_sub1 (by omega) (by omega) ?_; exact within u (by omega)
  · have : p < its.length := by have := of_decide_eq_false hl2; omega
    exact within u this
end
theorem find_ok (o : Swo lt) (hO : OrdC Z lf lt) {hv : Value} {hb n tb dp : Nat} {hc : List Value} {its : List It} {x : It} {iv : Value} {a : Option Addr} (hh : Hn hv hb hc) (hd : dp ≤ 4611686018427387903) (s : St h0 Z ((hb, 0, hc) :: E) h) (hlf : cl h tb 6 = some lf) {c0 c1 : Value} (hl : (n, 0, [c0, c1, iv, .pointer a]) ∈ E ++ Z) (hr : Rdl 2 h iv its.length (its.flatMap enc)) (ha : Asc lt its) (hb2 : its.length ≤ 4611686018427387903) (hne : 1 ≤ its.length)
    (H : ∀ hc' h', Hn hv hb hc' → St h0 Z ((hb, 0, hc') :: E) h' → Q (.tuple #[.int .i64 (pos lt its x), .bool (lget lt its x).isSome]) h') : BTreeG_I_find.call #[ptr tb 0, ptr n 0, av x, hv, .int .i64 dp] h Q := by
  have hn : cl h n 2 = some iv := by
    have := s.getM (j := 2) (List.mem_cons_of_mem _ hl) (by simp); simpa using this
  refine BTreeG_I_find.body _ _ _ _ _ _ _ ?_; unfold BTreeG_I_find.sh
  have u := St.start h
  refine St.r_box (cs := enc x) u fun t7 h1 u => ?_
  rcases hh with ⟨rfl, rfl⟩ | ⟨rfl, hh⟩
  · refine r_eqNilP ?_
    refine r_if (fun _ => ?_) (fun e => absurd e (by simp))
    refine St.r_loadN0 u 0 rfl (by simp) ?_; refine bsearch_ok o hO (s.join u) (u.base hlf) (u.base hn) (hr.st u) ha hb2 fun E2 h2 u2 => ?_; refine r_ext rfl ?_; refine r_ext rfl ?_; exact H _ _ (.inl ⟨rfl, rfl⟩) (St.dropMid (A := E2 ++ [(t7, 0, enc x)]) ((s.join (u.join u2)).perm (by ((apply perm_rg; intro f; simp only [set_cons_zero, set_cons_succ, eraseIdx_cons_zero, eraseIdx_cons_succ, cons_append, nil_append, map_append, map_cons, map_nil, List.sum_append, List.sum_cons, List.sum_nil, map_flatMap, Nat.add_zero, Nat.zero_add]; ac_rfl)))))
  · refine r_eqNilP ?_
    refine r_if (fun e => absurd e (by simp)) (fun _ => ?_)
    unfold BTreeG_I_find.j1; refine St.r_loadN0 u 0 rfl (by simp) ?_; refine hintsearch_ok o hO hh hd (E := [(t7, 0, enc x)] ++ E) ((s.join u).perm (by ((apply perm_rg; intro f; simp only [set_cons_zero, set_cons_succ, eraseIdx_cons_zero, eraseIdx_cons_succ, cons_append, nil_append, map_append, map_cons, map_nil, List.sum_append, List.sum_cons, List.sum_nil, map_flatMap, Nat.add_zero, Nat.zero_add]; ac_rfl)))) (u.base hlf) (c0 := c0) (c1 := c1) (a := a) (by rw [List.append_assoc]; exact List.mem_append_right _ hl) (hr.st u) ha hb2 hne fun hc' h2 hh' s2 => ?_; refine r_ext rfl ?_; refine r_ext rfl ?_; exact H _ _ (.inr ⟨rfl, hh'⟩) (St.dropMid (A := [(t7, 0, enc x)]) s2)
end Go.Proofs.Ythpmeccnddchpaa.Gi
end
section
namespace Go.Proofs.Ythpmeccnddchpaa.Gi
open Go.Hp Go.Proofs.Ythpmeccnddchpaa
variable {h0 h : Heap} {Z E : List Rg} {Q : Value → Heap → Prop} {lt : It → It → Bool} {lf : Value}
theorem isoLoad_ok {tb pb po n : Nat} {iso : Int} {m : Bool} (hi : cl h tb 0 = some (.int .u64 iso)) (hp : cl h pb po = some (ptr n 0)) (hn : m = true → cl h n 0 = some (.int .u64 iso)) (H : Q (ptr n 0) h) :
    BTreeG_I_isoLoad.call #[ptr tb 0, ptr pb po, .bool m] h Q := by
  refine BTreeG_I_isoLoad.body _ _ _ _ _ ?_; unfold BTreeG_I_isoLoad.sh
  have hj : BTreeG_I_isoLoad.j1 (ptr pb po) h Q := by
    unfold BTreeG_I_isoLoad.j1; refine r_nil ?_; exact r_ld hp H
  refine r_br (fun hm => ?_) (fun _ => hj)
  refine r_nil ?_; refine r_ld hp ?_; refine r_nil ?_; refine r_fld ?_; refine r_ld (hn hm) ?_; refine r_nil ?_; refine r_fld ?_; refine r_ld hi ?_; refine r_cmpI ?_; refine r_if (fun e => absurd e (by simp)) (fun _ => hj)
theorem newNode_leaf {tb : Nat} {iso : Int} (hi : cl h tb 0 = some (.int .u64 iso)) (H : ∀ n h', St h [] [(n, 0, [.int .u64 iso, .int .i64 0, .slice none 0 0, .pointer none])] h' → Q (ptr n 0) h') : BTreeG_I_newNode.call #[ptr tb 0, .bool true] h Q := by
  refine BTreeG_I_newNode.body _ _ _ _ ?_; unfold BTreeG_I_newNode.sh
  have s := St.start h
  refine r_nil ?_; refine r_fld ?_; refine s.r_loadB hi ?_
  ((apply r_build; ((simp only [fillV, fill1, Value.cells, zeros_succ, zeros_zero, size_toArray, length_cons, length_nil, length_append, take_succ_cons, take_zero, take_nil, drop_succ_cons, drop_zero, drop_nil, cons_append, nil_append, append_nil, Nat.reduceAdd, Nat.reduceMul, Nat.reduceLeDiff, Nat.reduceEqDiff, and_self, and_true, true_and, if_true, Nat.le_refl, Nat.zero_add, Nat.add_zero, Nat.zero_mul, reduceIte, if_false] <;> rfl))))
  refine St.r_box (cs := [.int .u64 iso, .int .i64 0, .slice none 0 0, .pointer none]) s fun n h s => ?_; refine r_not ?_; refine r_if (fun e => absurd e (by decide)) (fun _ => ?_)
  unfold BTreeG_I_newNode.j1; exact H n h s
theorem newNode_inner {tb : Nat} {iso : Int} (hi : cl h tb 0 = some (.int .u64 iso)) (H : ∀ n kb h', St h [] [(n, 0, [.int .u64 iso, .int .i64 0, .slice none 0 0, ptr kb 0]), (kb, 0, [.slice none 0 0])] h' → Q (ptr n 0) h') : BTreeG_I_newNode.call #[ptr tb 0, .bool false] h Q := by
  refine BTreeG_I_newNode.body _ _ _ _ ?_; unfold BTreeG_I_newNode.sh
  have s := St.start h
  refine r_nil ?_; refine r_fld ?_; refine s.r_loadB hi ?_
  ((apply r_build; ((simp only [fillV, fill1, Value.cells, zeros_succ, zeros_zero, size_toArray, length_cons, length_nil, length_append, take_succ_cons, take_zero, take_nil, drop_succ_cons, drop_zero, drop_nil, cons_append, nil_append, append_nil, Nat.reduceAdd, Nat.reduceMul, Nat.reduceLeDiff, Nat.reduceEqDiff, and_self, and_true, true_and, if_true, Nat.le_refl, Nat.zero_add, Nat.add_zero, Nat.zero_mul, reduceIte, if_false] <;> rfl))))
  refine St.r_box (cs := [.int .u64 iso, .int .i64 0, .slice none 0 0, .pointer none]) s fun n h s => ?_; refine r_not ?_; refine r_if (fun _ => ?_) (fun e => absurd e (by decide))
  refine s.r_alloc fun kb h s => ?_; refine r_nil ?_; refine r_fld ?_; refine St.r_store0 s 1 rfl (by simp) rfl ?_; intro h s
  unfold BTreeG_I_newNode.j1; exact H n kb h (s.perm (by ((apply perm_rg; intro f; simp only [set_cons_zero, set_cons_succ, eraseIdx_cons_zero, eraseIdx_cons_succ, cons_append, nil_append, map_append, map_cons, map_nil, List.sum_append, List.sum_cons, List.sum_nil, map_flatMap, Nat.add_zero, Nat.zero_add]; ac_rfl))))
theorem updateCount_leaf {n b o len : Nat} {c1 c2 iv : Value} {xs sp : List Value} (s : St h0 Z ((n, 0, [c1, c2, iv, .pointer none]) :: E) h) (w : Own 2 iv len b o xs sp)
    (H : ∀ h', St h0 Z ((n, 0, [c1, .int .i64 len, iv, .pointer none]) :: E) h' → Q (.tuple #[]) h') : node_I_updateCount.call #[ptr n 0] h Q := by
  refine node_I_updateCount.body _ _ _ ?_; unfold node_I_updateCount.sh; refine r_nil ?_; refine r_fld ?_; refine St.r_load0 s 0 rfl rfl ?_; refine w.lenV ?_; refine r_nil ?_; refine r_fld ?_; refine St.r_store0 s 0 rfl (by simp) rfl ?_; intro h s
  try simp only [List.set_cons_zero, List.set_cons_succ] at s
  refine node_leaf_ok (a := none) (s.get (k := 0) (j := 3) rfl (by simp)) ?_; refine r_not ?_; refine r_if (fun e => absurd e (by decide)) (fun _ => ?_)
  exact H _ s
theorem updateCount_inner {n kb b o rb ro len : Nat} {c1 c2 iv kv : Value} {xs sp ksp : List Value} {ids : List Nat} {c : Nat → Int} (s : St h0 Z ((n, 0, [c1, c2, iv, ptr kb 0]) :: (kb, 0, [kv]) :: (rb, ro, (ids.map fun m => ptr m 0) ++ ksp) :: E) h)
    (w : Own 2 iv len b o xs sp) (wkid : Own 1 kv ids.length rb ro (ids.map fun m => ptr m 0) ksp) (hids : ids.length ≤ 4294967296)
    (hc : ∀ j (hj : j < ids.length), ∃ a1 a2 a3, (ids[j], 0, [a1, .int .i64 (c j), a2, a3]) ∈ E ++ Z) (hb : ∀ j, j ≤ ids.length → 0 ≤ (len : Int) + ((List.range j).map c).sum ∧ (len : Int) + ((List.range j).map c).sum ≤ 9223372036854775807)
    (H : ∀ h', St h0 Z ((n, 0, [c1, .int .i64 ((len : Int) + ((List.range ids.length).map c).sum), iv, ptr kb 0]) :: (kb, 0, [kv]) :: (rb, ro, (ids.map fun m => ptr m 0) ++ ksp) :: E) h' → Q (.tuple #[]) h') : node_I_updateCount.call #[ptr n 0] h Q := by
  refine node_I_updateCount.body _ _ _ ?_; unfold node_I_updateCount.sh; refine r_nil ?_; refine r_fld ?_; refine St.r_load0 s 0 rfl rfl ?_; refine w.lenV ?_; refine r_nil ?_; refine r_fld ?_; refine St.r_store0 s 0 rfl (by simp) rfl ?_; intro h s
  try simp only [List.set_cons_zero, List.set_cons_succ] at s
  refine node_leaf_ok (a := some ⟨kb, 0, none⟩) (s.get (k := 0) (j := 3) rfl (by simp)) ?_; refine r_not ?_; refine r_if (fun _ => ?_) (fun e => absurd e (by simp))
  refine loop_intro (fun t h => ∃ j : Nat, t = [.int .i64 j] ∧ j ≤ ids.length ∧ St h0 Z ((n, 0, [c1, .int .i64 ((len : Int) + ((List.range j).map c).sum), iv, ptr kb 0]) :: (kb, 0, [kv]) :: (rb, ro, (ids.map fun m => ptr m 0) ++ ksp) :: E) h)
    (fun t _ => ids.length - (Hp.iv (t.getD 0 undef)).toNat) ⟨0, rfl, by omega, by simpa using s⟩ ?_
  rintro t h ⟨j, rfl, hj, s⟩
  unfold node_I_updateCount.l1.b; refine r_nil ?_; refine r_fld ?_; refine St.r_load0 s 0 rfl rfl ?_; refine r_nil ?_; refine St.r_load0 s 1 rfl rfl ?_; refine wkid.lenV ?_; refine r_cmpI ?_; refine r_if (fun hlt => ?_) (fun hge => ?_)
  · have hlt : j < ids.length := by simpa using hlt
    unfold node_I_updateCount.j2; refine r_nil ?_; refine r_fld ?_; refine St.r_load0 s 0 rfl rfl ?_; refine r_nil ?_; refine r_fld ?_; refine St.r_load0 s 0 rfl rfl ?_; refine r_nil ?_; refine St.r_load0 s 1 rfl rfl ?_; refine wkid.idx (n := j) rfl hlt ?_; refine s.r_load1 2 rfl (v := ptr ids[j] 0) (by rw [Nat.mul_one, List.getElem?_append_left (by simpa using hlt), List.getElem?_map, List.getElem?_eq_getElem hlt]; rfl) ?_; obtain ⟨a1, a2, a3, hm⟩ := hc j hlt; refine r_nil ?_; refine r_fld ?_; refine s.r_loadM (xs := [a1, .int .i64 (c j), a2, a3]) (by simp only [List.cons_append, List.mem_cons]; exact .inr (.inr (.inr hm))) rfl ?_; refine r_add (z := (len : Int) + ((List.range (j + 1)).map c).sum) ?_ ?_
    · have := hb (j + 1) hlt
      rw [List.range_succ, List.map_append, List.sum_append] at this ⊢
      simp only [List.map_cons, List.map_nil, List.sum_cons, List.sum_nil] at this ⊢
      rw [i64w (by omega) (by omega)]; omega
    · refine r_nil ?_
      refine r_fld ?_; refine St.r_store0 s 0 rfl (by simp) rfl ?_; intro h s
      try simp only [List.set_cons_zero, List.set_cons_succ] at s
      unfold node_I_updateCount.j3; refine r_add (z := ((j + 1 : Nat) : Int)) (by rw [i64w (by omega) (by omega)]; omega) ?_; exact ⟨⟨j + 1, rfl, hlt, s⟩, by simp; omega⟩
  · have hge : j = ids.length := by simp at hge; omega
    subst hge; exact H h s
structure Gd (iso : Int) {k : Nat} (t : GT It k) : Prop where
  wf : t.Wf enc 2 iso
  cn : t.Cn
  mine : t.Mine
theorem Gd.kid {iso : Int} {k : Nat} {t : GT It (k + 1)} (g : Gd iso t) {c : GT It k} (hc : c ∈ t.2) : Gd iso c := ⟨(g.wf.2.2.2 c hc).1, g.cn.2 c hc, g.mine.2 c hc⟩
abbrev fp (m : Nat) : List Value := [ptr m 0]
theorem fpl (m : Nat) : (fp m).length = 1 := rfl
theorem mfp (l : List Nat) : (l.map fun m => ptr m 0) = l.flatMap fp := List.map_eq_flatMap
theorem GT.topA : ∀ {k : Nat} {t : GT It k}, ∃ a1 a2 a3, (t.id, 0, [a1, .int .i64 t.nd.cnt, a2, a3]) ∈ t.all enc
  | 0, d => ⟨_, _, _, List.mem_cons_self ..⟩
  | _ + 1, t => ⟨_, _, _, List.mem_append.2 (.inl (List.mem_cons_self ..))⟩
theorem r_div {k : IntKind} {x y z : Int} {K : Value → Prop} (hy : y ≠ 0) (hz : k.wrap (x.tdiv y) = z) (H : K (.int k z)) : divi (.int k x) (.int k y) K := ⟨k, x, y, rfl, rfl, hy, by rw [hz]; exact H⟩
theorem half {m : Nat} (hm : m ≤ 1048576) : IntKind.wrap .i64 ((m : Int).tdiv 2) = ((m / 2 : Nat) : Int) := by
  have : (m : Int).tdiv 2 = ((m / 2 : Nat) : Int) := (Int.ofNat_tdiv m 2).symm
  rw [this, i64w (by omega) (by omega)]
theorem updateCount_kids {k : Nat} {ts : List (GT It k)} {n kb b o rb ro len : Nat} {c1 c2 iv kv : Value} {xs sp ksp : List Value}
    (s : St h0 Z ((n, 0, [c1, c2, iv, ptr kb 0]) :: (kb, 0, [kv]) :: (rb, ro, (ts.map GT.id).flatMap fp ++ ksp) :: E) h)
    (w : Own 2 iv len b o xs sp) (wK : Own 1 kv (ts.map GT.id).length rb ro ((ts.map GT.id).flatMap fp) ksp) (hm : ∀ t ∈ ts, t.Cn) (hE : ∀ t ∈ ts, ∀ r ∈ t.all enc, r ∈ E)
    (hl : ts.length ≤ 4294967296) (hsz : len + (ts.map fun t => t.pt.items.length).sum ≤ 4611686018427387904)
    (H : ∀ h', St h0 Z ((n, 0, [c1, .int .i64 ((len + (ts.map fun t => t.pt.items.length).sum : Nat) : Int), iv, ptr kb 0]) :: (kb, 0, [kv]) :: (rb, ro, (ts.map GT.id).flatMap fp ++ ksp) :: E) h' → Q (.tuple #[]) h') : node_I_updateCount.call #[ptr n 0] h Q := by
  have hmm : (ts.map fun t => t.pt.items).map List.length = ts.map fun t => t.pt.items.length := by rw [List.map_map]; rfl
  have hsum : ∀ i, i ≤ ts.length → ((List.range i).map fun j => (ts.map fun t => t.nd.cnt)[j]?.getD 0).sum = (((ts.map fun t => t.pt.items.length).take i).sum : Nat) := fun i hi => by
    rw [sum_range _ i (by simpa using hi), ← List.map_take, GT.Cn.sum (fun t ht => hm t (List.mem_of_mem_take ht)), List.map_map, ← List.map_take]; rfl
  rw [← mfp] at s wK; refine updateCount_inner (c := fun j => (ts.map fun t => t.nd.cnt)[j]?.getD 0) s w wK (by simp; omega) (fun i hi => ?_) (fun i hi => ?_) fun h s => ?_
  · have hi' : i < ts.length := by simpa using hi
    obtain ⟨a1, a2, a3, hmem⟩ := GT.topA (t := ts[i]); refine ⟨a1, a2, a3, ?_⟩
    simp only [List.getElem_map, List.getElem?_map, List.getElem?_eq_getElem hi', Option.map_some, Option.getD_some]
    exact List.mem_append.2 (.inl (hE _ (List.getElem_mem hi') _ hmem))
  · rw [hsum i (by simpa using hi)]
    have := sum_take_le (ts.map fun t => t.pt.items.length) i
    omega
  · rw [show (ts.map GT.id).length = ts.length by simp, hsum _ (Nat.le_refl _), List.take_of_length_le (by simp)] at s
    rw [mfp] at s; exact H h (by rw [Int.natCast_add]; exact s)
theorem nodeSplit_ok : ∀ {k : Nat} (t : GT It k) {h : Heap} {E : List Rg} {tb m lo : Nat} {iso mn : Int} {ctr : Option Addr}, (tb, 0, hd0 iso ctr) ∈ Z → (tb, 4, hd4 lf mn m) ∈ Z → 0 < m → m ≤ 1024 → t.pt.Fl m lo → t.pt.its.length = m → t.pt.items.length ≤ 4611686018427387904 → Gd iso t →
    St h0 Z (t.all enc ++ E) h → (∀ (l r : GT It k) md h', t.pt.its[m / 2]? = some md → l.pt = t.pt.lo (m / 2) → r.pt = t.pt.hi (m / 2) → l.id = t.id → Gd iso l → Gd iso r → St h0 Z (l.all enc ++ (r.all enc ++ E)) h' → Q (.tuple #[ptr r.id 0, .agg (enc md).toArray]) h') →
    BTreeG_I_nodeSplit.call #[ptr tb 0, ptr t.id 0] h Q
  | 0, (d : Nd It), h, E, tb, m, lo, iso, mn, ctr, hT0, hT4, hm0, hm1, fl, hlen, hsz, g, s, H => by
    obtain ⟨own, n, is', cnt, its, iv, ib, io, isp, kb, kv, krb, kro, ksp⟩ := d
    have hi : ∀ {E h}, St h0 Z E h → cl h tb 0 = some (.int .u64 iso) := fun s => by have := s.getZ hT0 (j := 0) (by simp); simpa using this
    have hlen : its.length = m := hlen
    have w : Own 2 iv its.length ib io (its.flatMap enc) isp := g.wf.1
    have s : St h0 Z ((n, 0, [.int .u64 is', .int .i64 cnt, iv, .pointer none]) :: (ib, io, its.flatMap enc ++ isp) :: E) h := s
    have hiso : is' = iso := g.wf.2.1 g.mine
    subst hiso; obtain ⟨md, hmd⟩ : ∃ md, its[m / 2]? = some md := ⟨its[m / 2]'(by omega), List.getElem?_eq_getElem (by omega)⟩
    show BTreeG_I_nodeSplit.call #[ptr tb 0, ptr n 0] h Q
    refine BTreeG_I_nodeSplit.body _ _ _ _ ?_; unfold BTreeG_I_nodeSplit.sh; refine s.r_alloc fun t5 h s => ?_; refine r_nil ?_; refine r_fld ?_; refine s.r_lz hT4 5 rfl rfl ?_; refine r_div (by decide) (half (by omega)) ?_; refine r_nil ?_; refine r_fld ?_; refine St.r_load0 s 1 rfl rfl ?_; refine w.idx (n := m / 2) rfl (by omega) ?_; refine s.r_loadF encl 2 rfl hmd ?_; refine St.r_storeN0 s 0 rfl rfl (by simp) (enc1 _) ?_; intro h s
    refine node_leaf_ok (a := none) (s.get (k := 1) (j := 3) rfl (by simp)) ?_; refine newNode_leaf (hi s) fun n' h s1 => ?_
    have s := s.join s1
    refine r_nil ?_; refine r_fld ?_; refine St.r_load0 s 2 rfl rfl ?_; refine r_add (z := ((m / 2 + 1 : Nat) : Int)) (by rw [i64w (by omega) (by omega)]; omega) ?_; refine w.slcLo encl (i := m / 2 + 1) rfl (by omega) fun vr wrr => ?_; refine r_nil ?_; refine r_fld ?_; refine St.r_store0 s 0 rfl (by simp) wrr.one ?_; intro h s
    refine node_leaf_ok (a := none) (s.get (k := 2) (j := 3) rfl (by simp)) ?_; refine r_not ?_; refine r_if (fun e => absurd e (by decide)) (fun _ => ?_)
    unfold BTreeG_I_nodeSplit.j1; refine updateCount_leaf s wrr fun h s => ?_; refine r_nil ?_; refine r_fld ?_; refine St.r_load0 s 2 rfl rfl ?_; refine r_nil ?_; refine r_fld ?_; refine s.r_lzN hT4 3 rfl (by simp) ?_; refine w.idx (n := m / 2) rfl (by omega) ?_; refine s.r_storeF (x := emp) encl 3 rfl (by omega) (enc1 _) fun h s => ?_; refine r_nil ?_; refine r_fld ?_; refine St.r_load0 s 2 rfl rfl ?_; refine w.slc3 encl (i := m / 2) rfl rfl (by omega) fun vl wl => ?_; refine r_nil ?_; refine r_fld ?_; refine St.r_store0 s 2 rfl (by simp) wl.one ?_; intro h s
    refine node_leaf_ok (a := none) (s.get (k := 2) (j := 3) rfl (by simp)) ?_; refine r_not ?_; refine r_if (fun e => absurd e (by decide)) (fun _ => ?_)
    unfold BTreeG_I_nodeSplit.j2; refine updateCount_leaf (s.front 2 rfl) wl fun h s => ?_; refine St.r_loadN0 s 2 rfl (by simp) ?_; refine St.r_storeN0 s 2 rfl rfl (by simp) (enc1 _) ?_; intro h s
    refine St.r_loadN0 s 2 rfl (by simp) ?_
    have s : St h0 Z ((n, 0, [.int .u64 is', .int .i64 (its.take (m / 2)).length, vl, .pointer none]) :: (n', 0, [.int .u64 is', .int .i64 (its.drop (m / 2 + 1)).length, vr, .pointer none]) :: (t5, 0, enc md) :: (ib, io, (its.set (m / 2) emp).flatMap enc ++ isp) :: E) h := s
    have s := St.cut3 encl (x := emp) (i := m / 2) (s.front 3 rfl) (by rw [List.getElem?_set_self (by omega)])
    rw [List.take_set_of_le (Nat.le_refl _), List.drop_set_of_lt (by omega)] at s
    have hl1 : (its.take (m / 2)).length = m / 2 := by rw [List.length_take]; omega
    refine H (⟨true, n, is', (its.take (m / 2)).length, its.take (m / 2), vl, ib, io, [], 0, .pointer none, 0, 0, []⟩ : Nd It) (⟨true, n', is', (its.drop (m / 2 + 1)).length, its.drop (m / 2 + 1), vr, ib, io + (m / 2 + 1) * 2, isp, 0, .pointer none, 0, 0, []⟩ : Nd It) md h hmd rfl rfl rfl ⟨⟨wl, by simp⟩, rfl, rfl⟩ ⟨⟨wrr, by simp⟩, rfl, rfl⟩ ?_; exact (s.perm (E' := (ib, io + m / 2 * 2, enc emp) :: (t5, 0, enc md) :: (n, 0, [.int .u64 is', .int .i64 (its.take (m / 2)).length, vl, .pointer none]) :: (ib, io, (its.take (m / 2)).flatMap enc ++ []) :: (n', 0, [.int .u64 is', .int .i64 (its.drop (m / 2 + 1)).length, vr, .pointer none]) :: (ib, io + (m / 2 + 1) * 2, (its.drop (m / 2 + 1)).flatMap enc ++ isp) :: E) (by rw [List.append_nil]; ((apply perm_rg; intro f; simp only [set_cons_zero, set_cons_succ, eraseIdx_cons_zero, eraseIdx_cons_succ, cons_append, nil_append, map_append, map_cons, map_nil, List.sum_append, List.sum_cons, List.sum_nil, map_flatMap, Nat.add_zero, Nat.zero_add]; ac_rfl)))).drop 2
  | k + 1, t, h, E, tb, m, lo, iso, mn, ctr, hT0, hT4, hm0, hm1, fl, hlen, hsz, g, s, H => by
    obtain ⟨d, ts⟩ := t; obtain ⟨own, n, is', cnt, its, iv, ib, io, isp, kb, kv, krb, kro, ksp⟩ := d
    have hi : ∀ {E h}, St h0 Z E h → cl h tb 0 = some (.int .u64 iso) := fun s => by have := s.getZ hT0 (j := 0) (by simp); simpa using this
    have hlen : its.length = m := hlen
    have w : Own 2 iv its.length ib io (its.flatMap enc) isp := g.wf.1.1
    have wK : Own 1 kv ts.length krb kro ((ts.map GT.id).map fun m => ptr m 0) ksp := g.wf.2.1
    have hkl : ts.length = its.length + 1 := g.wf.2.2.1
    have hidl : (ts.map GT.id).length = ts.length := List.length_map ..
    have hiso : is' = iso := g.wf.1.2.1 g.mine.1
    subst hiso; rw [← hidl, mfp] at wK
    have s : St h0 Z ((n, 0, [.int .u64 is', .int .i64 cnt, iv, ptr kb 0]) :: (ib, io, its.flatMap enc ++ isp) :: (kb, 0, [kv]) :: (krb, kro, ((ts.map GT.id).map fun m => ptr m 0) ++ ksp) :: (ts.flatMap (GT.all enc) ++ E)) h := s
    rw [mfp] at s
    have hmem : ∀ t ∈ ts, ∀ r ∈ t.all enc, r ∈ ts.flatMap (GT.all enc) ++ E := fun t ht r hr => List.mem_append.2 (.inl (List.mem_flatMap.2 ⟨t, ht, hr⟩))
    have hsz' : its.length + (ts.map fun t => t.pt.items.length).sum ≤ 4611686018427387904 := by
      have h1 : (inter its ((ts.map GT.pt).map PT.items)).length = _ := inter_length _ _
      rw [List.map_map, List.map_map] at h1
      have h2 : (inter its ((ts.map GT.pt).map PT.items)).length ≤ 4611686018427387904 := hsz
      rw [List.map_map] at h2; rw [h1] at h2; exact h2
    have hcn : ∀ t ∈ ts, t.Cn := fun t ht => g.cn.2 t ht
    have hsum : (ts.map fun t => t.pt.items.length).sum = ((ts.take (m / 2 + 1)).map fun t => t.pt.items.length).sum + ((ts.drop (m / 2 + 1)).map fun t => t.pt.items.length).sum := by
      rw [← List.sum_append, ← List.map_append, List.take_append_drop]
    obtain ⟨md, hmd⟩ : ∃ md, its[m / 2]? = some md := ⟨its[m / 2]'(by omega), List.getElem?_eq_getElem (by omega)⟩
    show BTreeG_I_nodeSplit.call #[ptr tb 0, ptr n 0] h Q
    refine BTreeG_I_nodeSplit.body _ _ _ _ ?_; unfold BTreeG_I_nodeSplit.sh; refine s.r_alloc fun t5 h s => ?_; refine r_nil ?_; refine r_fld ?_; refine s.r_lz hT4 5 rfl rfl ?_; refine r_div (by decide) (half (by omega)) ?_; refine r_nil ?_; refine r_fld ?_; refine St.r_load0 s 1 rfl rfl ?_; refine w.idx (n := m / 2) rfl (by omega) ?_; refine s.r_loadF encl 2 rfl hmd ?_; refine St.r_storeN0 s 0 rfl rfl (by simp) (enc1 _) ?_; intro h s
    refine node_leaf_ok (a := some ⟨kb, 0, none⟩) (s.get (k := 1) (j := 3) rfl (by simp)) ?_; refine newNode_inner (hi s) fun n' kb' h s1 => ?_
    have s := s.join s1
    refine r_nil ?_; refine r_fld ?_; refine St.r_load0 s 3 rfl rfl ?_; refine r_add (z := ((m / 2 + 1 : Nat) : Int)) (by rw [i64w (by omega) (by omega)]; omega) ?_; refine w.slcLo encl (i := m / 2 + 1) rfl (by omega) fun vr wrr => ?_; refine r_nil ?_; refine r_fld ?_; refine St.r_store0 s 0 rfl (by simp) wrr.one ?_; intro h s
    refine node_leaf_ok (a := some ⟨kb, 0, none⟩) (s.get (k := 3) (j := 3) rfl (by simp)) ?_; refine r_not ?_; refine r_if (fun _ => ?_) (fun e => absurd e (by simp))
    refine r_nil ?_; refine r_fld ?_; refine St.r_load0 s 0 rfl rfl ?_; refine r_nil ?_; refine r_fld ?_; refine St.r_load0 s 3 rfl rfl ?_; refine r_nil ?_; refine St.r_load0 s 5 rfl rfl ?_; refine r_add (z := ((m / 2 + 1 : Nat) : Int)) (by rw [i64w (by omega) (by omega)]; omega) ?_; refine wK.slcLo fpl (i := m / 2 + 1) rfl (by omega) fun vkr wkr => ?_; refine r_nil ?_; refine St.r_store0 s 1 rfl (by simp) wkr.one ?_; intro h s
    unfold BTreeG_I_nodeSplit.j1
    have ecut : (ts.map GT.id).flatMap fp ++ ksp = ((ts.take (m / 2 + 1)).map GT.id).flatMap fp ++ (((ts.drop (m / 2 + 1)).map GT.id).flatMap fp ++ ksp) := by
      rw [← List.append_assoc, ← List.flatMap_append, ← List.map_append, List.take_append_drop]
    have s := s.front 6 rfl
    rw [ecut] at s
    have s := s.cut
    rw [flat_len fpl, List.length_map, List.length_take, Nat.min_eq_left (show m / 2 + 1 ≤ ts.length by omega)] at s; rw [← List.map_drop] at wkr
    refine updateCount_kids (ts := ts.drop (m / 2 + 1)) (s.perm (E' := (n', 0, _) :: (kb', 0, _) :: (krb, kro + (m / 2 + 1) * 1, ((ts.drop (m / 2 + 1)).map GT.id).flatMap fp ++ ksp) :: (krb, kro, ((ts.take (m / 2 + 1)).map GT.id).flatMap fp) :: (t5, 0, enc md) :: (n, 0, [.int .u64 is', .int .i64 cnt, iv, ptr kb 0]) :: (ib, io, its.flatMap enc ++ isp) :: (kb, 0, [kv]) :: (ts.flatMap (GT.all enc) ++ E)) (by ((apply perm_rg; intro f; simp only [set_cons_zero, set_cons_succ, eraseIdx_cons_zero, eraseIdx_cons_succ, cons_append, nil_append, map_append, map_cons, map_nil, List.sum_append, List.sum_cons, List.sum_nil, map_flatMap, Nat.add_zero, Nat.zero_add]; ac_rfl)))) wrr wkr (fun t ht => hcn t (List.mem_of_mem_drop ht))
      (fun t ht r hr => by have := hmem t (List.mem_of_mem_drop ht) r hr; simp only [List.mem_cons]; exact .inr (.inr (.inr (.inr (.inr this))))) (by rw [List.length_drop]; omega) (by rw [List.length_drop]; omega) fun h s => ?_
    refine r_nil ?_; refine r_fld ?_; refine St.r_load0 s 5 rfl rfl ?_; refine r_nil ?_; refine r_fld ?_; refine s.r_lzN hT4 3 rfl (by simp) ?_; refine w.idx (n := m / 2) rfl (by omega) ?_; refine s.r_storeF (x := emp) encl 6 rfl (by omega) (enc1 _) fun h s => ?_; refine r_nil ?_; refine r_fld ?_; refine St.r_load0 s 5 rfl rfl ?_; refine w.slc3 encl (i := m / 2) rfl rfl (by omega) fun vl wl => ?_; refine r_nil ?_; refine r_fld ?_; refine St.r_store0 s 5 rfl (by simp) wl.one ?_; intro h s
    refine node_leaf_ok (a := some ⟨kb, 0, none⟩) (s.get (k := 5) (j := 3) rfl (by simp)) ?_; refine r_not ?_; refine r_if (fun _ => ?_) (fun e => absurd e (by simp))
    refine r_nil ?_; refine r_fld ?_; refine St.r_load0 s 5 rfl rfl ?_; refine r_nil ?_; refine r_fld ?_; refine St.r_load0 s 5 rfl rfl ?_; refine r_nil ?_; refine St.r_load0 s 7 rfl rfl ?_; refine r_add (z := ((m / 2 + 1 : Nat) : Int)) (by rw [i64w (by omega) (by omega)]; omega) ?_; refine r_add (z := ((m / 2 + 1 : Nat) : Int)) (by rw [i64w (by omega) (by omega)]; omega) ?_; refine wK.slc3 fpl (i := m / 2 + 1) rfl rfl (by omega) fun vkl wkl => ?_; refine r_nil ?_; refine St.r_store0 s 7 rfl (by simp) wkl.one ?_; intro h s
    unfold BTreeG_I_nodeSplit.j2; rw [← List.map_take] at wkl
    have s : St h0 Z ((n, 0, [.int .u64 is', .int .i64 cnt, vl, ptr kb 0]) :: (kb, 0, [vkl]) :: (krb, kro, ((ts.take (m / 2 + 1)).map GT.id).flatMap fp ++ []) :: (n', 0, [.int .u64 is', .int .i64 (((its.drop (m / 2 + 1)).length + ((ts.drop (m / 2 + 1)).map fun t => t.pt.items.length).sum : Nat) : Int), vr, ptr kb' 0]) :: (kb', 0, [vkr]) :: (krb, kro + (m / 2 + 1) * 1, ((ts.drop (m / 2 + 1)).map GT.id).flatMap fp ++ ksp) :: (t5, 0, enc md) :: (ib, io, (its.set (m / 2) emp).flatMap enc ++ isp) :: (ts.flatMap (GT.all enc) ++ E)) h := s.perm (by rw [List.append_nil]; ((apply perm_rg; intro f; simp only [set_cons_zero, set_cons_succ, eraseIdx_cons_zero, eraseIdx_cons_succ, cons_append, nil_append, map_append, map_cons, map_nil, List.sum_append, List.sum_cons, List.sum_nil, map_flatMap, Nat.add_zero, Nat.zero_add]; ac_rfl)))
    refine updateCount_kids (ts := ts.take (m / 2 + 1)) s wl wkl (fun t ht => hcn t (List.mem_of_mem_take ht))
      (fun t ht r hr => by have := hmem t (List.mem_of_mem_take ht) r hr; simp only [List.mem_cons]; exact .inr (.inr (.inr (.inr (.inr this))))) (by rw [List.length_take]; omega) (by rw [List.length_take]; omega) fun h s => ?_
    refine St.r_loadN0 s 6 rfl (by simp) ?_; refine St.r_storeN0 s 6 rfl rfl (by simp) (enc1 _) ?_; intro h s
    refine St.r_loadN0 s 6 rfl (by simp) ?_
    have s := St.cut3 encl (x := emp) (i := m / 2) (s.front 7 rfl) (by rw [List.getElem?_set_self (by omega)])
    rw [List.take_set_of_le (Nat.le_refl _), List.drop_set_of_lt (by omega)] at s
    have cnt' : ∀ (a : List It) (b : List (GT It k)), (inter a ((b.map GT.pt).map PT.items)).length = a.length + (b.map fun t => t.pt.items.length).sum := fun a b => by
      rw [inter_length, List.map_map, List.map_map]; rfl
    refine H ((⟨true, n, is', (((its.take (m / 2)).length + ((ts.take (m / 2 + 1)).map fun t => t.pt.items.length).sum : Nat) : Int), its.take (m / 2), vl, ib, io, [], kb, vkl, krb, kro, []⟩ : Nd It), ts.take (m / 2 + 1)) ((⟨true, n', is', (((its.drop (m / 2 + 1)).length + ((ts.drop (m / 2 + 1)).map fun t => t.pt.items.length).sum : Nat) : Int), its.drop (m / 2 + 1), vr, ib, io + (m / 2 + 1) * 2, isp, kb', vkr, krb, kro + (m / 2 + 1) * 1, ksp⟩ : Nd It), ts.drop (m / 2 + 1)) md h hmd ?_ ?_ rfl ?_ ?_ ?_
    · show (its.take (m / 2), (ts.take (m / 2 + 1)).map GT.pt) = (its.take (m / 2), (ts.map GT.pt).take (m / 2 + 1)); rw [List.map_take]
    · show (its.drop (m / 2 + 1), (ts.drop (m / 2 + 1)).map GT.pt) = (its.drop (m / 2 + 1), (ts.map GT.pt).drop (m / 2 + 1)); rw [List.map_drop]
    · refine ⟨⟨⟨wl, by simp⟩, ?_, ?_, fun c hc => ⟨(g.wf.2.2.2 c (List.mem_of_mem_take hc)).1, fun e => by simp at e⟩⟩, ⟨?_, fun c hc => g.cn.2 c (List.mem_of_mem_take hc)⟩, ⟨rfl, fun c hc => g.mine.2 c (List.mem_of_mem_take hc)⟩⟩
      · rw [mfp]; rw [List.length_map] at wkl; exact wkl
      · show (ts.take (m / 2 + 1)).length = (its.take (m / 2)).length + 1; rw [List.length_take, List.length_take]; omega
      · exact congrArg Int.ofNat (cnt' _ _).symm
    · refine ⟨⟨⟨wrr, by simp⟩, ?_, ?_, fun c hc => ⟨(g.wf.2.2.2 c (List.mem_of_mem_drop hc)).1, fun e => by simp at e⟩⟩, ⟨?_, fun c hc => g.cn.2 c (List.mem_of_mem_drop hc)⟩, ⟨rfl, fun c hc => g.mine.2 c (List.mem_of_mem_drop hc)⟩⟩
      · rw [mfp]; rw [List.length_map] at wkr; exact wkr
      · show (ts.drop (m / 2 + 1)).length = (its.drop (m / 2 + 1)).length + 1; rw [List.length_drop, List.length_drop]; omega
      · exact congrArg Int.ofNat (cnt' _ _).symm
    · have ef : ts.flatMap (GT.all enc) = (ts.take (m / 2 + 1)).flatMap (GT.all enc) ++ (ts.drop (m / 2 + 1)).flatMap (GT.all enc) := by rw [← List.flatMap_append, List.take_append_drop]
      have s := (s.perm (E' := (ib, io + m / 2 * 2, enc emp) :: (t5, 0, enc md) :: (((n, 0, [.int .u64 is', .int .i64 (((its.take (m / 2)).length + ((ts.take (m / 2 + 1)).map fun t => t.pt.items.length).sum : Nat) : Int), vl, ptr kb 0]) :: (ib, io, (its.take (m / 2)).flatMap enc ++ []) :: (kb, 0, [vkl]) :: (krb, kro, ((ts.take (m / 2 + 1)).map GT.id).flatMap fp ++ []) :: (ts.take (m / 2 + 1)).flatMap (GT.all enc)) ++
        (((n', 0, [.int .u64 is', .int .i64 (((its.drop (m / 2 + 1)).length + ((ts.drop (m / 2 + 1)).map fun t => t.pt.items.length).sum : Nat) : Int), vr, ptr kb' 0]) :: (ib, io + (m / 2 + 1) * 2, (its.drop (m / 2 + 1)).flatMap enc ++ isp) :: (kb', 0, [vkr]) :: (krb, kro + (m / 2 + 1) * 1, ((ts.drop (m / 2 + 1)).map GT.id).flatMap fp ++ ksp) :: (ts.drop (m / 2 + 1)).flatMap (GT.all enc)) ++ E))) (by rw [List.append_nil, List.append_nil, ef]; ((apply perm_rg; intro f; simp only [set_cons_zero, set_cons_succ, eraseIdx_cons_zero, eraseIdx_cons_succ, cons_append, nil_append, map_append, map_cons, map_nil, List.sum_append, List.sum_cons, List.sum_nil, map_flatMap, Nat.add_zero, Nat.zero_add]; ac_rfl)))).drop 2
      rw [← mfp, ← mfp] at s; exact s
end Go.Proofs.Ythpmeccnddchpaa.Gi
end
section
namespace Go.Proofs.Ythpmeccnddchpaa.Gi
open Go.Hp Go.Proofs.Ythpmeccnddchpaa
variable {h0 h : Heap} {Z E : List Rg} {Q : Value → Heap → Prop} {lt : It → It → Bool} {lf : Value}
abbrev old (r : Option It) : Value := av (r.getD emp)
theorem snoc_enc (l : List It) (e : It) : l.flatMap enc ++ enc e = (l ++ [e]).flatMap enc := by rw [List.flatMap_append, List.flatMap_singleton]
theorem Gd.leaf {iso : Int} {d : Nd It} (w : Own 2 d.iv d.its.length d.ib d.io (d.its.flatMap enc) d.isp) (ho : d.own = true) (hi : d.iso = iso) (hc : d.cnt = d.its.length) : Gd iso (k := 0) d := ⟨⟨w, by simp [ho, hi]⟩, hc, ho⟩
theorem Gd.inner {iso : Int} {k : Nat} {d : Nd It} {ts : List (GT It k)} (w : Own 2 d.iv d.its.length d.ib d.io (d.its.flatMap enc) d.isp) (ho : d.own = true) (hi : d.iso = iso) (wK : Own 1 d.kv ts.length d.krb d.kro ((ts.map GT.id).flatMap fp) d.ksp)
    (hl : ts.length = d.its.length + 1) (hk : ∀ c ∈ ts, Gd iso c) (hc : d.cnt = (GT.pt (h := k + 1) (d, ts)).items.length) : Gd iso (k := k + 1) (d, ts) :=
  ⟨⟨⟨w, by simp [ho, hi]⟩, by rw [mfp]; exact wK, hl, fun c hc => ⟨(hk c hc).wf, fun e => by rw [ho] at e; cases e⟩⟩, ⟨hc, fun c hc => (hk c hc).cn⟩, ⟨ho, fun c hc => (hk c hc).mine⟩⟩
theorem set_head (o : Swo lt) (hO : OrdC Z lf lt) {n ib io pb po tb hb dp : Nat} {iso cnt mn mx : Int} {ctr : Option Addr} {iv hv : Value} {a : Option Addr} {its : List It} {isp hc : List Value} {x : It} (hT0 : (tb, 0, hd0 iso ctr) ∈ Z) (hT4 : (tb, 4, hd4 lf mn mx) ∈ Z) (hh : Hn hv hb hc) (hd : dp ≤ 4611686018427387903) (ha : Asc lt its) (hb1 : its.length ≤ 1024) (hne : 1 ≤ its.length)
    (w : Own 2 iv its.length ib io (its.flatMap enc) isp) (s : St h0 Z ((pb, po, [ptr n 0]) :: (n, 0, [.int .u64 iso, .int .i64 cnt, iv, .pointer a]) :: (ib, io, its.flatMap enc ++ isp) :: (hb, 0, hc) :: E) h)
    (H1 : ∀ y hc' h', lget lt its x = some y → Hn hv hb hc' → St h0 Z ((pb, po, [ptr n 0]) :: (n, 0, [.int .u64 iso, .int .i64 cnt, iv, .pointer a]) :: (ib, io, (lput lt its x).flatMap enc ++ isp) :: (hb, 0, hc') :: E) h' → Q (.tuple #[av y, .bool true, .bool false]) h')
    (H2 : ∀ t7 t10 t13 hc' h', lget lt its x = none → Hn hv hb hc' → St h0 Z ((t13, 0, [ptr n 0]) :: (t10, 0, enc emp) :: (t7, 0, enc x) :: (pb, po, [ptr n 0]) :: (n, 0, [.int .u64 iso, .int .i64 cnt, iv, .pointer a]) :: (ib, io, its.flatMap enc ++ isp) :: (hb, 0, hc') :: E) h' → BTreeG_I_nodeSet.j3 (ptr tb 0) hv (.int .i64 dp) (ptr t7 0) (ptr t10 0) (ptr t13 0) (.int .i64 (pos lt its x)) h' Q) :
    BTreeG_I_nodeSet.call #[ptr tb 0, ptr pb po, av x, hv, .int .i64 dp] h Q := by
  refine BTreeG_I_nodeSet.body _ _ _ _ _ _ _ ?_; unfold BTreeG_I_nodeSet.sh; refine St.r_box (cs := enc x) s fun t7 h s => ?_; refine s.r_alloc fun t10 h s => ?_; refine r_nil ?_; refine s.r_load1 2 (j := 0) rfl rfl ?_; refine r_nil ?_; refine r_fld ?_; refine s.r_load1 3 (o := 0) (j := 0) rfl rfl ?_; refine r_nil ?_; refine r_fld ?_; refine s.r_lz0 hT0 (j := 0) rfl ?_; refine r_cmpI ?_; refine r_if (fun e => absurd e (by simp)) (fun _ => ?_)
  unfold BTreeG_I_nodeSet.j1; refine r_nil ?_; refine s.r_load1 2 (j := 0) rfl rfl ?_; refine s.r_alloc fun t13 h s => ?_; refine St.r_store0 s 0 rfl (by simp) rfl ?_; intro h s
  try simp only [List.set_cons_zero, List.set_cons_succ] at s
  have hlf : cl h tb 6 = some lf := s.clz hT4 2 rfl rfl
  have hni : cl h n 2 = some iv := by have := s.get (k := 4) (j := 2) rfl (by simp); simpa using this
  -- behind the search
  have two : ∀ {hc' : List Value} {h' : Heap}, Hn hv hb hc' → St h0 Z ((t13, 0, [ptr n 0]) :: (t10, 0, enc emp) :: (t7, 0, enc x) :: (pb, po, [ptr n 0]) :: (n, 0, [.int .u64 iso, .int .i64 cnt, iv, .pointer a]) :: (ib, io, its.flatMap enc ++ isp) :: (hb, 0, hc') :: E) h' →
      BTreeG_I_nodeSet.j2 (ptr tb 0) hv (.int .i64 dp) (ptr t7 0) (ptr t10 0) (ptr t13 0) (.int .i64 (pos lt its x)) (.bool (lget lt its x).isSome) h' Q := fun {hc'} {h'} hh s => by
    unfold BTreeG_I_nodeSet.j2; refine r_if (fun hf => ?_) (fun hn => ?_)
    · obtain ⟨y, hy⟩ := Option.isSome_iff_exists.1 hf
      obtain ⟨hp, hyy, _⟩ := lget_some hy
      have hy2 : its[pos lt its x]? = some y := by rw [List.getElem?_eq_getElem hp, hyy]
      refine St.r_load0 s 0 rfl rfl ?_; refine r_nil ?_; refine r_fld ?_; refine St.r_load0 s 4 rfl rfl ?_; refine w.idx (n := pos lt its x) rfl hp ?_; refine s.r_loadF encl 5 rfl hy2 ?_; refine St.r_storeN0 s 1 rfl rfl (by simp) (enc1 _) ?_; intro h s
      refine St.r_load0 s 0 rfl rfl ?_; refine r_nil ?_; refine r_fld ?_; refine St.r_load0 s 4 rfl rfl ?_; refine St.r_loadN0 s 2 rfl (by simp) ?_; refine w.idx (n := pos lt its x) rfl hp ?_; refine s.r_storeF (x := x) encl 5 rfl hp (enc1 _) fun h s => ?_; rw [← lput_found hy] at s; refine St.r_loadN0 s 1 rfl (by simp) ?_; refine St.r_storeN0 s 1 rfl rfl (by simp) (enc1 y) ?_; intro h s
      refine St.r_loadN0 s 1 rfl (by simp) ?_; exact H1 y _ h hy hh (s.drop 3)
    · have hn : lget lt its x = none := by cases e : lget lt its x with
        | none => rfl
        | some y => rw [e] at hn; cases hn
      exact H2 t7 t10 t13 _ _ hn hh s
  rcases hh with ⟨rfl, rfl⟩ | ⟨rfl, hh⟩
  · refine r_eqNilP ?_
    refine r_if (fun _ => ?_) (fun e => absurd e (by simp))
    refine St.r_load0 s 0 rfl rfl ?_; refine St.r_loadN0 s 2 rfl (by simp) ?_; refine bsearch_ok o hO s hlf hni (w.rdl s 5 rfl) ha (by omega) fun E2 h2 u2 => ?_; refine r_ext rfl ?_; refine r_ext rfl ?_; exact two (.inl ⟨rfl, rfl⟩) ((s.join u2).sub (List.sublist_append_right _ _))
  · refine r_eqNilP ?_
    refine r_if (fun e => absurd e (by simp)) (fun _ => ?_)
    refine St.r_load0 s 0 rfl rfl ?_; refine St.r_loadN0 s 2 rfl (by simp) ?_; refine hintsearch_ok o hO hh hd (s.front 6 rfl) hlf (c0 := .int .u64 iso) (c1 := .int .i64 cnt) (a := a) (iv := iv) (List.mem_append_left _ (by simp)) (w.rdl s 5 rfl) ha (by omega) hne fun hc' h' hh' s => ?_; refine r_ext rfl ?_; refine r_ext rfl ?_; exact two (.inr ⟨rfl, hh'⟩) (s.perm (by ((apply perm_rg; intro f; simp only [set_cons_zero, set_cons_succ, eraseIdx_cons_zero, eraseIdx_cons_succ, cons_append, nil_append, map_append, map_cons, map_nil, List.sum_append, List.sum_cons, List.sum_nil, map_flatMap, Nat.add_zero, Nat.zero_add]; ac_rfl))))
theorem set_leaf {n ib io i t7 t10 t13 tb : Nat} {cnt mn mx : Int} {c1 iv kp : Value} {its : List It} {isp : List Value} {x : It} (hT4 : (tb, 4, hd4 lf mn mx) ∈ Z) (hl : its.length ≤ 1024) (hi : i ≤ its.length) (hc0 : 0 ≤ cnt) (hc : cnt ≤ 4611686018427387904)
    (w : Own 2 iv its.length ib io (its.flatMap enc) isp) (s : St h0 Z ((t13, 0, [ptr n 0]) :: (t10, 0, enc emp) :: (t7, 0, enc x) :: (n, 0, [c1, .int .i64 cnt, iv, kp]) :: (ib, io, its.flatMap enc ++ isp) :: E) h)
    (H : ∀ iv' ib' io' isp' h', Own 2 iv' (ins its i x).length ib' io' ((ins its i x).flatMap enc) isp' → St h0 Z ((n, 0, [c1, .int .i64 (cnt + 1), iv', kp]) :: (ib', io', (ins its i x).flatMap enc ++ isp') :: E) h' → Q (.tuple #[av emp, .bool false, .bool false]) h') :
    BTreeG_I_nodeSet.j8 (ptr tb 0) (ptr t7 0) (ptr t10 0) (ptr t13 0) (.int .i64 i) h Q := by
  unfold BTreeG_I_nodeSet.j8; refine St.r_load0 s 0 rfl rfl ?_; refine St.r_load0 s 0 rfl rfl ?_; refine r_nil ?_; refine r_fld ?_; refine St.r_load0 s 3 rfl rfl ?_; refine r_nil ?_; refine r_fld ?_; refine s.r_lzE hT4 3 (enc emp) rfl (by simp) rfl ?_; refine St.r_mkSl (sz := 2) (cs := enc emp) s (by ((simp only [fillV, fill1, Value.cells, zeros_succ, zeros_zero, size_toArray, length_cons, length_nil, length_append, take_succ_cons, take_zero, take_nil, drop_succ_cons, drop_zero, drop_nil, cons_append, nil_append, append_nil, Nat.reduceAdd, Nat.reduceMul, Nat.reduceLeDiff, Nat.reduceEqDiff, and_self, and_true, true_and, if_true, Nat.le_refl, Nat.zero_add, Nat.add_zero, Nat.zero_mul, reduceIte, if_false] <;> rfl))) rfl fun q h s w1 => ?_; refine And.intro (by exact St.r_still0 s 1 rfl rfl) ?_; refine And.intro (by exact St.r_still0 s 1 rfl rfl) ?_; refine And.intro (by exact St.r_still0 s 4 rfl rfl) ?_; refine St.r_app s 5 (sz := 2) (n := 1) (new := enc emp) rfl w rfl (w1.rdl s 0 rfl) (enc1 _) (by omega) (by omega) fun v' b' o' sp' h s w' => ?_; rw [snoc_enc] at s w'
  have w' : Own 2 v' (its ++ [emp]).length b' o' ((its ++ [emp]).flatMap enc) sp' := by rw [List.length_append]; exact w'
  refine And.intro (by exact St.r_still0 s 1 rfl rfl) ?_; refine r_nil ?_; refine r_fld ?_; refine St.r_store0 s 4 rfl (by simp) w'.one ?_; intro h s
  refine St.r_load0 s 1 rfl rfl ?_; refine r_nil ?_; refine r_fld ?_; refine St.r_load0 s 4 rfl rfl ?_; refine r_add (z := ((i + 1 : Nat) : Int)) (by rw [i64w (by omega) (by omega)]; omega) ?_; refine w'.slcLo encl (i := i + 1) rfl (by simp; omega) fun d wd => ?_; refine St.r_load0 s 1 rfl rfl ?_; refine r_nil ?_; refine r_fld ?_; refine St.r_load0 s 4 rfl rfl ?_; refine (w'.rdl s 5 rfl).slcLo encl (i := i) rfl (by simp; omega) fun src rs => ?_; refine s.r_cpyF encl 5 (L := its ++ [emp]) (M := (its ++ [emp]).drop i) rfl wd (by simp; omega) rs rfl (fun y _ => enc1 y) fun h s => ?_; refine St.r_load0 s 1 rfl rfl ?_; refine r_nil ?_; refine r_fld ?_; refine St.r_load0 s 4 rfl rfl ?_; refine St.r_loadN0 s 3 rfl (by simp) ?_; refine w'.idx (n := i) rfl (by simp; omega) ?_; refine s.r_storeF (x := x) encl 5 rfl (by simp; omega) (enc1 _) fun h s => ?_; rw [List.set_set, ins_steps its emp x hi] at s; refine St.r_load0 s 1 rfl rfl ?_; refine r_nil ?_; refine r_fld ?_; refine St.r_load0 s 4 rfl rfl ?_; refine r_add (z := cnt + 1) (by rw [i64w (by omega) (by omega)]) ?_; refine r_nil ?_; refine r_fld ?_; refine St.r_store0 s 4 rfl (by simp) rfl ?_; intro h s
  refine r_nil ?_; refine r_fld ?_; refine s.r_lzE hT4 3 (enc emp) rfl (by simp) rfl ?_; refine St.r_storeN0 s 2 rfl rfl (by simp) (enc1 emp) ?_; intro h s
  refine St.r_loadN0 s 2 rfl (by simp) ?_; refine H v' b' o' sp' h ?_ (s.drop 4)
  have e := ins_length (x := x) hi
  rw [show (ins its i x).length = (its ++ [emp]).length by rw [e]; simp]; exact w'.cong (by rw [flat_len encl, flat_len encl, e]; simp)
def SetOk (lt : It → It → Bool) (h0 : Heap) (Z : List Rg) (tb m : Nat) (iso : Int) (x : It) (k : Nat) : Prop :=
  ∀ (t : GT It k) {h : Heap} {E : List Rg} {Q : Value → Heap → Prop} {pb po lo hb dp : Nat} {hv : Value} {hc : List Value}, Hn hv hb hc → dp + k ≤ 4611686018427387903 → 1 ≤ lo → t.pt.Fl m lo → Asc lt t.pt.items → t.pt.items.length ≤ 4611686018427387903 → Gd iso t → St h0 Z ((pb, po, [ptr t.id 0]) :: (hb, 0, hc) :: (t.all enc ++ E)) h →
    (∀ (t' : GT It k) hc' h', t'.pt = (if t.pt.splits lt m x then t.pt else t.pt.set lt m x) → t'.id = t.id → Gd iso t' → Hn hv hb hc' → St h0 Z ((pb, po, [ptr t.id 0]) :: (hb, 0, hc') :: (t'.all enc ++ E)) h' →
      Q (.tuple #[old (t.pt.get lt x), .bool (t.pt.get lt x).isSome, .bool (t.pt.splits lt m x)]) h') → BTreeG_I_nodeSet.call #[ptr tb 0, ptr pb po, av x, hv, .int .i64 dp] h Q
theorem setOk_zero (o : Swo lt) (hO : OrdC Z lf lt) {tb m : Nat} {iso mn : Int} {ctr : Option Addr} {x : It} (hT0 : (tb, 0, hd0 iso ctr) ∈ Z) (hT4 : (tb, 4, hd4 lf mn m) ∈ Z) (hm1 : m ≤ 1024) : SetOk lt h0 Z tb m iso x 0 := by
  intro d h E Q pb po lo hb dp hv hc hh hdk hlo fl ha hsz g s H; obtain ⟨own, n, is', cnt, its, iv, ib, io, isp, kb, kv, krb, kro, ksp⟩ := d
  have w : Own 2 iv its.length ib io (its.flatMap enc) isp := g.wf.1
  have hlen : its.length ≤ m := fl.2
  have hle : lo ≤ its.length := fl.1
  have hcn : cnt = its.length := g.cn
  have ho : own = true := g.mine
  have hiso : is' = iso := g.wf.2.1 ho
  subst hiso; subst ho
  have s : St h0 Z ((pb, po, [ptr n 0]) :: (hb, 0, hc) :: (n, 0, [.int .u64 is', .int .i64 cnt, iv, .pointer none]) :: (ib, io, its.flatMap enc ++ isp) :: E) h := s
  have ha : Asc lt its := ha
  refine set_head o hO (n := n) (iso := is') (cnt := cnt) (a := none) (E := E) hT0 hT4 hh (by omega) ha (by omega) (by omega) w (s.perm (by ((apply perm_rg; intro f; simp only [set_cons_zero, set_cons_succ, eraseIdx_cons_zero, eraseIdx_cons_succ, cons_append, nil_append, map_append, map_cons, map_nil, List.sum_append, List.sum_cons, List.sum_nil, map_flatMap, Nat.add_zero, Nat.zero_add]; ac_rfl)))) (fun y hc' h' hy hh s => ?_) fun t7 t10 t13 hc' h' hn hh s => ?_
  · have hns : PT.splits lt m (h := 0) its x = false := by rw [PT.splits_leaf, hy]; rfl
    have hg : PT.get lt (h := 0) its x = some y := hy
    have hln : (lput lt its x).length = its.length := by rw [lput_length, hy]; rfl
    have := H (⟨true, n, is', cnt, lput lt its x, iv, ib, io, isp, kb, kv, krb, kro, ksp⟩ : Nd It) hc' h' (by show _ = if PT.splits lt m (h := 0) its x = true then _ else _; rw [hns]; rfl) rfl
      (Gd.leaf (by show Own 2 iv (lput lt its x).length ib io ((lput lt its x).flatMap enc) isp; rw [hln]; exact w.cong (by rw [flat_len encl, flat_len encl, hln])) rfl rfl (by show cnt = (lput lt its x).length; rw [hln]; exact hcn)) hh (s.perm (E' := (pb, po, [ptr n 0]) :: (hb, 0, hc') :: (n, 0, [.int .u64 is', .int .i64 cnt, iv, .pointer none]) :: (ib, io, (lput lt its x).flatMap enc ++ isp) :: E) (by ((apply perm_rg; intro f; simp only [set_cons_zero, set_cons_succ, eraseIdx_cons_zero, eraseIdx_cons_succ, cons_append, nil_append, map_append, map_cons, map_nil, List.sum_append, List.sum_cons, List.sum_nil, map_flatMap, Nat.add_zero, Nat.zero_add]; ac_rfl))))
    change Q (.tuple #[old (PT.get lt (h := 0) its x), .bool (PT.get lt (h := 0) its x).isSome, .bool (PT.splits lt m (h := 0) its x)]) h' at this
    rw [hns, hg] at this; exact this
  · unfold BTreeG_I_nodeSet.j3
    have hg : PT.get lt (h := 0) its x = none := hn
    refine St.r_load0 s 0 rfl rfl ?_; refine node_leaf_ok (a := none) (s.get (k := 4) (j := 3) rfl (by simp)) ?_; refine r_if (fun _ => ?_) (fun e => absurd e (by simp))
    refine St.r_load0 s 0 rfl rfl ?_; refine r_nil ?_; refine r_fld ?_; refine St.r_load0 s 4 rfl rfl ?_; refine w.lenV ?_; refine r_nil ?_; refine r_fld ?_; refine s.r_lz hT4 5 rfl rfl ?_; refine r_cmpI ?_; refine r_if (fun hfull => ?_) (fun hroom => ?_)
    · have hfull : its.length = m := Int.ofNat_inj.1 (by simpa using hfull)
      have hsp : PT.splits lt m (h := 0) its x = true := by rw [PT.splits_leaf, hn]; simpa using hfull
      refine r_nil ?_; refine r_fld ?_; refine s.r_lzE hT4 3 (enc emp) rfl (by simp) rfl ?_; refine St.r_storeN0 s 1 rfl rfl (by simp) (enc1 emp) ?_; intro h s
      refine St.r_loadN0 s 1 rfl (by simp) ?_
      have := H (⟨true, n, is', cnt, its, iv, ib, io, isp, kb, kv, krb, kro, ksp⟩ : Nd It) hc' h (by show _ = if PT.splits lt m (h := 0) its x = true then _ else _; rw [hsp]; rfl) rfl g hh (St.perm (E := (pb, po, [ptr n 0]) :: (n, 0, [.int .u64 is', .int .i64 cnt, iv, .pointer none]) :: (ib, io, its.flatMap enc ++ isp) :: (hb, 0, hc') :: E) (E' := (pb, po, [ptr n 0]) :: (hb, 0, hc') :: (n, 0, [.int .u64 is', .int .i64 cnt, iv, .pointer none]) :: (ib, io, its.flatMap enc ++ isp) :: E) (s.drop 3) (by ((apply perm_rg; intro f; simp only [set_cons_zero, set_cons_succ, eraseIdx_cons_zero, eraseIdx_cons_succ, cons_append, nil_append, map_append, map_cons, map_nil, List.sum_append, List.sum_cons, List.sum_nil, map_flatMap, Nat.add_zero, Nat.zero_add]; ac_rfl))))
      change Q (.tuple #[old (PT.get lt (h := 0) its x), .bool (PT.get lt (h := 0) its x).isSome, .bool (PT.splits lt m (h := 0) its x)]) h at this
      rw [hsp, hg] at this; exact this
    · have hroom : its.length ≠ m := fun e => by rw [e] at hroom; simp at hroom
      have hsp : PT.splits lt m (h := 0) its x = false := by rw [PT.splits_leaf, hn]; simpa using hroom
      have hp := pos_le (lt := lt) its x
      refine set_leaf (n := n) (t7 := t7) (t10 := t10) (t13 := t13) (x := x) (c1 := .int .u64 is') (kp := .pointer none) (cnt := cnt) (its := its) (E := (pb, po, [ptr n 0]) :: (hb, 0, hc') :: E) hT4 (by omega) hp (by omega) (by omega) w (s.perm (by ((apply perm_rg; intro f; simp only [set_cons_zero, set_cons_succ, eraseIdx_cons_zero, eraseIdx_cons_succ, cons_append, nil_append, map_append, map_cons, map_nil, List.sum_append, List.sum_cons, List.sum_nil, map_flatMap, Nat.add_zero, Nat.zero_add]; ac_rfl)))) fun iv' ib' io' isp' h' w' s => ?_; rw [← lput_ins hn] at w' s
      have hln : (lput lt its x).length = its.length + 1 := by rw [lput_length, hn]; rfl
      have := H (⟨true, n, is', cnt + 1, lput lt its x, iv', ib', io', isp', kb, kv, krb, kro, ksp⟩ : Nd It) hc' h' (by show _ = if PT.splits lt m (h := 0) its x = true then _ else _; rw [hsp]; rfl) rfl
        (Gd.leaf w' rfl rfl (by show cnt + 1 = (lput lt its x).length; omega)) hh (s.perm (E' := (pb, po, [ptr n 0]) :: (hb, 0, hc') :: (n, 0, [.int .u64 is', .int .i64 (cnt + 1), iv', .pointer none]) :: (ib', io', (lput lt its x).flatMap enc ++ isp') :: E) (by ((apply perm_rg; intro f; simp only [set_cons_zero, set_cons_succ, eraseIdx_cons_zero, eraseIdx_cons_succ, cons_append, nil_append, map_append, map_cons, map_nil, List.sum_append, List.sum_cons, List.sum_nil, map_flatMap, Nat.add_zero, Nat.zero_add]; ac_rfl))))
      change Q (.tuple #[old (PT.get lt (h := 0) its x), .bool (PT.get lt (h := 0) its x).isSome, .bool (PT.splits lt m (h := 0) its x)]) h' at this
      rw [hsp, hg] at this; exact this
end Go.Proofs.Ythpmeccnddchpaa.Gi
end
section
namespace Go.Proofs.Ythpmeccnddchpaa.Gi
open Go.Hp Go.Proofs.Ythpmeccnddchpaa
variable {h0 h : Heap} {Z E : List Rg} {Q : Value → Heap → Prop} {lt : It → It → Bool} {lf : Value}
theorem flat_at3 {β : Type} (f : β → List Rg) {ts : List β} {i : Nat} {c : β} (hc : ts[i]? = some c) : ts.flatMap f = (ts.take i).flatMap f ++ (f c ++ (ts.drop (i + 1)).flatMap f) := by
  conv => lhs; rw [take_at hc, List.flatMap_append, List.flatMap_cons]
theorem set_ids {k : Nat} {ts : List (GT It k)} {i : Nat} {c c' : GT It k} (hc : ts[i]? = some c) (he : c'.id = c.id) : (ts.set i c').map GT.id = ts.map GT.id := by
  obtain ⟨hi, rfl⟩ := List.getElem?_eq_some_iff.1 hc; rw [List.map_set, he]
  apply List.ext_getElem?
  intro j; rw [List.getElem?_set]
  split
  · rename_i e; subst e
    simp [hi]
  · rfl
theorem lend_kidH {k : Nat} {ts : List (GT It k)} {i kb krb kro : Nat} {kv : Value} {ksp : List Value} {A : List Rg} {c : GT It k} {r : Rg} (hc : ts[i]? = some c)
    (s : St h0 Z (r :: (A ++ ((krb, kro, (ts.map GT.id).flatMap fp ++ ksp) :: (ts.flatMap (GT.all enc) ++ E)))) h) :
    ∃ E', St h0 Z ((krb, kro + i * 1, [ptr c.id 0]) :: r :: (c.all enc ++ E')) h ∧ ∀ (c' : GT It k) (r' : Rg) h', c'.id = c.id → St h0 Z ((krb, kro + i * 1, [ptr c.id 0]) :: r' :: (c'.all enc ++ E')) h' →
      St h0 Z (r' :: (A ++ ((krb, kro, ((ts.set i c').map GT.id).flatMap fp ++ ksp) :: ((ts.set i c').flatMap (GT.all enc) ++ E)))) h' := by
  have hid : (ts.map GT.id)[i]? = some c.id := by rw [List.getElem?_map, hc]; rfl
  have s1 : St h0 Z ((krb, kro, (ts.map GT.id).flatMap fp ++ ksp) :: (r :: (A ++ (ts.flatMap (GT.all enc) ++ E)))) h := s.perm (by ((apply perm_rg; intro f; simp only [set_cons_zero, set_cons_succ, eraseIdx_cons_zero, eraseIdx_cons_succ, cons_append, nil_append, map_append, map_cons, map_nil, List.sum_append, List.sum_cons, List.sum_nil, map_flatMap, Nat.add_zero, Nat.zero_add]; ac_rfl)))
  have s2 := St.cut3 fpl s1 hid
  refine ⟨(krb, kro, ((ts.map GT.id).take i).flatMap fp) :: (krb, kro + (i + 1) * 1, ((ts.map GT.id).drop (i + 1)).flatMap fp ++ ksp) :: (A ++ ((ts.take i).flatMap (GT.all enc) ++ ((ts.drop (i + 1)).flatMap (GT.all enc) ++ E))), s2.perm ?_, fun c' r' h' he s' => ?_⟩
  · rw [flat_at3 (GT.all enc) hc]; ((apply perm_rg; intro f; simp only [set_cons_zero, set_cons_succ, eraseIdx_cons_zero, eraseIdx_cons_succ, cons_append, nil_append, map_append, map_cons, map_nil, List.sum_append, List.sum_cons, List.sum_nil, map_flatMap, Nat.add_zero, Nat.zero_add]; ac_rfl))
  · have hi := (List.getElem?_eq_some_iff.1 hc).1
    have hc' : (ts.set i c')[i]? = some c' := by rw [List.getElem?_set_self hi]
    rw [set_ids hc he, flat_at3 (GT.all enc) hc', List.take_set_of_le (Nat.le_refl _), List.drop_set_of_lt (by omega)]
    have s3 : St h0 Z ((krb, kro, ((ts.map GT.id).take i).flatMap fp) :: (krb, kro + (i + 1) * 1, ((ts.map GT.id).drop (i + 1)).flatMap fp ++ ksp) :: (krb, kro + i * 1, fp c.id) :: (r' :: (A ++ ((ts.take i).flatMap (GT.all enc) ++ (c'.all enc ++ ((ts.drop (i + 1)).flatMap (GT.all enc) ++ E)))))) h' := s'.perm (by ((apply perm_rg; intro f; simp only [set_cons_zero, set_cons_succ, eraseIdx_cons_zero, eraseIdx_cons_succ, cons_append, nil_append, map_append, map_cons, map_nil, List.sum_append, List.sum_cons, List.sum_nil, map_flatMap, Nat.add_zero, Nat.zero_add]; ac_rfl)))
    have s4 := St.glue3 fpl hid s3
    exact s4.perm (by ((apply perm_rg; intro f; simp only [set_cons_zero, set_cons_succ, eraseIdx_cons_zero, eraseIdx_cons_succ, cons_append, nil_append, map_append, map_cons, map_nil, List.sum_append, List.sum_cons, List.sum_nil, map_flatMap, Nat.add_zero, Nat.zero_add]; ac_rfl)))
theorem r_loadM1 {k : Nat} {ts : List (GT It k)} {K : Value → Prop} (s : St h0 Z E h) (j : Nat) {b o i : Nat} {sp : List Value} {c : GT It k} (hk : E[j]? = some (b, o, (ts.map GT.id).flatMap fp ++ sp)) (hc : ts[i]? = some c) (H : K (ptr c.id 0)) : load1 (ptr b (o + i * 1)) h K := by
  have := s.r_load1F (K := K) (r := 0) fpl j hk (show (ts.map GT.id)[i]? = some c.id by rw [List.getElem?_map, hc]; rfl) (v := ptr c.id 0) rfl H
  exact this
theorem Gd.setKid {iso : Int} {k : Nat} {d : Nd It} {ts : List (GT It k)} (g : Gd iso (k := k + 1) (d, ts)) {i : Nat} {c c' : GT It k} (hc : ts[i]? = some c) (he : c'.id = c.id) (g' : Gd iso c') {cnt : Int}
    (hcnt : cnt = (GT.pt (h := k + 1) (d, ts.set i c')).items.length) : Gd iso (k := k + 1) ({ d with cnt := cnt }, ts.set i c') := by
  have wK := g.wf.2.1
  refine Gd.inner g.wf.1.1 g.mine.1 (g.wf.1.2.1 g.mine.1) ?_ (by rw [List.length_set]; exact g.wf.2.2.1) (fun q hq => ?_) hcnt
  · rw [set_ids hc he, List.length_set, ← mfp]; exact wK
  · rcases List.mem_or_eq_of_mem_set hq with e | e
    · exact g.kid e
    · rw [e]; exact g'
theorem set_noSplit (o : Swo lt) (hO : OrdC Z lf lt) {tb m : Nat} {iso mn : Int} {ctr : Option Addr} {x : It} (hT0 : (tb, 0, hd0 iso ctr) ∈ Z) (hT4 : (tb, 4, hd4 lf mn m) ∈ Z) (hm3 : 3 ≤ m) (hm1 : m ≤ 1024) (ho : m % 2 = 1) {k : Nat} (ih : SetOk lt h0 Z tb m iso x k)
    (t : GT It (k + 1)) {pb po lo hb dp : Nat} {hv : Value} {hc : List Value} (hh : Hn hv hb hc) (hdk : dp + (k + 1) ≤ 4611686018427387903) (hlo : 1 ≤ lo) (fl : t.pt.Fl m lo) (ha : Asc lt t.pt.items) (hsz : t.pt.items.length ≤ 4611686018427387903) (g : Gd iso t) (s : St h0 Z ((pb, po, [ptr t.id 0]) :: (hb, 0, hc) :: (t.all enc ++ E)) h)
    (hns : ∀ c, t.pt.2[pos lt t.pt.1 x]? = some c → lget lt t.pt.1 x = none → c.splits lt m x = false)
    (H : ∀ (t' : GT It (k + 1)) hc' h', t'.pt = t.pt.set lt m x → t'.id = t.id → Gd iso t' → Hn hv hb hc' → St h0 Z ((pb, po, [ptr t.id 0]) :: (hb, 0, hc') :: (t'.all enc ++ E)) h' → Q (.tuple #[old (t.pt.get lt x), .bool (t.pt.get lt x).isSome, .bool false]) h') :
    BTreeG_I_nodeSet.call #[ptr tb 0, ptr pb po, av x, hv, .int .i64 dp] h Q := by
  have hsp : t.pt.splits lt m x = false := by
    cases e : t.pt.splits lt m x with
    | false => rfl
    | true =>
      obtain ⟨_, e2⟩ := PT.splits_len e
      have e2 : lget lt t.pt.1 x = none := e2
      obtain ⟨c, hc, _⟩ := PT.step o fl ha e2; rw [PT.splits_kid e2 hc, hns c hc e2] at e
      simp at e
  have hset := PT.set_items o ho fl ha hsp
  have hgi := PT.get_items o fl ha (x := x)
  obtain ⟨d, ts⟩ := t; obtain ⟨own, n, is', cnt, its, iv, ib, io, isp, kb, kv, krb, kro, ksp⟩ := d
  have w : Own 2 iv its.length ib io (its.flatMap enc) isp := g.wf.1.1
  have wK : Own 1 kv ts.length krb kro ((ts.map GT.id).map fun m => ptr m 0) ksp := g.wf.2.1
  have hkl : ts.length = its.length + 1 := g.wf.2.2.1
  have hidl : (ts.map GT.id).length = ts.length := List.length_map ..
  have hom : own = true := g.mine.1
  have hiso : is' = iso := g.wf.1.2.1 hom
  subst hiso; subst hom
  have hlen : its.length ≤ m := fl.2.1
  have hle : lo ≤ its.length := fl.1
  have ha1 : Asc lt its := asc_of_sub ha (PT.its_sub1 (its, ts.map GT.pt))
  rw [← hidl, mfp] at wK
  have hcn : cnt = (PT.items (h := k + 1) (its, ts.map GT.pt)).length := g.cn.1
  have s : St h0 Z ((pb, po, [ptr n 0]) :: (hb, 0, hc) :: (n, 0, [.int .u64 is', .int .i64 cnt, iv, ptr kb 0]) :: (ib, io, its.flatMap enc ++ isp) :: (kb, 0, [kv]) :: (krb, kro, ((ts.map GT.id).map fun m => ptr m 0) ++ ksp) :: (ts.flatMap (GT.all enc) ++ E)) h := s
  rw [mfp] at s; refine set_head o hO (n := n) (iso := is') (cnt := cnt) (a := some ⟨kb, 0, none⟩) (E := (kb, 0, [kv]) :: (krb, kro, (ts.map GT.id).flatMap fp ++ ksp) :: (ts.flatMap (GT.all enc) ++ E)) hT0 hT4 hh (by omega) ha1 (by omega) (by omega) w (s.perm (by ((apply perm_rg; intro f; simp only [set_cons_zero, set_cons_succ, eraseIdx_cons_zero, eraseIdx_cons_succ, cons_append, nil_append, map_append, map_cons, map_nil, List.sum_append, List.sum_cons, List.sum_nil, map_flatMap, Nat.add_zero, Nat.zero_add]; ac_rfl)))) (fun y hc' h' hy hh s => ?_) fun t7 t10 t13 hc' h' hn hh s => ?_
  · have hln : (lput lt its x).length = its.length := by rw [lput_length, hy]; rfl
    have e1 : PT.set lt m (h := k + 1) (its, ts.map GT.pt) x = (lput lt its x, ts.map GT.pt) := PT.set_found (t := (its, ts.map GT.pt)) hy
    have e2 : PT.get lt (h := k + 1) (its, ts.map GT.pt) x = some y := PT.get_found (t := (its, ts.map GT.pt)) hy
    have e3 : (PT.items (h := k + 1) (lput lt its x, ts.map GT.pt)).length = (PT.items (h := k + 1) (its, ts.map GT.pt)).length := by
      have h1 : (PT.set lt m (h := k + 1) (its, ts.map GT.pt) x).items = lput lt (PT.items (h := k + 1) (its, ts.map GT.pt)) x := hset.1
      have h2 : PT.get lt (h := k + 1) (its, ts.map GT.pt) x = lget lt (PT.items (h := k + 1) (its, ts.map GT.pt)) x := hgi
      rw [e1] at h1; rw [h1, lput_length, ← h2, e2]; rfl
    have s : St h0 Z ((pb, po, [ptr n 0]) :: (hb, 0, hc') :: (n, 0, [.int .u64 is', .int .i64 cnt, iv, ptr kb 0]) :: (ib, io, (lput lt its x).flatMap enc ++ isp) :: (kb, 0, [kv]) :: (krb, kro, (ts.map GT.id).flatMap fp ++ ksp) :: (ts.flatMap (GT.all enc) ++ E)) h' := s.perm (by ((apply perm_rg; intro f; simp only [set_cons_zero, set_cons_succ, eraseIdx_cons_zero, eraseIdx_cons_succ, cons_append, nil_append, map_append, map_cons, map_nil, List.sum_append, List.sum_cons, List.sum_nil, map_flatMap, Nat.add_zero, Nat.zero_add]; ac_rfl)))
    have := H ((⟨true, n, is', cnt, lput lt its x, iv, ib, io, isp, kb, kv, krb, kro, ksp⟩ : Nd It), ts) hc' h' e1.symm rfl
      (Gd.inner (by show Own 2 iv (lput lt its x).length ib io ((lput lt its x).flatMap enc) isp; rw [hln]; exact w.cong (by rw [flat_len encl, flat_len encl, hln])) rfl rfl (by rw [← hidl]; exact wK) (by show ts.length = (lput lt its x).length + 1; rw [hln]; exact hkl) (fun c hc => g.kid hc) (by
        show cnt = ((PT.items (h := k + 1) (lput lt its x, ts.map GT.pt)).length : Int); rw [e3]; exact hcn)) hh (by rw [← mfp] at s; exact s)
    change Q (.tuple #[old (PT.get lt (h := k + 1) (its, ts.map GT.pt) x), .bool (PT.get lt (h := k + 1) (its, ts.map GT.pt) x).isSome, .bool false]) h' at this
    rw [e2] at this; exact this
  · have hp := pos_le (lt := lt) its x
    obtain ⟨c, hc⟩ : ∃ c, ts[pos lt its x]? = some c := ⟨ts[pos lt its x]'(by omega), List.getElem?_eq_getElem (by omega)⟩
    have hcp : (ts.map GT.pt)[pos lt its x]? = some c.pt := by rw [List.getElem?_map, hc]; rfl
    have hcs : c.pt.splits lt m x = false := hns c.pt hcp hn
    obtain ⟨c0, hc0, hcm, hac, hg0, _⟩ := PT.step (h := k) (t := (its, ts.map GT.pt)) o fl ha hn
    have : c0 = c.pt := Option.some.inj (hc0.symm.trans hcp)
    subst this
    have hcmem := List.mem_of_getElem? hc
    have e1 : PT.set lt m (h := k + 1) (its, ts.map GT.pt) x = (its, (ts.map GT.pt).set (pos lt its x) (c.pt.set lt m x)) := PT.set_kid (t := (its, ts.map GT.pt)) hn hcp hcs
    have e2 : PT.get lt (h := k + 1) (its, ts.map GT.pt) x = c.pt.get lt x := PT.get_kid (t := (its, ts.map GT.pt)) hn hcp
    have hcsz : c.pt.items.length ≤ 4611686018427387903 := by
      have h1 : (inter its ((ts.map GT.pt).map PT.items)).length = _ := inter_length _ _
      have h2 : (inter its ((ts.map GT.pt).map PT.items)).length ≤ 4611686018427387903 := hsz
      have h3 : c.pt.items.length ≤ (((ts.map GT.pt).map PT.items).map List.length).sum := mem_le_sum (by
        rw [List.map_map, List.map_map]; exact List.mem_map.2 ⟨c, hcmem, rfl⟩)
      omega
    unfold BTreeG_I_nodeSet.j3; refine St.r_load0 s 0 rfl rfl ?_; refine node_leaf_ok (a := some ⟨kb, 0, none⟩) (s.get (k := 4) (j := 3) rfl (by simp)) ?_; refine r_if (fun e => absurd e (by simp)) (fun _ => ?_)
    unfold BTreeG_I_nodeSet.j4; refine St.r_load0 s 0 rfl rfl ?_; refine r_nil ?_; refine r_fld ?_; refine St.r_load0 s 4 rfl rfl ?_; refine r_nil ?_; refine St.r_load0 s 7 rfl rfl ?_
    (refine Own.idx (by assumption) rfl (by first | omega | (simp; done) | (simp; omega)) ?_)
    refine St.r_loadN0 s 2 rfl (by simp) ?_; refine r_add1 (by omega) ?_; obtain ⟨E', sk, back⟩ := lend_kidH (r := (hb, 0, hc')) (krb := krb) (kro := kro) (ksp := ksp) (A := (t13, 0, [ptr n 0]) :: (t10, 0, enc emp) :: (t7, 0, enc x) :: (pb, po, [ptr n 0]) :: (n, 0, [.int .u64 is', .int .i64 cnt, iv, ptr kb 0]) :: (ib, io, its.flatMap enc ++ isp) :: (kb, 0, [kv]) :: []) (E := E) (kb := kb) (kv := kv) hc (s.perm (by ((apply perm_rg; intro f; simp only [set_cons_zero, set_cons_succ, eraseIdx_cons_zero, eraseIdx_cons_succ, cons_append, nil_append, map_append, map_cons, map_nil, List.sum_append, List.sum_cons, List.sum_nil, map_flatMap, Nat.add_zero, Nat.zero_add]; ac_rfl)))); refine ih c hh (by omega) (by omega) (fl.2.2.2 _ hcm) hac hcsz (g.kid hcmem) sk fun c' hc' h' hc1 hc2 hc3 hh s => ?_; rw [hcs] at hc1 ⊢
    simp only [Bool.false_eq_true, ↓reduceIte] at hc1
    have s := back c' _ h' hc2 s
    have s : St h0 Z ((t13, 0, [ptr n 0]) :: (t10, 0, enc emp) :: (t7, 0, enc x) :: (pb, po, [ptr n 0]) :: (hb, 0, hc') :: (n, 0, [.int .u64 is', .int .i64 cnt, iv, ptr kb 0]) :: (ib, io, its.flatMap enc ++ isp) :: (kb, 0, [kv]) :: (krb, kro, ((ts.set (pos lt its x) c').map GT.id).flatMap fp ++ ksp) :: ((ts.set (pos lt its x) c').flatMap (GT.all enc) ++ E)) h' := s.perm (by ((apply perm_rg; intro f; simp only [set_cons_zero, set_cons_succ, eraseIdx_cons_zero, eraseIdx_cons_succ, cons_append, nil_append, map_append, map_cons, map_nil, List.sum_append, List.sum_cons, List.sum_nil, map_flatMap, Nat.add_zero, Nat.zero_add]; ac_rfl)))
    have ept : (ts.set (pos lt its x) c').map GT.pt = (ts.map GT.pt).set (pos lt its x) (c.pt.set lt m x) := by rw [List.map_set, hc1]
    have hlenI : (PT.items (h := k + 1) (its, (ts.set (pos lt its x) c').map GT.pt)).length = (PT.items (h := k + 1) (its, ts.map GT.pt)).length + if (c.pt.get lt x).isSome then 0 else 1 := by
      have h1 : (PT.set lt m (h := k + 1) (its, ts.map GT.pt) x).items = lput lt (PT.items (h := k + 1) (its, ts.map GT.pt)) x := hset.1
      have h2 : PT.get lt (h := k + 1) (its, ts.map GT.pt) x = lget lt (PT.items (h := k + 1) (its, ts.map GT.pt)) x := hgi
      rw [e1, ← ept] at h1; rw [h1, lput_length, ← h2, e2]
    have fin : ∀ cnt' h', cnt' = (((PT.items (h := k + 1) (its, (ts.set (pos lt its x) c').map GT.pt)).length : Nat) : Int) →
        St h0 Z ((t13, 0, [ptr n 0]) :: (t10, 0, enc ((c.pt.get lt x).getD emp)) :: (t7, 0, enc x) :: (pb, po, [ptr n 0]) :: (hb, 0, hc') :: (n, 0, [.int .u64 is', .int .i64 cnt', iv, ptr kb 0]) :: (ib, io, its.flatMap enc ++ isp) :: (kb, 0, [kv]) :: (krb, kro, ((ts.set (pos lt its x) c').map GT.id).flatMap fp ++ ksp) :: ((ts.set (pos lt its x) c').flatMap (GT.all enc) ++ E)) h' →
        BTreeG_I_nodeSet.j6 (ptr t10 0) (.bool (c.pt.get lt x).isSome) h' Q := by
      intro cnt' h' hcnt' s; unfold BTreeG_I_nodeSet.j6; refine St.r_loadN0 s 1 rfl (by simp) ?_; refine St.r_storeN0 s 1 rfl rfl (by simp) (enc1 _) ?_; intro h' s
      refine St.r_loadN0 s 1 rfl (by simp) ?_
      have := H ((⟨true, n, is', cnt', its, iv, ib, io, isp, kb, kv, krb, kro, ksp⟩ : Nd It), ts.set (pos lt its x) c') hc' h' (by show (its, (ts.set (pos lt its x) c').map GT.pt) = _; rw [ept]; exact e1.symm) rfl
        (Gd.setKid (d := ⟨true, n, is', cnt, its, iv, ib, io, isp, kb, kv, krb, kro, ksp⟩) g hc hc2 hc3 hcnt') hh (by rw [← mfp] at s; exact s.drop 3)
      change Q (.tuple #[old (PT.get lt (h := k + 1) (its, ts.map GT.pt) x), .bool (PT.get lt (h := k + 1) (its, ts.map GT.pt) x).isSome, .bool false]) h' at this
      rw [e2] at this; exact this
    refine r_ext rfl ?_; refine r_ext rfl ?_; refine r_ext rfl ?_; refine St.r_storeN0 s 1 rfl rfl (by simp) (enc1 ((c.pt.get lt x).getD emp)) ?_; intro h s
    refine r_if (fun e => absurd e (by simp)) (fun _ => ?_)
    unfold BTreeG_I_nodeSet.j5; refine r_not ?_; refine r_if (fun hr => ?_) (fun hr => ?_)
    · have hr2 : (c.pt.get lt x).isSome = false := by simpa using hr
      refine St.r_load0 s 0 rfl rfl ?_; refine r_nil ?_; refine r_fld ?_; refine St.r_load0 s 5 rfl rfl ?_; refine r_add (z := cnt + 1) (by have : (PT.items (h := k + 1) (its, ts.map GT.pt)).length ≤ 4611686018427387903 := hsz; rw [i64w (by omega) (by omega)]) ?_; refine r_nil ?_; refine r_fld ?_; refine St.r_store0 s 5 rfl (by simp) rfl ?_; intro h s
      exact fin (cnt + 1) h (by rw [hlenI, hr2, hcn]; simp) s
    · have hr2 : (c.pt.get lt x).isSome = true := by simpa using hr
      exact fin cnt h (by rw [hlenI, hr2, hcn]; simp) s
end Go.Proofs.Ythpmeccnddchpaa.Gi
end
section
namespace Go.Proofs.Ythpmeccnddchpaa.Gi
open Go.Hp Go.Proofs.Ythpmeccnddchpaa
variable {h0 h : Heap} {Z E : List Rg} {Q : Value → Heap → Prop} {lt : It → It → Bool} {lf : Value}
abbrev pp (m : Nat) : Value := ptr m 0
theorem fpv (l : List Nat) : l.flatMap fp = (l.map pp).flatMap fv := by rw [flat_fv]; exact List.map_eq_flatMap.symm
theorem setOk_succ (o : Swo lt) (hO : OrdC Z lf lt) {tb m : Nat} {iso mn : Int} {ctr : Option Addr} {x : It} (hT0 : (tb, 0, hd0 iso ctr) ∈ Z) (hT4 : (tb, 4, hd4 lf mn m) ∈ Z) (hm3 : 3 ≤ m) (hm1 : m ≤ 1024) (ho : m % 2 = 1) {k : Nat} (ih : SetOk lt h0 Z tb m iso x k) : SetOk lt h0 Z tb m iso x (k + 1) := by
  intro t h E Q pb po lo hb dp hv ht hh hdk hlo fl ha hsz g s H
  by_cases hns : ∀ c, t.pt.2[pos lt t.pt.1 x]? = some c → lget lt t.pt.1 x = none → c.splits lt m x = false
  · have hsp : t.pt.splits lt m x = false := by
      cases e : t.pt.splits lt m x with
      | false => rfl
      | true =>
        obtain ⟨_, e2⟩ := PT.splits_len e
        have e2 : lget lt t.pt.1 x = none := e2
        obtain ⟨c, hc, _⟩ := PT.step o fl ha e2; rw [PT.splits_kid e2 hc, hns c hc e2] at e
        simp at e
    refine set_noSplit o hO hT0 hT4 hm3 hm1 ho ih t hh hdk hlo fl ha hsz g s hns fun t' ht' h' h1 h2 h3 hh s => ?_
    have := H t' ht' h' (by rw [hsp]; exact h1) h2 h3 hh s
    rw [hsp] at this; exact this
  have hex : ∃ cp, t.pt.2[pos lt t.pt.1 x]? = some cp ∧ lget lt t.pt.1 x = none ∧ cp.splits lt m x = true := by
    apply Classical.byContradiction
    intro hno; refine hns fun c h1 h2 => ?_
    cases e : c.splits lt m x with
    | false => rfl
    | true => exact absurd ⟨c, h1, h2, e⟩ hno
  clear hns; obtain ⟨cp, hcp, hn, hcs⟩ := hex; obtain ⟨c0, hc0, hcm, hac, hg0, _⟩ := PT.step o fl ha hn
  have : c0 = cp := Option.some.inj (hc0.symm.trans hcp)
  subst this
  have hgn := PT.splits_get o (fl.2.2.2 _ hcm) hac hcs
  have hgt : t.pt.get lt x = none := by rw [PT.get_items o fl ha, hg0, hgn]
  have hgc : c0.get lt x = none := by rw [PT.get_items o (fl.2.2.2 _ hcm) hac, hgn]
  obtain ⟨md, hmd, _⟩ := PT.halves o ho (fl.2.2.2 _ hcm) hac hcs; obtain ⟨d, ts⟩ := t; obtain ⟨own, n, is', cnt, its, iv, ib, io, isp, kb, kv, krb, kro, ksp⟩ := d
  have w : Own 2 iv its.length ib io (its.flatMap enc) isp := g.wf.1.1
  have wK : Own 1 kv ts.length krb kro ((ts.map GT.id).map fun m => ptr m 0) ksp := g.wf.2.1
  have hkl : ts.length = its.length + 1 := g.wf.2.2.1
  have hidl : (ts.map GT.id).length = ts.length := List.length_map ..
  have hom : own = true := g.mine.1
  have hiso : is' = iso := g.wf.1.2.1 hom
  subst hiso; subst hom
  have hlen : its.length ≤ m := fl.2.1
  have hle : lo ≤ its.length := fl.1
  have hn : lget lt its x = none := hn
  have hcp : (ts.map GT.pt)[pos lt its x]? = some c0 := hcp
  have ha1 : Asc lt its := asc_of_sub ha (PT.its_sub1 (its, ts.map GT.pt))
  rw [← hidl, mfp] at wK
  have hcn : cnt = (PT.items (h := k + 1) (its, ts.map GT.pt)).length := g.cn.1
  have s : St h0 Z ((pb, po, [ptr n 0]) :: (hb, 0, ht) :: (n, 0, [.int .u64 is', .int .i64 cnt, iv, ptr kb 0]) :: (ib, io, its.flatMap enc ++ isp) :: (kb, 0, [kv]) :: (krb, kro, ((ts.map GT.id).map fun m => ptr m 0) ++ ksp) :: (ts.flatMap (GT.all enc) ++ E)) h := s
  rw [mfp] at s; refine set_head o hO (n := n) (iso := is') (cnt := cnt) (a := some ⟨kb, 0, none⟩) (E := (kb, 0, [kv]) :: (krb, kro, (ts.map GT.id).flatMap fp ++ ksp) :: (ts.flatMap (GT.all enc) ++ E)) hT0 hT4 hh (by omega) ha1 (by omega) (by omega) w (s.perm (by ((apply perm_rg; intro f; simp only [set_cons_zero, set_cons_succ, eraseIdx_cons_zero, eraseIdx_cons_succ, cons_append, nil_append, map_append, map_cons, map_nil, List.sum_append, List.sum_cons, List.sum_nil, map_flatMap, Nat.add_zero, Nat.zero_add]; ac_rfl)))) (fun y ht' h' hy hh s => by rw [hn] at hy; cases hy) fun t7 t10 t13 ht h' _ hh s => ?_
  have hp := pos_le (lt := lt) its x
  obtain ⟨c, hc⟩ : ∃ c, ts[pos lt its x]? = some c := ⟨ts[pos lt its x]'(by omega), List.getElem?_eq_getElem (by omega)⟩
  have : c0 = c.pt := by
    rw [List.getElem?_map, hc] at hcp; exact (Option.some.inj hcp).symm
  subst this
  have hcmem := List.mem_of_getElem? hc
  have hcsz : c.pt.items.length ≤ 4611686018427387903 := by
    have h1 : (inter its ((ts.map GT.pt).map PT.items)).length = _ := inter_length _ _
    have h2 : (inter its ((ts.map GT.pt).map PT.items)).length ≤ 4611686018427387903 := hsz
    have h3 : c.pt.items.length ≤ (((ts.map GT.pt).map PT.items).map List.length).sum := mem_le_sum (by
      rw [List.map_map, List.map_map]; exact List.mem_map.2 ⟨c, hcmem, rfl⟩)
    omega
  have s : St h0 Z ((t13, 0, [ptr n 0]) :: (t10, 0, enc emp) :: (t7, 0, enc x) :: (pb, po, [ptr n 0]) :: (hb, 0, ht) :: (n, 0, [.int .u64 is', .int .i64 cnt, iv, ptr kb 0]) :: (ib, io, its.flatMap enc ++ isp) :: (kb, 0, [kv]) :: (krb, kro, (ts.map GT.id).flatMap fp ++ ksp) :: (ts.flatMap (GT.all enc) ++ E)) h' := s.perm (by ((apply perm_rg; intro f; simp only [set_cons_zero, set_cons_succ, eraseIdx_cons_zero, eraseIdx_cons_succ, cons_append, nil_append, map_append, map_cons, map_nil, List.sum_append, List.sum_cons, List.sum_nil, map_flatMap, Nat.add_zero, Nat.zero_add]; ac_rfl)))
  unfold BTreeG_I_nodeSet.j3; refine St.r_load0 s 0 rfl rfl ?_; refine node_leaf_ok (a := some ⟨kb, 0, none⟩) (s.get (k := 5) (j := 3) rfl (by simp)) ?_; refine r_if (fun e => absurd e (by simp)) (fun _ => ?_)
  unfold BTreeG_I_nodeSet.j4; refine St.r_load0 s 0 rfl rfl ?_; refine r_nil ?_; refine r_fld ?_; refine St.r_load0 s 5 rfl rfl ?_; refine r_nil ?_; refine St.r_load0 s 7 rfl rfl ?_
  (refine Own.idx (by assumption) rfl (by first | omega | (simp; done) | (simp; omega)) ?_)
  refine St.r_loadN0 s 2 rfl (by simp) ?_; refine r_add1 (by omega) ?_; obtain ⟨E', sk, back⟩ := lend_kidH (r := (hb, 0, ht)) (krb := krb) (kro := kro) (ksp := ksp) (A := (t13, 0, [ptr n 0]) :: (t10, 0, enc emp) :: (t7, 0, enc x) :: (pb, po, [ptr n 0]) :: (n, 0, [.int .u64 is', .int .i64 cnt, iv, ptr kb 0]) :: (ib, io, its.flatMap enc ++ isp) :: (kb, 0, [kv]) :: []) (E := E) (kb := kb) (kv := kv) hc (s.perm (by ((apply perm_rg; intro f; simp only [set_cons_zero, set_cons_succ, eraseIdx_cons_zero, eraseIdx_cons_succ, cons_append, nil_append, map_append, map_cons, map_nil, List.sum_append, List.sum_cons, List.sum_nil, map_flatMap, Nat.add_zero, Nat.zero_add]; ac_rfl)))); refine ih c hh (by omega) (by omega) (fl.2.2.2 _ hcm) hac hcsz (g.kid hcmem) sk fun c' ht h' hc1 hc2 hc3 hh s => ?_; rw [hcs, hgc]; rw [hcs] at hc1
  simp only [↓reduceIte] at hc1
  have s := back c' _ h' hc2 s
  have s : St h0 Z ((t13, 0, [ptr n 0]) :: (t10, 0, enc emp) :: (t7, 0, enc x) :: (pb, po, [ptr n 0]) :: (hb, 0, ht) :: (n, 0, [.int .u64 is', .int .i64 cnt, iv, ptr kb 0]) :: (ib, io, its.flatMap enc ++ isp) :: (kb, 0, [kv]) :: (krb, kro, ((ts.set (pos lt its x) c').map GT.id).flatMap fp ++ ksp) :: ((ts.set (pos lt its x) c').flatMap (GT.all enc) ++ E)) h' := s.perm (by ((apply perm_rg; intro f; simp only [set_cons_zero, set_cons_succ, eraseIdx_cons_zero, eraseIdx_cons_succ, cons_append, nil_append, map_append, map_cons, map_nil, List.sum_append, List.sum_cons, List.sum_nil, map_flatMap, Nat.add_zero, Nat.zero_add]; ac_rfl)))
  have hi := (List.getElem?_eq_some_iff.1 hc).1
  have hc' : (ts.set (pos lt its x) c')[pos lt its x]? = some c' := List.getElem?_set_self hi
  have ept : (ts.set (pos lt its x) c').map GT.pt = ts.map GT.pt := by
    apply List.ext_getElem?
    intro j; rw [List.map_set, List.getElem?_set]
    split
    · rename_i e; subst e
      simp only [List.length_map, hi, if_true]
      rw [hc1]; exact hcp.symm
    · rfl
  have g1 : Gd is' (k := k + 1) ((⟨true, n, is', cnt, its, iv, ib, io, isp, kb, kv, krb, kro, ksp⟩ : Nd It), ts.set (pos lt its x) c') :=
    Gd.setKid g hc hc2 hc3 (by show cnt = ((PT.items (h := k + 1) (its, (ts.set (pos lt its x) c').map GT.pt)).length : Int); rw [ept]; exact hcn)
  refine r_ext rfl ?_; refine r_ext rfl ?_; refine r_ext rfl ?_; refine St.r_storeN0 s 1 rfl rfl (by simp) (enc1 emp) ?_; intro h' s
  refine r_if (fun _ => ?_) (fun e => absurd e (by simp))
  refine St.r_load0 s 0 rfl rfl ?_; refine r_nil ?_; refine r_fld ?_; refine St.r_load0 s 5 rfl rfl ?_; refine Own.lenV (by assumption) ?_; refine r_nil ?_; refine r_fld ?_; refine s.r_lz hT4 5 rfl rfl ?_; refine r_cmpI ?_; refine r_if (fun hfull => ?_) (fun hroom => ?_)
  · have hfull : its.length = m := Int.ofNat_inj.1 (by simpa using hfull)
    have hsp : PT.splits lt m (h := k + 1) (its, ts.map GT.pt) x = true := by rw [PT.splits_kid (t := (its, ts.map GT.pt)) hn hcp, hcs]; simpa using hfull
    refine r_nil ?_; refine r_fld ?_; refine s.r_lzE hT4 3 (enc emp) rfl (by simp) rfl ?_; refine St.r_storeN0 s 1 rfl rfl (by simp) (enc1 emp) ?_; intro h' s
    refine St.r_loadN0 s 1 rfl (by simp) ?_
    have := H ((⟨true, n, is', cnt, its, iv, ib, io, isp, kb, kv, krb, kro, ksp⟩ : Nd It), ts.set (pos lt its x) c') ht h' (by
      show (its, (ts.set (pos lt its x) c').map GT.pt) = if PT.splits lt m (h := k + 1) (its, ts.map GT.pt) x = true then _ else _
      rw [hsp, ept]; rfl) rfl g1 hh (by rw [← mfp] at s; exact s.drop 3)
    change Q (.tuple #[old (PT.get lt (h := k + 1) (its, ts.map GT.pt) x), .bool (PT.get lt (h := k + 1) (its, ts.map GT.pt) x).isSome, .bool (PT.splits lt m (h := k + 1) (its, ts.map GT.pt) x)]) h' at this
    have hgt : PT.get lt (h := k + 1) (its, ts.map GT.pt) x = none := hgt
    rw [hsp, hgt] at this; exact this
  · have hroom : its.length ≠ m := fun e => by rw [e] at hroom; simp at hroom
    have hsp : PT.splits lt m (h := k + 1) (its, ts.map GT.pt) x = false := by rw [PT.splits_kid (t := (its, ts.map GT.pt)) hn hcp]; simp [hroom]
    obtain ⟨q1, q2, q3, q4, q5⟩ := PT.set_split (t := (its, ts.map GT.pt)) o ho fl ha hn hcp hcs hmd hroom; unfold BTreeG_I_nodeSet.j7
    have wk1 : Own 1 kv ((ts.set (pos lt its x) c').map GT.id).length krb kro (((ts.set (pos lt its x) c').map GT.id).flatMap fp) ksp := by rw [set_ids hc hc2]; exact wK
    refine St.r_load0 s 0 rfl rfl ?_; refine r_nil ?_; refine r_fld ?_; refine St.r_load0 s 5 rfl rfl ?_; refine r_nil ?_; refine St.r_load0 s 7 rfl rfl ?_; refine wk1.idx (n := pos lt its x) rfl (by rw [List.length_map, List.length_set]; omega) ?_; refine r_loadM1 s 8 rfl hc' ?_
    have hcl : c'.pt.its.length = m := by rw [hc1]; exact (PT.splits_len hcs).1
    have etake : (ts.set (pos lt its x) c').take (pos lt its x) = ts.take (pos lt its x) := List.take_set_of_le (Nat.le_refl _)
    have edrop : (ts.set (pos lt its x) c').drop (pos lt its x + 1) = ts.drop (pos lt its x + 1) := List.drop_set_of_lt (by omega)
    have s : St h0 Z ((t13, 0, [ptr n 0]) :: (t10, 0, enc emp) :: (t7, 0, enc x) :: (pb, po, [ptr n 0]) :: (hb, 0, ht) :: (n, 0, [.int .u64 is', .int .i64 cnt, iv, ptr kb 0]) :: (ib, io, its.flatMap enc ++ isp) :: (kb, 0, [kv]) :: (krb, kro, ((ts.set (pos lt its x) c').map GT.id).flatMap fp ++ ksp) :: ((ts.set (pos lt its x) c').flatMap (GT.all enc) ++ E)) h' := s
    refine nodeSplit_ok c' (m := m) (E := (t13, 0, [ptr n 0]) :: (t10, 0, enc emp) :: (t7, 0, enc x) :: (pb, po, [ptr n 0]) :: (hb, 0, ht) :: (n, 0, [.int .u64 is', .int .i64 cnt, iv, ptr kb 0]) :: (ib, io, its.flatMap enc ++ isp) :: (kb, 0, [kv]) :: (krb, kro, (ts.map GT.id).flatMap fp ++ ksp) :: ((ts.take (pos lt its x)).flatMap (GT.all enc) ++ ((ts.drop (pos lt its x + 1)).flatMap (GT.all enc) ++ E)))
      hT0 hT4 (by omega) (by omega) (by rw [hc1]; exact fl.2.2.2 _ hcm) hcl (by rw [hc1]; omega) hc3 (s.perm ?_) fun l r md' h hmd' hl hr hlid gl gr s => ?_
    · rw [set_ids hc hc2, flat_at3 (GT.all enc) hc', etake, edrop]; ((apply perm_rg; intro f; simp only [set_cons_zero, set_cons_succ, eraseIdx_cons_zero, eraseIdx_cons_succ, cons_append, nil_append, map_append, map_cons, map_nil, List.sum_append, List.sum_cons, List.sum_nil, map_flatMap, Nat.add_zero, Nat.zero_add]; ac_rfl))
    have : md' = md := by rw [hc1] at hmd'; exact Option.some.inj (hmd'.symm.trans hmd)
    subst this; rw [hc1] at hl hr
    have s : St h0 Z ((t13, 0, [ptr n 0]) :: (t10, 0, enc emp) :: (t7, 0, enc x) :: (pb, po, [ptr n 0]) :: (hb, 0, ht) :: (n, 0, [.int .u64 is', .int .i64 cnt, iv, ptr kb 0]) :: (ib, io, its.flatMap enc ++ isp) :: (kb, 0, [kv]) :: (krb, kro, ((ts.map GT.id).map pp).flatMap fv ++ ksp) :: ((ts.take (pos lt its x) ++ l :: r :: ts.drop (pos lt its x + 1)).flatMap (GT.all enc) ++ E)) h :=
      s.perm (by rw [← fpv, List.flatMap_append, List.flatMap_cons, List.flatMap_cons]; ((apply perm_rg; intro f; simp only [set_cons_zero, set_cons_succ, eraseIdx_cons_zero, eraseIdx_cons_succ, cons_append, nil_append, map_append, map_cons, map_nil, List.sum_append, List.sum_cons, List.sum_nil, map_flatMap, Nat.add_zero, Nat.zero_add]; ac_rfl)))
    rw [fpv] at wK; clear wk1
    have hpl : ((ts.map GT.id).map pp).length = ts.length := by rw [List.length_map, List.length_map]
    have elp : (ts.map GT.id).length = ((ts.map GT.id).map pp).length := List.length_map .. |>.symm
    rw [elp] at wK
    generalize hL : (ts.map GT.id).map pp = L at s wK hpl
    refine r_ext rfl ?_; refine r_ext rfl ?_; refine s.r_alloc fun t17 h s => ?_; refine St.r_storeN0 s 0 rfl rfl (by simp) (enc1 _) ?_; intro h s
    refine St.r_load0 s 1 rfl rfl ?_; refine r_nil ?_; refine r_fld ?_; refine St.r_load0 s 6 rfl rfl ?_; refine St.r_load0 s 1 rfl rfl ?_; refine r_nil ?_; refine r_fld ?_; refine St.r_load0 s 6 rfl rfl ?_; refine r_nil ?_; refine St.r_load0 s 8 rfl rfl ?_; refine St.r_mkSl (sz := 1) (cs := [.pointer none]) s (by ((simp only [fillV, fill1, Value.cells, zeros_succ, zeros_zero, size_toArray, length_cons, length_nil, length_append, take_succ_cons, take_zero, take_nil, drop_succ_cons, drop_zero, drop_nil, cons_append, nil_append, append_nil, Nat.reduceAdd, Nat.reduceMul, Nat.reduceLeDiff, Nat.reduceEqDiff, and_self, and_true, true_and, if_true, Nat.le_refl, Nat.zero_add, Nat.add_zero, Nat.zero_mul, reduceIte, if_false] <;> rfl))) rfl fun q h s w1 => ?_; refine And.intro (by exact St.r_still0 s 2 rfl rfl) ?_; refine And.intro (by exact St.r_still0 s 7 rfl rfl) ?_; refine And.intro (by exact St.r_still0 s 2 rfl rfl) ?_; refine And.intro (by exact St.r_still0 s 7 rfl rfl) ?_; refine And.intro (by exact St.r_still0 s 9 rfl rfl) ?_; refine St.r_app s 10 (sz := 1) (n := 1) (new := [.pointer none]) rfl wK rfl (w1.rdl s 0 rfl) (by simp [one1]) (by omega) (by omega) fun kv' krb' kro' ksp' h s wk' => ?_; rw [snoc_fv] at s wk'
    have wk' : Own 1 kv' (L ++ [Value.pointer none]).length krb' kro' ((L ++ [Value.pointer none]).flatMap fv) ksp' := by rw [List.length_append]; exact wk'
    refine And.intro (by exact St.r_still0 s 2 rfl rfl) ?_; refine And.intro (by exact St.r_still0 s 7 rfl rfl) ?_; refine r_nil ?_
    (refine St.r_store0 s 9 rfl (by simp) (Own.one (by assumption)) ?_; intro h s; try simp only [List.set_cons_zero, List.set_cons_succ] at s)
    refine St.r_load0 s 2 rfl rfl ?_; refine r_nil ?_; refine r_fld ?_; refine St.r_load0 s 7 rfl rfl ?_; refine r_nil ?_; refine St.r_load0 s 9 rfl rfl ?_; refine r_add1 (by omega) ?_; refine wk'.slcLo fvl (i := pos lt its x + 1) rfl (by simp; omega) fun dd wd => ?_; refine St.r_load0 s 2 rfl rfl ?_; refine r_nil ?_; refine r_fld ?_; refine St.r_load0 s 7 rfl rfl ?_; refine r_nil ?_; refine St.r_load0 s 9 rfl rfl ?_; refine (wk'.rdl s 10 rfl).slcLo fvl (i := pos lt its x) rfl (by simp; omega) fun src rs => ?_; refine s.r_cpyF fvl 10 (L := L ++ [Value.pointer none]) (M := (L ++ [Value.pointer none]).drop (pos lt its x)) rfl wd (by simp; omega) rs rfl (fun y hy => ?_) fun h s => ?_
    · have hy := List.mem_of_mem_drop hy
      intro z hz; rw [List.mem_singleton.1 hz]
      rcases List.mem_append.1 hy with e | e
      · rw [← hL] at e; obtain ⟨a, _, rfl⟩ := List.mem_map.1 e; rfl
      · rw [List.mem_singleton.1 e]; rfl
    refine St.r_load0 s 2 rfl rfl ?_; refine r_nil ?_; refine r_fld ?_; refine St.r_load0 s 7 rfl rfl ?_; refine r_nil ?_; refine St.r_load0 s 9 rfl rfl ?_; refine r_add1 (by omega) ?_; refine wk'.idx (n := pos lt its x + 1) rfl (by simp; omega) ?_; refine s.r_storeV (v := ptr r.id 0) 10 rfl (by simp; omega) rfl fun h s => ?_; rw [List.set_set, ins_steps2 L (.pointer none) (ptr r.id 0) (by omega)] at s; refine St.r_load0 s 2 rfl rfl ?_; refine St.r_load0 s 2 rfl rfl ?_; refine r_nil ?_; refine r_fld ?_; refine St.r_load0 s 7 rfl rfl ?_; refine r_nil ?_; refine r_fld ?_; refine s.r_lzE hT4 3 (enc emp) rfl (by simp) rfl ?_; refine St.r_mkSl (sz := 2) (cs := enc emp) s (by ((simp only [fillV, fill1, Value.cells, zeros_succ, zeros_zero, size_toArray, length_cons, length_nil, length_append, take_succ_cons, take_zero, take_nil, drop_succ_cons, drop_zero, drop_nil, cons_append, nil_append, append_nil, Nat.reduceAdd, Nat.reduceMul, Nat.reduceLeDiff, Nat.reduceEqDiff, and_self, and_true, true_and, if_true, Nat.le_refl, Nat.zero_add, Nat.add_zero, Nat.zero_mul, reduceIte, if_false] <;> rfl))) rfl fun qq h s w2 => ?_; refine And.intro (by exact St.r_still0 s 3 rfl rfl) ?_; refine And.intro (by exact St.r_still0 s 3 rfl rfl) ?_; refine And.intro (by exact St.r_still0 s 8 rfl rfl) ?_; refine St.r_app s 9 (sz := 2) (n := 1) (new := enc emp) rfl w rfl (w2.rdl s 0 rfl) (enc1 _) (by omega) (by omega) fun iv' ib' io' isp' h s w' => ?_; rw [snoc_enc] at s w'
    have w' : Own 2 iv' (its ++ [emp]).length ib' io' ((its ++ [emp]).flatMap enc) isp' := by rw [List.length_append]; exact w'
    refine And.intro (by exact St.r_still0 s 3 rfl rfl) ?_; refine r_nil ?_; refine r_fld ?_
    (refine St.r_store0 s 8 rfl (by simp) (Own.one (by assumption)) ?_; intro h s; try simp only [List.set_cons_zero, List.set_cons_succ] at s)
    refine St.r_load0 s 3 rfl rfl ?_; refine r_nil ?_; refine r_fld ?_; refine St.r_load0 s 8 rfl rfl ?_; refine r_add1 (by omega) ?_; refine w'.slcLo encl (i := pos lt its x + 1) rfl (by simp; omega) fun dd2 wd2 => ?_; refine St.r_load0 s 3 rfl rfl ?_; refine r_nil ?_; refine r_fld ?_; refine St.r_load0 s 8 rfl rfl ?_; refine (w'.rdl s 9 rfl).slcLo encl (i := pos lt its x) rfl (by simp; omega) fun src2 rs2 => ?_; refine s.r_cpyF encl 9 (L := its ++ [emp]) (M := (its ++ [emp]).drop (pos lt its x)) rfl wd2 (by simp; omega) rs2 rfl (fun y _ => enc1 y) fun h s => ?_; refine St.r_load0 s 3 rfl rfl ?_; refine r_nil ?_; refine r_fld ?_; refine St.r_load0 s 8 rfl rfl ?_; refine St.r_loadN0 s 2 rfl (by simp) ?_; refine w'.idx (n := pos lt its x) rfl (by simp; omega) ?_; refine s.r_storeF (x := md') encl 9 rfl (by simp; omega) (enc1 _) fun h s => ?_; rw [List.set_set, ins_steps its emp md' hp] at s; refine St.r_loadN0 s 5 rfl (by simp) ?_
    have hil := ins_length (x := md') hp
    have e8 : ins L (pos lt its x + 1) (ptr r.id 0) = ((ts.take (pos lt its x) ++ l :: r :: ts.drop (pos lt its x + 1)).map GT.id).map pp := by
      have e9 : ts.take (pos lt its x + 1) = ts.take (pos lt its x) ++ [c] := by rw [List.take_add_one, hc]; rfl
      unfold ins; rw [← hL, ← List.map_take, ← List.map_take, ← List.map_drop, ← List.map_drop, e9]
      simp only [map_append, map_cons, map_nil, append_assoc, cons_append, nil_append, hlid, hc2]
    rw [e8, ← fpv] at s
    have hl2 : ((ts.take (pos lt its x) ++ l :: r :: ts.drop (pos lt its x + 1)).map GT.id).length = (L ++ [Value.pointer none]).length := by simp; omega
    have wk2 : Own 1 kv' (ts.take (pos lt its x) ++ l :: r :: ts.drop (pos lt its x + 1)).length krb' kro' (((ts.take (pos lt its x) ++ l :: r :: ts.drop (pos lt its x + 1)).map GT.id).flatMap fp) ksp' := by
      rw [← hl2, List.length_map] at wk'; exact wk'.cong (by rw [flat_len fpl, flat_len fvl, hl2])
    have w2' : Own 2 iv' (ins its (pos lt its x) md').length ib' io' ((ins its (pos lt its x) md').flatMap enc) isp' := by
      rw [show (ins its (pos lt its x) md').length = (its ++ [emp]).length by rw [hil]; simp]; exact w'.cong (by rw [flat_len encl, flat_len encl, hil]; simp)
    have ept2 : (ts.take (pos lt its x) ++ l :: r :: ts.drop (pos lt its x + 1)).map GT.pt = (ts.map GT.pt).take (pos lt its x) ++ c.pt.lo (m / 2) :: c.pt.hi (m / 2) :: (ts.map GT.pt).drop (pos lt its x + 1) := by
      rw [List.map_append, List.map_cons, List.map_cons, List.map_take, List.map_drop, hl, hr]
    have g2 : Gd is' (k := k + 1) ((⟨true, n, is', cnt, ins its (pos lt its x) md', iv', ib', io', isp', kb, kv', krb', kro', ksp'⟩ : Nd It), ts.take (pos lt its x) ++ l :: r :: ts.drop (pos lt its x + 1)) := by
      refine Gd.inner w2' rfl rfl wk2 (by show _ = (ins its (pos lt its x) md').length + 1; rw [hil]; simp; omega) (fun q hq => ?_) ?_
      · rcases List.mem_append.1 hq with e | e
        · exact g.kid (List.mem_of_mem_take e)
        · rcases List.mem_cons.1 e with e | e
          · rw [e]; exact gl
          · rcases List.mem_cons.1 e with e | e
            · rw [e]; exact gr
            · exact g.kid (List.mem_of_mem_drop e)
      · show cnt = ((PT.items (h := k + 1) (ins its (pos lt its x) md', (ts.take (pos lt its x) ++ l :: r :: ts.drop (pos lt its x + 1)).map GT.pt)).length : Int)
        rw [ept2, q1]; exact hcn
    have hpt2 : GT.pt (h := k + 1) ((⟨true, n, is', cnt, ins its (pos lt its x) md', iv', ib', io', isp', kb, kv', krb', kro', ksp'⟩ : Nd It), ts.take (pos lt its x) ++ l :: r :: ts.drop (pos lt its x + 1)) = (ins its (pos lt its x) md', (ts.map GT.pt).take (pos lt its x) ++ c.pt.lo (m / 2) :: c.pt.hi (m / 2) :: (ts.map GT.pt).drop (pos lt its x + 1)) := by
      show (_, _) = _; rw [ept2]
    have s : St h0 Z ((t13, 0, [ptr n 0]) :: (hb, 0, ht) :: ((GT.all enc (h := k + 1) ((⟨true, n, is', cnt, ins its (pos lt its x) md', iv', ib', io', isp', kb, kv', krb', kro', ksp'⟩ : Nd It), ts.take (pos lt its x) ++ l :: r :: ts.drop (pos lt its x + 1))) ++ ((pb, po, [ptr n 0]) :: (t10, 0, enc emp) :: E))) h := by
      have s1 : St h0 Z ((t13, 0, [ptr n 0]) :: (hb, 0, ht) :: (n, 0, [.int .u64 is', .int .i64 cnt, iv', ptr kb 0]) :: (ib', io', (ins its (pos lt its x) md').flatMap enc ++ isp') :: (kb, 0, [kv']) :: (krb', kro', ((ts.take (pos lt its x) ++ l :: r :: ts.drop (pos lt its x + 1)).map GT.id).flatMap fp ++ ksp') :: ((ts.take (pos lt its x) ++ l :: r :: ts.drop (pos lt its x + 1)).flatMap (GT.all enc) ++ ((pb, po, [ptr n 0]) :: (t10, 0, enc emp) :: E))) h :=
        (s.perm (E' := (qq, 0, _) :: (q, 0, _) :: (t17, 0, _) :: (t7, 0, _) :: _) (by ((apply perm_rg; intro f; simp only [set_cons_zero, set_cons_succ, eraseIdx_cons_zero, eraseIdx_cons_succ, cons_append, nil_append, map_append, map_cons, map_nil, List.sum_append, List.sum_cons, List.sum_nil, map_flatMap, Nat.add_zero, Nat.zero_add]; ac_rfl)))).drop 4
      rw [← mfp] at s1; exact s1
    refine set_noSplit o hO hT0 hT4 hm3 hm1 ho ih _ hh hdk hlo (by rw [hpt2]; exact q2) (by rw [hpt2, q1]; exact ha) (by rw [hpt2, q1]; exact hsz) g2 s (fun c2 h1 h2 => ?_) fun t' ht h' h1 h2 h3 hh s => ?_
    · rw [hpt2] at h1
      obtain ⟨c3, h3, h4⟩ := q4
      have : c2 = c3 := Option.some.inj (h1.symm.trans h3)
      rw [this]; exact h4
    · have hgt2 : PT.get lt (GT.pt (h := k + 1) ((⟨true, n, is', cnt, ins its (pos lt its x) md', iv', ib', io', isp', kb, kv', krb', kro', ksp'⟩ : Nd It), ts.take (pos lt its x) ++ l :: r :: ts.drop (pos lt its x + 1))) x = none := by
        rw [hpt2, PT.get_items o q2 (by rw [q1]; exact ha), q1, ← PT.get_items (h := k + 1) (t := (its, ts.map GT.pt)) o fl ha]; exact hgt
      rw [hgt2]
      have s : St h0 Z ((t10, 0, enc emp) :: (pb, po, [ptr n 0]) :: (hb, 0, ht) :: (t'.all enc ++ E)) h' := St.drop (E := (t13, 0, [ptr n 0]) :: (t10, 0, enc emp) :: (pb, po, [ptr n 0]) :: (hb, 0, ht) :: (t'.all enc ++ E)) (s.perm (by ((apply perm_rg; intro f; simp only [set_cons_zero, set_cons_succ, eraseIdx_cons_zero, eraseIdx_cons_succ, cons_append, nil_append, map_append, map_cons, map_nil, List.sum_append, List.sum_cons, List.sum_nil, map_flatMap, Nat.add_zero, Nat.zero_add]; ac_rfl)))) 1
      refine r_ext rfl ?_; refine r_ext rfl ?_; refine r_ext rfl ?_; refine St.r_storeN0 s 0 rfl rfl (by simp) (enc1 emp) ?_; intro h' s
      refine St.r_loadN0 s 0 rfl (by simp) ?_
      have := H t' ht h' (by
        show _ = if PT.splits lt m (h := k + 1) (its, ts.map GT.pt) x = true then _ else _
        rw [hsp, h1, hpt2, q5]; rfl) h2 h3 hh (s.drop 1)
      change Q (.tuple #[old (PT.get lt (h := k + 1) (its, ts.map GT.pt) x), .bool (PT.get lt (h := k + 1) (its, ts.map GT.pt) x).isSome, .bool (PT.splits lt m (h := k + 1) (its, ts.map GT.pt) x)]) h' at this
      have hgt : PT.get lt (h := k + 1) (its, ts.map GT.pt) x = none := hgt
      rw [hsp, hgt] at this; exact this
theorem setOk_all (o : Swo lt) (hO : OrdC Z lf lt) {tb m : Nat} {iso mn : Int} {ctr : Option Addr} {x : It} (hT0 : (tb, 0, hd0 iso ctr) ∈ Z) (hT4 : (tb, 4, hd4 lf mn m) ∈ Z) (hm3 : 3 ≤ m) (hm1 : m ≤ 1024) (ho : m % 2 = 1) : ∀ k, SetOk lt h0 Z tb m iso x k
  | 0 => setOk_zero o hO hT0 hT4 hm1
  | k + 1 => setOk_succ o hO hT0 hT4 hm3 hm1 ho (setOk_all o hO hT0 hT4 hm3 hm1 ho k)
end Go.Proofs.Ythpmeccnddchpaa.Gi
end
section
namespace Go.Proofs.Ythpmeccnddchpaa.Gi
open Go.Hp Go.Proofs.Ythpmeccnddchpaa
set_option maxHeartbeats 4000000
variable {h0 h : Heap} {Z E : List Rg} {Q : Value → Heap → Prop} {lf : Value}
def GT.kp : {k : Nat} → GT It k → Value
  | 0, _ => .pointer none
  | _ + 1, t => ptr t.1.kb 0
def GT.rest : {k : Nat} → GT It k → List Rg
  | 0, _ => []
  | _ + 1, t => (t.1.kb, 0, [t.1.kv]) :: (t.1.krb, t.1.kro, ((t.2.map GT.id).map pp).flatMap fv ++ t.1.ksp) :: t.2.flatMap (GT.all enc)
theorem all_eq : ∀ {k : Nat} (t : GT It k), t.all enc = (t.id, 0, [.int .u64 t.nd.iso, .int .i64 t.nd.cnt, t.nd.iv, GT.kp t]) :: (t.nd.ib, t.nd.io, t.nd.its.flatMap enc ++ t.nd.isp) :: GT.rest t
  | 0, _ => rfl
  | _ + 1, t => by
    have e : GT.rest (k := _ + 1) t = (t.1.kb, 0, [t.1.kv]) :: (t.1.krb, t.1.kro, ((t.2.map GT.id).map pp).flatMap fv ++ t.1.ksp) :: t.2.flatMap (GT.all enc) := rfl
    rw [e, flat_fv]; rfl
theorem Gd.own {iso : Int} : ∀ {k : Nat} {t : GT It k}, Gd iso t → Own 2 t.nd.iv t.nd.its.length t.nd.ib t.nd.io (t.nd.its.flatMap enc) t.nd.isp
  | 0, _, g => g.wf.1
  | _ + 1, _, g => g.wf.1.1
theorem Gd.iso {iso : Int} : ∀ {k : Nat} {t : GT It k}, Gd iso t → t.nd.iso = iso
  | 0, _, g => g.wf.2.1 g.mine
  | _ + 1, _, g => g.wf.1.2.1 g.mine.1
theorem Gd.ownK {iso : Int} {k : Nat} {t : GT It (k + 1)} (g : Gd iso t) : Own 1 t.1.kv ((t.2.map GT.id).map pp).length t.1.krb t.1.kro (((t.2.map GT.id).map pp).flatMap fv) t.1.ksp := by
  have := g.wf.2.1
  rw [flat_fv, List.length_map, List.length_map]; exact this
theorem Gd.cntEq {iso : Int} {k : Nat} {t : GT It k} (g : Gd iso t) : t.nd.cnt = t.pt.items.length := g.cn.cnt
theorem fl_its {m lo : Nat} : ∀ {k : Nat} {t : GT It k}, t.pt.Fl m lo → lo ≤ t.nd.its.length ∧ t.nd.its.length ≤ m
  | 0, _, f => f
  | _ + 1, _, f => ⟨f.1, f.2.1⟩
theorem mk_inner {iso : Int} {k n ib io kb krb kro : Nat} {its : List It} {iv kv : Value} {isp ksp : List Value} {ts : List (GT It k)} (w : Own 2 iv its.length ib io (its.flatMap enc) isp) (wK : Own 1 kv ((ts.map GT.id).map pp).length krb kro (((ts.map GT.id).map pp).flatMap fv) ksp)
    (hl : ts.length = its.length + 1) (hk : ∀ c ∈ ts, Gd iso c) : ∃ t : GT It (k + 1), t.id = n ∧ Gd iso t ∧ t.pt = (its, ts.map GT.pt) ∧ t.nd.its = its ∧
      t.all enc = (n, 0, [.int .u64 iso, .int .i64 (PT.items (h := k + 1) (its, ts.map GT.pt)).length, iv, ptr kb 0]) :: (ib, io, its.flatMap enc ++ isp) :: (kb, 0, [kv]) :: (krb, kro, ((ts.map GT.id).map pp).flatMap fv ++ ksp) :: ts.flatMap (GT.all enc) := by
  refine ⟨((⟨true, n, iso, (PT.items (h := k + 1) (its, ts.map GT.pt)).length, its, iv, ib, io, isp, kb, kv, krb, kro, ksp⟩ : Nd It), ts), rfl, Gd.inner w rfl rfl ?_ hl hk rfl, rfl, rfl, ?_⟩
  · rw [flat_fv, List.length_map, List.length_map] at wK
    rw [← mfp]; exact wK
  · show Nd.inner enc _ (ts.map GT.id) ++ ts.flatMap (GT.all enc) = _
    unfold Nd.inner; rw [flat_fv]; rfl
theorem mk_leaf {iso : Int} {n ib io : Nat} {its : List It} {iv : Value} {isp : List Value} (w : Own 2 iv its.length ib io (its.flatMap enc) isp) : ∃ t : GT It 0, t.id = n ∧ Gd iso t ∧ t.pt = its ∧ t.nd.its = its ∧
      t.all enc = [(n, 0, [.int .u64 iso, .int .i64 its.length, iv, .pointer none]), (ib, io, its.flatMap enc ++ isp)] :=
  ⟨(⟨true, n, iso, its.length, its, iv, ib, io, isp, 0, .pointer none, 0, 0, []⟩ : Nd It), rfl, Gd.leaf w rfl rfl rfl, rfl, rfl, rfl⟩
theorem ids_pp {k : Nat} (A B : List (GT It k)) (l r : GT It k) : (((A ++ l :: r :: B).map GT.id).map pp) = (A.map GT.id).map pp ++ pp l.id :: pp r.id :: (B.map GT.id).map pp := by simp
theorem ids_one {k : Nat} (A B : List (GT It k)) (l : GT It k) : (((A ++ l :: B).map GT.id).map pp) = (A.map GT.id).map pp ++ pp l.id :: (B.map GT.id).map pp := by simp
theorem two_of {β : Type} {ts : List β} {j : Nat} (h : j + 1 < ts.length) : ∃ A l r B, ts = A ++ l :: r :: B ∧ A.length = j :=
  ⟨ts.take j, ts[j], ts[j + 1], ts.drop (j + 2), by
    rw [← List.drop_eq_getElem_cons h, ← List.drop_eq_getElem_cons (by omega), List.take_append_drop], by rw [List.length_take]; omega⟩
theorem one_of {β : Type} {ts : List β} {j : Nat} (h : j < ts.length) : ∃ A l B, ts = A ++ l :: B ∧ A.length = j :=
  ⟨ts.take j, ts[j], ts.drop (j + 1), by rw [← List.drop_eq_getElem_cons h, List.take_append_drop], by rw [List.length_take]; omega⟩
def Mended (iso : Int) (m j : Nat) {k : Nat} (t t' : GT It (k + 1)) : Prop := t'.id = t.id ∧ t'.pt.items = t.pt.items ∧ t'.pt.Fl m (t.pt.1.length - 1) ∧ Gd iso t' ∧ t'.pt = PT.mendAt m t.pt j
theorem mended_two {iso : Int} {m j k : Nat} {A B : List (GT It k)} {l r l' r' : GT It k} {P S : List It} {y z : It} {t t' : GT It (k + 1)} (e : t.pt = (P ++ y :: S, (A ++ l :: r :: B).map GT.pt)) (e' : t'.pt = (P ++ z :: S, (A ++ l' :: r' :: B).map GT.pt)) (hA : A.length = P.length) (hB : B.length = S.length)
    (hi : t'.id = t.id) (g' : Gd iso t') (hab : ∀ c ∈ A ++ B, PT.Fl m (m / 2) c.pt) (hlm : t.pt.1.length ≤ m) (fl : l'.pt.Fl m (m / 2)) (fr : r'.pt.Fl m (m / 2)) (hx : l.pt.items ++ y :: r.pt.items = l'.pt.items ++ z :: r'.pt.items) (hPj : P.length = j)
    (hs : ¬ l.nd.its.length + r.nd.its.length < m ∧ ((r.nd.its.length < l.nd.its.length ∧ PT.shR y l.pt r.pt = (l'.pt, z, r'.pt)) ∨ (¬ r.nd.its.length < l.nd.its.length ∧ PT.shL y l.pt r.pt = (l'.pt, z, r'.pt)))) : Mended iso m j t t' := by
  refine ⟨hi, ?_, ?_, g', ?_⟩
  rotate_right
  · have e1 : t.pt = (P ++ y :: S, A.map GT.pt ++ l.pt :: r.pt :: B.map GT.pt) := e.trans (congrArg (Prod.mk (P ++ y :: S)) (by rw [List.map_append, List.map_cons, List.map_cons]))
    have e2 : t'.pt = (P ++ z :: S, A.map GT.pt ++ l'.pt :: r'.pt :: B.map GT.pt) := e'.trans (congrArg (Prod.mk (P ++ z :: S)) (by rw [List.map_append, List.map_cons, List.map_cons]))
    have key := PT.mendAt_eq (m := m) (S := S) (A := A.map GT.pt) (B := B.map GT.pt) (y := y) (l := l.pt) (r := r.pt) hPj (by rw [List.length_map]; omega)
    rw [GT.pt_its, GT.pt_its, if_neg hs.1] at key; rw [e1, e2]; refine Eq.trans ?_ key.symm
    rcases hs.2 with ⟨h1, h2⟩ | ⟨h1, h2⟩
    · (rw [if_pos h1, h2]) <;> rfl
    · (rw [if_neg h1, h2]) <;> rfl
  · have e1 : t.pt = (P ++ y :: S, A.map GT.pt ++ l.pt :: r.pt :: B.map GT.pt) := e.trans (congrArg (Prod.mk (P ++ y :: S)) (by rw [List.map_append, List.map_cons, List.map_cons]))
    have e2 : t'.pt = (P ++ z :: S, A.map GT.pt ++ l'.pt :: r'.pt :: B.map GT.pt) := e'.trans (congrArg (Prod.mk (P ++ z :: S)) (by rw [List.map_append, List.map_cons, List.map_cons]))
    rw [e1, e2, PT.items_two _ _ _ _ _ _ _ (by rw [List.length_map]; exact hA) (by rw [List.length_map]; exact hB), PT.items_two _ _ _ _ _ _ _ (by rw [List.length_map]; exact hA) (by rw [List.length_map]; exact hB)]
    have h2 := congrArg (fun q => lz P ((A.map GT.pt).map PT.items) ++ (q ++ rz S ((B.map GT.pt).map PT.items))) hx
    simp only [List.append_assoc, List.cons_append] at h2 ⊢
    exact h2.symm
  · rw [e] at hlm ⊢
    rw [e']
    have hl : (P ++ y :: S).length ≤ m := hlm
    simp only [List.length_append, List.length_cons] at hl
    refine ⟨by show (P ++ y :: S).length - 1 ≤ (P ++ z :: S).length; simp, by show (P ++ z :: S).length ≤ m; simp; omega, by show ((A ++ l' :: r' :: B).map GT.pt).length = (P ++ z :: S).length + 1; simp; omega, fun c hc => ?_⟩
    obtain ⟨q, hq, rfl⟩ := List.mem_map.1 hc
    rcases List.mem_append.1 hq with h | h
    · exact hab q (List.mem_append.2 (.inl h))
    · rcases List.mem_cons.1 h with h | h
      · subst h; exact fl
      · rcases List.mem_cons.1 h with h | h
        · subst h; exact fr
        · exact hab q (List.mem_append.2 (.inr h))
theorem mended_one {iso : Int} {m j k : Nat} {A B : List (GT It k)} {l r l' : GT It k} {P S : List It} {y : It} {t t' : GT It (k + 1)} (e : t.pt = (P ++ y :: S, (A ++ l :: r :: B).map GT.pt)) (e' : t'.pt = (P ++ S, (A ++ l' :: B).map GT.pt)) (hA : A.length = P.length) (hB : B.length = S.length)
    (hi : t'.id = t.id) (g' : Gd iso t') (hab : ∀ c ∈ A ++ B, PT.Fl m (m / 2) c.pt) (hlm : t.pt.1.length ≤ m) (fl : l'.pt.Fl m (m / 2)) (hx : l.pt.items ++ y :: r.pt.items = l'.pt.items) (hPj : P.length = j) (hs : l.nd.its.length + r.nd.its.length < m ∧ PT.join2 y l.pt r.pt = l'.pt) : Mended iso m j t t' := by
  refine ⟨hi, ?_, ?_, g', ?_⟩
  rotate_right
  · have e1 : t.pt = (P ++ y :: S, A.map GT.pt ++ l.pt :: r.pt :: B.map GT.pt) := e.trans (congrArg (Prod.mk (P ++ y :: S)) (by rw [List.map_append, List.map_cons, List.map_cons]))
    have e2 : t'.pt = (P ++ S, A.map GT.pt ++ l'.pt :: B.map GT.pt) := e'.trans (congrArg (Prod.mk (P ++ S)) (by rw [List.map_append, List.map_cons]))
    have key := PT.mendAt_eq (m := m) (S := S) (A := A.map GT.pt) (B := B.map GT.pt) (y := y) (l := l.pt) (r := r.pt) hPj (by rw [List.length_map]; omega)
    rw [GT.pt_its, GT.pt_its, if_pos hs.1, hs.2] at key; rw [e1, e2]; exact key.symm
  · have e1 : t.pt = (P ++ y :: S, A.map GT.pt ++ l.pt :: r.pt :: B.map GT.pt) := e.trans (congrArg (Prod.mk (P ++ y :: S)) (by rw [List.map_append, List.map_cons, List.map_cons]))
    have e2 : t'.pt = (P ++ S, A.map GT.pt ++ l'.pt :: B.map GT.pt) := e'.trans (congrArg (Prod.mk (P ++ S)) (by rw [List.map_append, List.map_cons]))
    rw [e1, e2, PT.items_two _ _ _ _ _ _ _ (by rw [List.length_map]; exact hA) (by rw [List.length_map]; exact hB), PT.items_one _ _ _ _ _ (by rw [List.length_map]; exact hA) (by rw [List.length_map]; exact hB), ← hx]
    simp only [List.append_assoc, List.cons_append]
  · rw [e] at hlm ⊢
    rw [e']
    have hl : (P ++ y :: S).length ≤ m := hlm
    simp only [List.length_append, List.length_cons] at hl
    refine ⟨by show (P ++ y :: S).length - 1 ≤ (P ++ S).length; simp, by show (P ++ S).length ≤ m; simp; omega, by show ((A ++ l' :: B).map GT.pt).length = (P ++ S).length + 1; simp; omega, fun c hc => ?_⟩
    obtain ⟨q, hq, rfl⟩ := List.mem_map.1 hc
    rcases List.mem_append.1 hq with h | h
    · exact hab q (List.mem_append.2 (.inl h))
    · rcases List.mem_cons.1 h with h | h
      · subst h; exact fl
      · exact hab q (List.mem_append.2 (.inr h))
end Go.Proofs.Ythpmeccnddchpaa.Gi
end
