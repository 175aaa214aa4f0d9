/-
  Texts of this claim, laid together: S32 S33 S30 S31 Kz LBulk G0 Ga Gb Gc Gd Ge Gf Gg Na Nh Ni Gq.
  Conditions: as each of them tells.
-/
import Derived.Test.YtljecmjdmdjldaaRNDeleteAtB3
import Derived.Test.YtljecmjdmdjldaaRows
import Derived.JoinedCond
set_option linter.unusedVariables false
set_option linter.unusedSimpArgs false
open List (set_cons_zero set_cons_succ eraseIdx_cons_zero eraseIdx_cons_succ cons_append nil_append map_append map_cons map_flatMap map_nil flatMap_cons flatMap_append flatMap_nil append_nil append_assoc length_cons length_nil length_append take_succ_cons drop_succ_cons take_zero drop_zero take_nil drop_nil size_toArray length_map)
section
namespace Go.Proofs.Ytljecmjdmdjldaa
open Go.Hp
set_option maxRecDepth 100000
set_option maxHeartbeats 8000000
/-! ### (*pub/tidwallbtree.BTreeG[impl.Item]).PopMax -/
def BTreeG_I_PopMax.j4 (s0 : Value) (s2 : Value) (s5 : Value) (h : Heap) (Q : Value → Heap → Prop) : Prop :=
    loadN 2 s5 h fun t146 =>
    BTreeG_I_deleteHint.call #[s0, t146, (.pointer none)] h fun t147 h =>
    extr 0 t147 fun t148 =>
    extr 1 t147 fun t149 =>
    storeN 2 s2 t148 h fun h =>
    loadN 2 s2 h fun r2 =>
    Q (.tuple #[r2, t149]) h
def BTreeG_I_PopMax.j6 (s0 : Value) (s2 : Value) (s4 : Value) (s5 : Value) (h : Heap) (K1 : List Value → Heap → Prop) (Q : Value → Heap → Prop) : Prop :=
    nilck s4 fun t130 =>
    fld 3 t130 fun t131 =>
    load1 t131 h fun t132 =>
    nilck t132 fun t133 =>
    load1 t133 h fun t134 =>
    nilck s4 fun t136 =>
    fld 3 t136 fun t137 =>
    load1 t137 h fun t138 =>
    nilck t138 fun t139 =>
    load1 t139 h fun t140 =>
    lenV t140 fun t141 =>
    arith (· - ·) t141 (.int .i64 1) fun t142 =>
    idx 1 t134 t142 fun t143 =>
    load1 t143 h fun t144 =>
    K1 [t144] h
def BTreeG_I_PopMax.l5.b (c0 : Value) (c2 : Value) (c5 : Value) (s4 : Value) (h : Heap) (K1 : List Value → Heap → Prop) (Q : Value → Heap → Prop) : Prop :=
    nilck s4 fun t121 =>
    fld 1 t121 fun t122 =>
    load1 t122 h fun t123 =>
    arith (· + ·) t123 (.int .i64 1) fun t124 =>
    nilck s4 fun t125 =>
    fld 1 t125 fun t126 =>
    store1 t126 t124 h fun h =>
    node_I_leaf.call #[s4] h fun t128 h =>
    ifV t128
    (BTreeG_I_PopMax.j4 c0 c2 c5 h Q)
    (BTreeG_I_PopMax.j6 c0 c2 s4 c5 h K1 Q)
def BTreeG_I_PopMax.j3 (s0 : Value) (s2 : Value) (s5 : Value) (h : Heap) (Q : Value → Heap → Prop) : Prop :=
    nilck s0 fun t117 =>
    fld 2 t117 fun t118 =>
    load1 t118 h fun t119 =>
    loopC (fun c s h K1 => BTreeG_I_PopMax.l5.b (c.getD 0 undef) (c.getD 1 undef) (c.getD 2 undef) (s.getD 0 undef) h K1 Q) [s0, s2, s5] [t119] h
def BTreeG_I_PopMax.j8 (s0 : Value) (s2 : Value) (s4 : Value) (s5 : Value) (h : Heap) (K1 : List Value → Heap → Prop) (Q : Value → Heap → Prop) : Prop :=
    nilck s4 fun t101 =>
    fld 3 t101 fun t102 =>
    load1 t102 h fun t103 =>
    nilck t103 fun t104 =>
    load1 t104 h fun t105 =>
    nilck s4 fun t107 =>
    fld 3 t107 fun t108 =>
    load1 t108 h fun t109 =>
    nilck t109 fun t110 =>
    load1 t110 h fun t111 =>
    lenV t111 fun t112 =>
    arith (· - ·) t112 (.int .i64 1) fun t113 =>
    idx 1 t105 t113 fun t114 =>
    BTreeG_I_isoLoad.call #[s0, t114, (.bool true)] h fun t115 h =>
    K1 [t115] h
def BTreeG_I_PopMax.j10 (s2 : Value) (s5 : Value) (h : Heap) (K1 : List Value → Heap → Prop) (Q : Value → Heap → Prop) : Prop :=
    loadN 2 s5 h fun t98 =>
    storeN 2 s2 t98 h fun h =>
    loadN 2 s2 h fun r2 =>
    Q (.tuple #[r2, (.bool true)]) h
def BTreeG_I_PopMax.j9 (s0 : Value) (s2 : Value) (s4 : Value) (s5 : Value) (h : Heap) (K1 : List Value → Heap → Prop) (Q : Value → Heap → Prop) : Prop :=
    nilck s4 fun t55 =>
    fld 2 t55 fun t56 =>
    load1 t56 h fun t57 =>
    nilck s4 fun t59 =>
    fld 2 t59 fun t60 =>
    load1 t60 h fun t61 =>
    lenV t61 fun t62 =>
    arith (· - ·) t62 (.int .i64 1) fun t63 =>
    nilck s0 fun t65 =>
    fld 7 t65 fun t66 =>
    loadN 2 t66 h fun t67 =>
    idx 2 t57 t63 fun t68 =>
    storeN 2 t68 t67 h fun h =>
    nilck s4 fun t71 =>
    fld 2 t71 fun t72 =>
    load1 t72 h fun t73 =>
    nilck s4 fun t75 =>
    fld 2 t75 fun t76 =>
    load1 t76 h fun t77 =>
    lenV t77 fun t78 =>
    arith (· - ·) t78 (.int .i64 1) fun t79 =>
    slc 2 t73 none (some t79) none fun t80 =>
    nilck s4 fun t81 =>
    fld 2 t81 fun t82 =>
    store1 t82 t80 h fun h =>
    nilck s0 fun t84 =>
    fld 3 t84 fun t85 =>
    load1 t85 h fun t86 =>
    arith (· - ·) t86 (.int .i64 1) fun t87 =>
    nilck s0 fun t88 =>
    fld 3 t88 fun t89 =>
    store1 t89 t87 h fun h =>
    nilck s0 fun t91 =>
    fld 3 t91 fun t92 =>
    load1 t92 h fun t93 =>
    cmpI (fun a b => a == b) t93 (.int .i64 0) fun t94 =>
    ifV t94
    (nilck s0 fun t96 =>
    fld 2 t96 fun t97 =>
    store1 t97 (.pointer none) h fun h =>
    BTreeG_I_PopMax.j10 s2 s5 h K1 Q)
    (BTreeG_I_PopMax.j10 s2 s5 h K1 Q)
def BTreeG_I_PopMax.l7.b (c0 : Value) (c2 : Value) (c5 : Value) (s4 : Value) (h : Heap) (K1 : List Value → Heap → Prop) (Q : Value → Heap → Prop) : Prop :=
    nilck s4 fun t24 =>
    fld 1 t24 fun t25 =>
    load1 t25 h fun t26 =>
    arith (· - ·) t26 (.int .i64 1) fun t27 =>
    nilck s4 fun t28 =>
    fld 1 t28 fun t29 =>
    store1 t29 t27 h fun h =>
    node_I_leaf.call #[s4] h fun t31 h =>
    ifV t31
    (nilck s4 fun t33 =>
    fld 2 t33 fun t34 =>
    load1 t34 h fun t35 =>
    nilck s4 fun t37 =>
    fld 2 t37 fun t38 =>
    load1 t38 h fun t39 =>
    lenV t39 fun t40 =>
    arith (· - ·) t40 (.int .i64 1) fun t41 =>
    idx 2 t35 t41 fun t42 =>
    loadN 2 t42 h fun t43 =>
    storeN 2 c5 t43 h fun h =>
    nilck s4 fun t45 =>
    fld 2 t45 fun t46 =>
    load1 t46 h fun t47 =>
    lenV t47 fun t48 =>
    nilck c0 fun t50 =>
    fld 10 t50 fun t51 =>
    load1 t51 h fun t52 =>
    cmpI (fun a b => a == b) t48 t52 fun t53 =>
    ifV t53
    (BTreeG_I_PopMax.j3 c0 c2 c5 h Q)
    (BTreeG_I_PopMax.j9 c0 c2 s4 c5 h K1 Q))
    (BTreeG_I_PopMax.j8 c0 c2 s4 c5 h K1 Q)
def BTreeG_I_PopMax.j2 (s0 : Value) (s2 : Value) (h : Heap) (Q : Value → Heap → Prop) : Prop :=
    nilck s0 fun t20 =>
    fld 2 t20 fun t21 =>
    BTreeG_I_isoLoad.call #[s0, t21, (.bool true)] h fun t22 h =>
    alloc [(.int .i64 0), (.int .i64 0)] 27 h fun t5 h =>
    loopC (fun c s h K1 => BTreeG_I_PopMax.l7.b (c.getD 0 undef) (c.getD 1 undef) (c.getD 2 undef) (s.getD 0 undef) h K1 Q) [s0, s2, t5] [t22] h
def BTreeG_I_PopMax.j1 (s0 : Value) (s2 : Value) (h : Heap) (Q : Value → Heap → Prop) : Prop :=
    nilck s0 fun t10 =>
    fld 2 t10 fun t11 =>
    load1 t11 h fun t12 =>
    eqNilP t12 fun t13 =>
    ifV t13
    (nilck s0 fun t15 =>
    fld 7 t15 fun t16 =>
    loadN 2 t16 h fun t17 =>
    storeN 2 s2 t17 h fun h =>
    loadN 2 s2 h fun r2 =>
    Q (.tuple #[r2, (.bool false)]) h)
    (BTreeG_I_PopMax.j2 s0 s2 h Q)
def BTreeG_I_PopMax.sh (a0 : Value) (h : Heap) (Q : Value → Heap → Prop) : Prop :=
    alloc [(.int .i64 0), (.int .i64 0)] 27 h fun t2 h =>
    BTreeG_I_lock.call #[a0, (.bool true)] h fun t7 h =>
    ifV t7
    (False)
    (BTreeG_I_PopMax.j1 a0 t2 h Q)
theorem BTreeG_I_PopMax.body (a0 : Value) (h : Heap) (Q : Value → Heap → Prop) (H : BTreeG_I_PopMax.sh a0 h Q) : BTreeG_I_PopMax.call #[a0] h Q := by
  refine callsH_of (args := [a0]) Try.func77 rfl rfl ?_; unfold BTreeG_I_PopMax.sh at H; refine WPc_seq' ?_; refine W_region (by kernel_rfl) ?_; refine vl_n ?_; refine H_alloc TV_27 H fun t2 h H => ?_; refine vl_n ?_; refine H_of_R (R_assign (v := (.bool false)) rfl ?_)
  refine vl_e ?_; refine WPc_seq (fun e h => BTreeG_I_PopMax.j1 (e 0) (e 2) h Q) ?_ (fun e h H => ?_)
  rotate_left
  · unfold BTreeG_I_PopMax.j1 at H
    refine WPc_seq (fun e h => BTreeG_I_PopMax.j2 (e 0) (e 2) h Q) ?_ (fun e h H => ?_)
    rotate_left
    · unfold BTreeG_I_PopMax.j2 at H
      refine WPc_seq' ?_; refine W_region (by kernel_rfl) ?_; refine vl_n ?_; refine H_of_R (R_move (v := (e 0)) rfl ?_)
      refine vl_n ?_; refine H_of_R (R_move (v := (e 0)) rfl ?_)
      refine vl_n ?_; refine H_of_R (R_nil H fun t20 H => ?_)
      refine vl_n ?_; refine H_of_R (R_fld TF_135_2 H fun t21 H => ?_)
      refine vl_n ?_; refine H_call HB_97 H fun t22 h H => ?_; refine vl_n ?_; refine H_of_R (R_assign (v := t22) rfl ?_)
      refine vl_e ?_; refine WPc_seq' ?_; refine W_region (by kernel_rfl) ?_; refine vl_n ?_; refine H_alloc TV_27 H fun t5 h H => ?_; refine vl_e ?_; refine WPc_seq (fun e h => BTreeG_I_PopMax.j3 (e 0) (e 2) (e 5) h Q) ?_ (fun e h H => ?_)
      rotate_left
      · unfold BTreeG_I_PopMax.j3 at H
        refine WPc_seq' ?_; refine W_region (by kernel_rfl) ?_; refine vl_n ?_; refine H_of_R (R_move (v := (e 0)) rfl ?_)
        refine vl_n ?_; refine H_of_R (R_nil H fun t117 H => ?_)
        refine vl_n ?_; refine H_of_R (R_fld TF_135_2 H fun t118 H => ?_)
        refine vl_n ?_; refine H_of_R (R_load1 T1_86 H fun _ t119 _ _ H => ?_)
        refine vl_n ?_; refine H_of_R (R_assign (v := t119) rfl ?_)
        refine vl_e ?_; refine WPc_seq (fun e h => BTreeG_I_PopMax.j4 (e 0) (e 2) (e 5) h Q) ?_ (fun e h H => ?_)
        rotate_left
        · unfold BTreeG_I_PopMax.j4 at H
          refine WPc_seq' ?_; refine W_region (by kernel_rfl) ?_; refine vl_n ?_; refine H_of_R (R_move (v := (e 0)) rfl ?_)
          refine vl_n ?_; refine H_of_R (R_loadN TN_27 H fun _ t146 _ _ H _ _ => ?_)
          refine vl_n ?_; refine H_call HB_106 H fun t147 h H => ?_; refine vl_n ?_; refine H_of_R (R_ext H fun t148 H => ?_)
          refine vl_n ?_; refine H_of_R (R_ext H fun t149 H => ?_)
          refine vl_n ?_; refine H_storeN TS_27 H fun h H => ?_; refine vl_n ?_; refine H_of_R (R_assign (v := t149) rfl ?_)
          refine vl_e ?_; refine WPc_ret ?_; refine resH_of rfl ?_; refine resL_N TN_27 ?_; refine loadN_imp H fun r2 H => ?_; refine resL_t ?_; exact H
        refine WPc_block ?_; refine loop_at (fun e => [e 4]) (fun e => [e 0, e 2, e 5]) H rfl rfl ?_; intro K1 e1 h H hin1
        replace H : BTreeG_I_PopMax.l5.b (e1 0) (e1 2) (e1 5) (e1 4) h K1 Q := H
        unfold BTreeG_I_PopMax.l5.b at H; clear hin1; refine WPc_block ?_; refine WPc_seq' ?_; refine W_region (by kernel_rfl) ?_; refine vl_n ?_; refine H_of_R (R_move (v := (e1 4)) rfl ?_)
        refine vl_n ?_; refine H_of_R (R_nil H fun t121 H => ?_)
        refine vl_n ?_; refine H_of_R (R_fld TF_141_1 H fun t122 H => ?_)
        refine vl_n ?_; refine H_of_R (R_load1 T1_3 H fun _ t123 _ _ H => ?_)
        refine vl_n ?_; refine H_of_R (R_add H fun t124 H => ?_)
        refine vl_n ?_; refine H_of_R (R_nil H fun t125 H => ?_)
        refine vl_n ?_; refine H_of_R (R_fld TF_141_1 H fun t126 H => ?_)
        refine vl_n ?_; refine H_store1 TS_3 H fun h H => ?_; refine vl_e ?_; refine WPc_seq (fun e h => BTreeG_I_PopMax.j6 (e 0) (e 2) (e 4) (e 5) h K1 Q ∧ [e1 0, e1 2, e1 5] = [e 0, e 2, e 5]) ?_ (fun e h ⟨H, hq1⟩ => ?_)
        rotate_left
        · unfold BTreeG_I_PopMax.j6 at H
          refine W_drawn [0, 1, 3, 7, 15, 31, 0, 64, 192, 448, 960, 1984, 4032, 8128, 16383, 32767, 65535] (.take 0 (.take 1 (.take 2 (.take 3 (.take 4 (.take 5 (.take 6 (.take 7 (.take 8 (.take 9 (.take 10 (.take 11 (.take 12 (.take 13 (.take 14 (.take 15 (.take 16 .done))))))))))))))))) mixed (by kernel_rfl) ?_; refine tkP rfl ?_; refine R_move (v := (e 4)) rfl ⟨fun _ => trivial, ?_⟩
          refine tkP rfl ?_; refine R_nil H fun t130 H => ⟨fun _ => trivial, ?_⟩
          refine tkP rfl ?_; refine R_fld TF_141_3 H fun t131 H => ⟨fun _ => trivial, ?_⟩
          refine tkL rfl ?_; refine R_load1 T1_139 H fun at132 t132 hat132 _ H => ?_; refine tkP rfl ?_; refine R_nil H fun t133 H => ⟨fun _ => trivial, ?_⟩
          refine tkL rfl ?_; refine R_load1 T1_138 H fun at134 t134 hat134 _ H => ?_; refine tkP rfl ?_; refine R_move (v := (e 4)) rfl ⟨fun _ => trivial, ?_⟩
          refine tkP rfl ?_; refine R_nil H fun t136 H => ⟨fun _ => trivial, ?_⟩
          refine tkP rfl ?_; refine R_fld TF_141_3 H fun t137 H => ⟨fun _ => trivial, ?_⟩
          refine tkL rfl ?_; refine R_load1 T1_139 H fun at138 t138 hat138 _ H => ?_; refine tkP rfl ?_; refine R_nil H fun t139 H => ⟨fun _ => trivial, ?_⟩
          refine tkL rfl ?_; refine R_load1 T1_138 H fun at140 t140 hat140 _ H => ?_; refine tkP rfl ?_; refine R_len Try.underlying138 H fun t141 H => ⟨fun _ => trivial, ?_⟩
          refine tkP rfl ?_; refine R_sub H fun t142 H => ⟨fun _ => trivial, ?_⟩
          refine tkP rfl ?_; refine R_idx TE_138 H fun t143 H => ⟨fun _ => trivial, ?_⟩
          refine tkL rfl ?_; refine R_load1 T1_86 H fun at144 t144 hat144 _ H => ?_; refine tkP rfl ?_; refine R_assign (v := t144) rfl ⟨fun _ => trivial, ?_⟩
          refine vp_done ?_; exact ⟨H, hq1⟩
        refine WPc_seq' ?_; refine W_region (by kernel_rfl) ?_; refine vl_n ?_; refine H_of_R (R_move (v := (e1 4)) rfl ?_)
        refine vl_n ?_; refine H_call HB_94 H fun t128 h H => ?_; refine vl_e ?_; obtain ⟨b, hc, H1, H2⟩ := H; refine WPc_cond hc (fun hh => ?_) (fun hh => ?_)
        · have H := H1 hh; clear H1 H2
          refine WPc_exit ?_; exact H
        · have H := H2 hh; clear H1 H2
          refine WPc_skip ?_; exact ⟨H, rfl⟩
      refine WPc_block ?_; refine loop_at (fun e => [e 4]) (fun e => [e 0, e 2, e 5]) H rfl rfl ?_; intro K1 e1 h H hin1
      replace H : BTreeG_I_PopMax.l7.b (e1 0) (e1 2) (e1 5) (e1 4) h K1 Q := H
      unfold BTreeG_I_PopMax.l7.b at H; clear hin1; refine WPc_block ?_; refine WPc_seq' ?_; refine W_region (by kernel_rfl) ?_; refine vl_n ?_; refine H_of_R (R_move (v := (e1 4)) rfl ?_)
      refine vl_n ?_; refine H_of_R (R_nil H fun t24 H => ?_)
      refine vl_n ?_; refine H_of_R (R_fld TF_141_1 H fun t25 H => ?_)
      refine vl_n ?_; refine H_of_R (R_load1 T1_3 H fun _ t26 _ _ H => ?_)
      refine vl_n ?_; refine H_of_R (R_sub H fun t27 H => ?_)
      refine vl_n ?_; refine H_of_R (R_nil H fun t28 H => ?_)
      refine vl_n ?_; refine H_of_R (R_fld TF_141_1 H fun t29 H => ?_)
      refine vl_n ?_; refine H_store1 TS_3 H fun h H => ?_; refine vl_e ?_; refine WPc_seq (fun e h => BTreeG_I_PopMax.j8 (e 0) (e 2) (e 4) (e 5) h K1 Q ∧ [e1 0, e1 2, e1 5] = [e 0, e 2, e 5]) ?_ (fun e h ⟨H, hq1⟩ => ?_)
      rotate_left
      · unfold BTreeG_I_PopMax.j8 at H
        refine W_drawn [0, 0, 2, 6, 14, 30, 62, 0, 128, 384, 896, 1920, 3968, 8064, 16256, 32766, 65535, 131071] (.take 0 (.take 1 (.take 2 (.take 3 (.take 4 (.take 5 (.take 6 (.take 7 (.take 8 (.take 9 (.take 10 (.take 11 (.take 12 (.take 13 (.take 14 (.take 15 (.alt 16 (.take 17 .done) .none))))))))))))))))) mixed (by kernel_rfl) ?_; refine tkP rfl ?_; refine R_move (v := (e 0)) rfl ⟨fun _ => trivial, ?_⟩
        refine tkP rfl ?_; refine R_move (v := (e 4)) rfl ⟨fun _ => trivial, ?_⟩
        refine tkP rfl ?_; refine R_nil H fun t101 H => ⟨fun _ => trivial, ?_⟩
        refine tkP rfl ?_; refine R_fld TF_141_3 H fun t102 H => ⟨fun _ => trivial, ?_⟩
        refine tkL rfl ?_; refine R_load1 T1_139 H fun at103 t103 hat103 _ H => ?_; refine tkP rfl ?_; refine R_nil H fun t104 H => ⟨fun _ => trivial, ?_⟩
        refine tkL rfl ?_; refine R_load1 T1_138 H fun at105 t105 hat105 _ H => ?_; refine tkP rfl ?_; refine R_move (v := (e 4)) rfl ⟨fun _ => trivial, ?_⟩
        refine tkP rfl ?_; refine R_nil H fun t107 H => ⟨fun _ => trivial, ?_⟩
        refine tkP rfl ?_; refine R_fld TF_141_3 H fun t108 H => ⟨fun _ => trivial, ?_⟩
        refine tkL rfl ?_; refine R_load1 T1_139 H fun at109 t109 hat109 _ H => ?_; refine tkP rfl ?_; refine R_nil H fun t110 H => ⟨fun _ => trivial, ?_⟩
        refine tkL rfl ?_; refine R_load1 T1_138 H fun at111 t111 hat111 _ H => ?_; refine tkP rfl ?_; refine R_len Try.underlying138 H fun t112 H => ⟨fun _ => trivial, ?_⟩
        refine tkP rfl ?_; refine R_sub H fun t113 H => ⟨fun _ => trivial, ?_⟩
        refine tkP rfl ?_; refine R_idx TE_138 H fun t114 H => ⟨fun _ => trivial, ?_⟩
        refine alt_n rfl ?_ vp_none
        refine H_call HB_97 H fun t115 h H => ⟨(hskip rfl (hskip rfl (hskip rfl (hskip rfl hnil)))), ?_⟩
        refine tkP rfl ?_; refine R_assign (v := t115) rfl ⟨fun _ => trivial, ?_⟩
        refine vp_done ?_; exact ⟨H, hq1⟩
      refine WPc_seq' ?_; refine W_region (by kernel_rfl) ?_; refine vl_n ?_; refine H_of_R (R_move (v := (e1 4)) rfl ?_)
      refine vl_n ?_; refine H_call HB_94 H fun t31 h H => ?_; refine vl_e ?_; obtain ⟨b, hc, H1, H2⟩ := H; refine WPc_cond hc (fun hh => ?_) (fun hh => ?_)
      · have H := H1 hh; clear H1 H2
        refine WPc_seq' ?_; refine W_drawn [0, 1, 3, 7, 0, 16, 48, 112, 240, 496, 1023, 2047, 4095] (.take 0 (.take 1 (.take 2 (.take 3 (.take 4 (.take 5 (.take 6 (.take 7 (.take 8 (.take 9 (.take 10 (.take 11 (.alt 12 .done .none))))))))))))) mixed (by kernel_rfl) ?_; refine tkP rfl ?_; refine R_move (v := (e1 4)) rfl ⟨fun _ => trivial, ?_⟩
        refine tkP rfl ?_; refine R_nil H fun t33 H => ⟨fun _ => trivial, ?_⟩
        refine tkP rfl ?_; refine R_fld TF_141_2 H fun t34 H => ⟨fun _ => trivial, ?_⟩
        refine tkL rfl ?_; refine R_load1 T1_25 H fun at35 t35 hat35 _ H => ?_; refine tkP rfl ?_; refine R_move (v := (e1 4)) rfl ⟨fun _ => trivial, ?_⟩
        refine tkP rfl ?_; refine R_nil H fun t37 H => ⟨fun _ => trivial, ?_⟩
        refine tkP rfl ?_; refine R_fld TF_141_2 H fun t38 H => ⟨fun _ => trivial, ?_⟩
        refine tkL rfl ?_; refine R_load1 T1_25 H fun at39 t39 hat39 _ H => ?_; refine tkP rfl ?_; refine R_len Try.underlying25 H fun t40 H => ⟨fun _ => trivial, ?_⟩
        refine tkP rfl ?_; refine R_sub H fun t41 H => ⟨fun _ => trivial, ?_⟩
        refine tkP rfl ?_; refine R_idx TE_25 H fun t42 H => ⟨fun _ => trivial, ?_⟩
        refine tkL rfl ?_; refine R_loadN TN_27 H fun at43 xt43 hat43 _ H St43 hSt43 => ?_; refine alt_n rfl ?_ vp_none
        refine H_storeN TS_27 H fun h H => ⟨(hskip rfl (hskip rfl (hskip rfl hnil))), ?_⟩
        refine vp_done ?_; refine WPc_seq (fun e h => BTreeG_I_PopMax.j9 (e 0) (e 2) (e 4) (e 5) h K1 Q ∧ [e1 0, e1 2, e1 5] = [e 0, e 2, e 5]) ?_ (fun e h ⟨H, hq1⟩ => ?_)
        rotate_left
        · unfold BTreeG_I_PopMax.j9 at H
          refine WPc_seq' ?_; refine W_drawn [0, 1, 3, 7, 0, 16, 48, 112, 240, 496, 0, 1024, 3072, 7168, 16383, 32767] (.take 0 (.take 1 (.take 2 (.take 3 (.take 4 (.take 5 (.take 6 (.take 7 (.take 8 (.take 9 (.take 10 (.take 11 (.take 12 (.take 13 (.take 14 (.alt 15 .done .none)))))))))))))))) mixed (by kernel_rfl) ?_; refine tkP rfl ?_; refine R_move (v := (e 4)) rfl ⟨fun _ => trivial, ?_⟩
          refine tkP rfl ?_; refine R_nil H fun t55 H => ⟨fun _ => trivial, ?_⟩
          refine tkP rfl ?_; refine R_fld TF_141_2 H fun t56 H => ⟨fun _ => trivial, ?_⟩
          refine tkL rfl ?_; refine R_load1 T1_25 H fun at57 t57 hat57 _ H => ?_; refine tkP rfl ?_; refine R_move (v := (e 4)) rfl ⟨fun _ => trivial, ?_⟩
          refine tkP rfl ?_; refine R_nil H fun t59 H => ⟨fun _ => trivial, ?_⟩
          refine tkP rfl ?_; refine R_fld TF_141_2 H fun t60 H => ⟨fun _ => trivial, ?_⟩
          refine tkL rfl ?_; refine R_load1 T1_25 H fun at61 t61 hat61 _ H => ?_; refine tkP rfl ?_; refine R_len Try.underlying25 H fun t62 H => ⟨fun _ => trivial, ?_⟩
          refine tkP rfl ?_; refine R_sub H fun t63 H => ⟨fun _ => trivial, ?_⟩
          refine tkP rfl ?_; refine R_move (v := (e 0)) rfl ⟨fun _ => trivial, ?_⟩
          refine tkP rfl ?_; refine R_nil H fun t65 H => ⟨fun _ => trivial, ?_⟩
          refine tkP rfl ?_; refine R_fld TF_135_7 H fun t66 H => ⟨fun _ => trivial, ?_⟩
          refine tkL rfl ?_; refine R_loadN TN_27 H fun at67 xt67 hat67 _ H St67 hSt67 => ?_; refine tkP rfl ?_; refine R_idx TE_25 H fun t68 H => ⟨fun _ => trivial, ?_⟩
          refine alt_n rfl ?_ vp_none
          refine H_storeN TS_27 H fun h H => ⟨(hskip rfl (hskip rfl (hskip rfl hnil))), ?_⟩
          refine vp_done ?_; refine WPc_seq' ?_; refine W_drawn [0, 0, 2, 6, 14, 0, 32, 96, 224, 480, 992, 2046, 4095, 8191, 16383] (.take 0 (.take 1 (.take 2 (.take 3 (.take 4 (.take 5 (.take 6 (.take 7 (.take 8 (.take 9 (.take 10 (.take 11 (.take 12 (.take 13 (.alt 14 .done .none))))))))))))))) mixed (by kernel_rfl) ?_; refine tkP rfl ?_; refine R_move (v := (e 4)) rfl ⟨fun _ => trivial, ?_⟩
          refine tkP rfl ?_; refine R_move (v := (e 4)) rfl ⟨fun _ => trivial, ?_⟩
          refine tkP rfl ?_; refine R_nil H fun t71 H => ⟨fun _ => trivial, ?_⟩
          refine tkP rfl ?_; refine R_fld TF_141_2 H fun t72 H => ⟨fun _ => trivial, ?_⟩
          refine tkL rfl ?_; refine R_load1 T1_25 H fun at73 t73 hat73 _ H => ?_; refine tkP rfl ?_; refine R_move (v := (e 4)) rfl ⟨fun _ => trivial, ?_⟩
          refine tkP rfl ?_; refine R_nil H fun t75 H => ⟨fun _ => trivial, ?_⟩
          refine tkP rfl ?_; refine R_fld TF_141_2 H fun t76 H => ⟨fun _ => trivial, ?_⟩
          refine tkL rfl ?_; refine R_load1 T1_25 H fun at77 t77 hat77 _ H => ?_; refine tkP rfl ?_; refine R_len Try.underlying25 H fun t78 H => ⟨fun _ => trivial, ?_⟩
          refine tkP rfl ?_; refine R_sub H fun t79 H => ⟨fun _ => trivial, ?_⟩
          refine tkP rfl ?_; refine R_slice TE_25 (by decide) H fun t80 H => ⟨fun _ => trivial, ?_⟩
          refine tkP rfl ?_; refine R_nil H fun t81 H => ⟨fun _ => trivial, ?_⟩
          refine tkP rfl ?_; refine R_fld TF_141_2 H fun t82 H => ⟨fun _ => trivial, ?_⟩
          refine alt_n rfl ?_ vp_none
          refine H_store1 TS_25 H fun h H => ⟨(hskip rfl (hskip rfl hnil)), ?_⟩
          refine vp_done ?_; refine WPc_seq' ?_; refine W_region (by kernel_rfl) ?_; refine vl_n ?_; refine H_of_R (R_move (v := (e 0)) rfl ?_)
          refine vl_n ?_; refine H_of_R (R_nil H fun t84 H => ?_)
          refine vl_n ?_; refine H_of_R (R_fld TF_135_3 H fun t85 H => ?_)
          refine vl_n ?_; refine H_of_R (R_load1 T1_3 H fun _ t86 _ _ H => ?_)
          refine vl_n ?_; refine H_of_R (R_sub H fun t87 H => ?_)
          refine vl_n ?_; refine H_of_R (R_nil H fun t88 H => ?_)
          refine vl_n ?_; refine H_of_R (R_fld TF_135_3 H fun t89 H => ?_)
          refine vl_n ?_; refine H_store1 TS_3 H fun h H => ?_; refine vl_e ?_; refine WPc_seq (fun e h => BTreeG_I_PopMax.j10 (e 2) (e 5) h K1 Q ∧ [e1 0, e1 2, e1 5] = [e 0, e 2, e 5]) ?_ (fun e h ⟨H, hq1⟩ => ?_)
          rotate_left
          · unfold BTreeG_I_PopMax.j10 at H
            refine WPc_seq' ?_; refine W_region (by kernel_rfl) ?_; refine vl_n ?_; refine H_of_R (R_loadN TN_27 H fun _ t98 _ _ H _ _ => ?_)
            refine vl_n ?_; refine H_storeN TS_27 H fun h H => ?_; refine vl_n ?_; refine H_of_R (R_assign (v := (.bool true)) rfl ?_)
            refine vl_e ?_; refine WPc_ret ?_; refine resH_of rfl ?_; refine resL_N TN_27 ?_; refine loadN_imp H fun r2 H => ?_; refine resL_t ?_; exact H
          refine WPc_seq' ?_; refine W_region (by kernel_rfl) ?_; refine vl_n ?_; refine H_of_R (R_move (v := (e 0)) rfl ?_)
          refine vl_n ?_; refine H_of_R (R_nil H fun t91 H => ?_)
          refine vl_n ?_; refine H_of_R (R_fld TF_135_3 H fun t92 H => ?_)
          refine vl_n ?_; refine H_of_R (R_load1 T1_3 H fun _ t93 _ _ H => ?_)
          refine vl_n ?_; refine H_of_R (R_eqI H fun t94 H => ?_)
          refine vl_e ?_; obtain ⟨b, hc, H1, H2⟩ := H; refine WPc_cond hc (fun hh => ?_) (fun hh => ?_)
          · have H := H1 hh; clear H1 H2
            refine W_region (by kernel_rfl) ?_; refine vl_n ?_; refine H_of_R (R_move (v := (e 0)) rfl ?_)
            refine vl_n ?_; refine H_of_R (R_nil H fun t96 H => ?_)
            refine vl_n ?_; refine H_of_R (R_fld TF_135_2 H fun t97 H => ?_)
            refine vl_n ?_; refine H_store1 TS_86 H fun h H => ?_; refine vl_e ?_; exact ⟨H, hq1⟩
          · have H := H2 hh; clear H1 H2
            refine WPc_skip ?_; exact ⟨H, hq1⟩
        refine WPc_seq' ?_; refine W_drawn [0, 1, 3, 7, 15, 0, 32, 96, 224, 511] (.take 0 (.take 1 (.take 2 (.take 3 (.take 4 (.take 5 (.take 6 (.take 7 (.take 8 (.take 9 .done)))))))))) mixed (by kernel_rfl) ?_; refine tkP rfl ?_; refine R_move (v := (e1 4)) rfl ⟨fun _ => trivial, ?_⟩
        refine tkP rfl ?_; refine R_nil H fun t45 H => ⟨fun _ => trivial, ?_⟩
        refine tkP rfl ?_; refine R_fld TF_141_2 H fun t46 H => ⟨fun _ => trivial, ?_⟩
        refine tkL rfl ?_; refine R_load1 T1_25 H fun at47 t47 hat47 _ H => ?_; refine tkP rfl ?_; refine R_len Try.underlying25 H fun t48 H => ⟨fun _ => trivial, ?_⟩
        refine tkP rfl ?_; refine R_move (v := (e1 0)) rfl ⟨fun _ => trivial, ?_⟩
        refine tkP rfl ?_; refine R_nil H fun t50 H => ⟨fun _ => trivial, ?_⟩
        refine tkP rfl ?_; refine R_fld TF_135_9 H fun t51 H => ⟨fun _ => trivial, ?_⟩
        refine tkL rfl ?_; refine R_load1 T1_3 H fun at52 t52 hat52 _ H => ?_; refine tkP rfl ?_; refine R_eqI H fun t53 H => ⟨fun _ => trivial, ?_⟩
        refine vp_done ?_; obtain ⟨b_2, hc_2, H1, H2⟩ := H; refine WPc_cond hc_2 (fun hh => ?_) (fun hh => ?_)
        · have H := H1 hh; clear H1 H2
          refine WPc_exit ?_; exact H
        · have H := H2 hh; clear H1 H2
          refine WPc_skip ?_; exact ⟨H, rfl⟩
      · have H := H2 hh; clear H1 H2
        refine WPc_skip ?_; exact ⟨H, rfl⟩
    refine WPc_seq' ?_; refine W_region (by kernel_rfl) ?_; refine vl_n ?_; refine H_of_R (R_move (v := (e 0)) rfl ?_)
    refine vl_n ?_; refine H_of_R (R_nil H fun t10 H => ?_)
    refine vl_n ?_; refine H_of_R (R_fld TF_135_2 H fun t11 H => ?_)
    refine vl_n ?_; refine H_of_R (R_load1 T1_86 H fun _ t12 _ _ H => ?_)
    refine vl_n ?_; refine H_of_R (R_eqNilP Try.underlying86 rfl H fun t13 H => ?_)
    refine vl_e ?_; obtain ⟨b, hc, H1, H2⟩ := H; refine WPc_cond hc (fun hh => ?_) (fun hh => ?_)
    · have H := H1 hh; clear H1 H2
      refine WPc_seq' ?_; refine W_region (by kernel_rfl) ?_; refine vl_n ?_; refine H_of_R (R_move (v := (e 0)) rfl ?_)
      refine vl_n ?_; refine H_of_R (R_nil H fun t15 H => ?_)
      refine vl_n ?_; refine H_of_R (R_fld TF_135_7 H fun t16 H => ?_)
      refine vl_n ?_; refine H_of_R (R_loadN TN_27 H fun _ t17 _ _ H _ _ => ?_)
      refine vl_n ?_; refine H_storeN TS_27 H fun h H => ?_; refine vl_n ?_; refine H_of_R (R_assign (v := (.bool false)) rfl ?_)
      refine vl_e ?_; refine WPc_ret ?_; refine resH_of rfl ?_; refine resL_N TN_27 ?_; refine loadN_imp H fun r2 H => ?_; refine resL_t ?_; exact H
    · have H := H2 hh; clear H1 H2
      refine WPc_skip ?_; exact H
  refine WPc_seq' ?_; refine W_region (by kernel_rfl) ?_; refine vl_n ?_; refine H_of_R (R_move (v := a0) rfl ?_)
  refine vl_n ?_; refine H_call HB_92 H fun t7 h H => ?_; refine vl_e ?_; obtain ⟨b, hc, H1, H2⟩ := H; refine WPc_cond hc (fun hh => ?_) (fun hh => ?_)
  · have H := H1 hh; clear H1 H2
    refine W_region (by kernel_rfl) ?_; refine vl_n ?_; refine H_of_R (R_move (v := a0) rfl ?_)
    refine vl_n ?_; exact H.elim
  · have H := H2 hh; clear H1 H2
    refine WPc_skip ?_; exact H
end Go.Proofs.Ytljecmjdmdjldaa
end
section
namespace Go.Proofs.Ytljecmjdmdjldaa
open Go.Hp
set_option maxRecDepth 100000
set_option maxHeartbeats 8000000
/-! ### (*pub/tidwallbtree.BTreeG[impl.Item]).PopMin -/
def BTreeG_I_PopMin.j4 (s0 : Value) (s2 : Value) (s5 : Value) (h : Heap) (Q : Value → Heap → Prop) : Prop :=
    loadN 2 s5 h fun t135 =>
    BTreeG_I_deleteHint.call #[s0, t135, (.pointer none)] h fun t136 h =>
    extr 0 t136 fun t137 =>
    extr 1 t136 fun t138 =>
    storeN 2 s2 t137 h fun h =>
    loadN 2 s2 h fun r2 =>
    Q (.tuple #[r2, t138]) h
def BTreeG_I_PopMin.j6 (s0 : Value) (s2 : Value) (s4 : Value) (s5 : Value) (h : Heap) (K1 : List Value → Heap → Prop) (Q : Value → Heap → Prop) : Prop :=
    nilck s4 fun t127 =>
    fld 3 t127 fun t128 =>
    load1 t128 h fun t129 =>
    nilck t129 fun t130 =>
    load1 t130 h fun t131 =>
    idx 1 t131 (.int .i64 0) fun t132 =>
    load1 t132 h fun t133 =>
    K1 [t133] h
def BTreeG_I_PopMin.l5.b (c0 : Value) (c2 : Value) (c5 : Value) (s4 : Value) (h : Heap) (K1 : List Value → Heap → Prop) (Q : Value → Heap → Prop) : Prop :=
    nilck s4 fun t118 =>
    fld 1 t118 fun t119 =>
    load1 t119 h fun t120 =>
    arith (· + ·) t120 (.int .i64 1) fun t121 =>
    nilck s4 fun t122 =>
    fld 1 t122 fun t123 =>
    store1 t123 t121 h fun h =>
    node_I_leaf.call #[s4] h fun t125 h =>
    ifV t125
    (BTreeG_I_PopMin.j4 c0 c2 c5 h Q)
    (BTreeG_I_PopMin.j6 c0 c2 s4 c5 h K1 Q)
def BTreeG_I_PopMin.j3 (s0 : Value) (s2 : Value) (s5 : Value) (h : Heap) (Q : Value → Heap → Prop) : Prop :=
    nilck s0 fun t114 =>
    fld 2 t114 fun t115 =>
    load1 t115 h fun t116 =>
    loopC (fun c s h K1 => BTreeG_I_PopMin.l5.b (c.getD 0 undef) (c.getD 1 undef) (c.getD 2 undef) (s.getD 0 undef) h K1 Q) [s0, s2, s5] [t116] h
def BTreeG_I_PopMin.j8 (s0 : Value) (s2 : Value) (s4 : Value) (s5 : Value) (h : Heap) (K1 : List Value → Heap → Prop) (Q : Value → Heap → Prop) : Prop :=
    nilck s4 fun t106 =>
    fld 3 t106 fun t107 =>
    load1 t107 h fun t108 =>
    nilck t108 fun t109 =>
    load1 t109 h fun t110 =>
    idx 1 t110 (.int .i64 0) fun t111 =>
    BTreeG_I_isoLoad.call #[s0, t111, (.bool true)] h fun t112 h =>
    K1 [t112] h
def BTreeG_I_PopMin.j10 (s2 : Value) (s5 : Value) (h : Heap) (K1 : List Value → Heap → Prop) (Q : Value → Heap → Prop) : Prop :=
    loadN 2 s5 h fun t103 =>
    storeN 2 s2 t103 h fun h =>
    loadN 2 s2 h fun r2 =>
    Q (.tuple #[r2, (.bool true)]) h
def BTreeG_I_PopMin.j9 (s0 : Value) (s2 : Value) (s4 : Value) (s5 : Value) (h : Heap) (K1 : List Value → Heap → Prop) (Q : Value → Heap → Prop) : Prop :=
    nilck s4 fun t49 =>
    fld 2 t49 fun t50 =>
    load1 t50 h fun t51 =>
    slc 2 t51 none none none fun t52 =>
    nilck s4 fun t54 =>
    fld 2 t54 fun t55 =>
    load1 t55 h fun t56 =>
    slc 2 t56 (some (.int .i64 1)) none none fun t57 =>
    cpy 2 t52 t57 h fun t58 h =>
    nilck s4 fun t60 =>
    fld 2 t60 fun t61 =>
    load1 t61 h fun t62 =>
    nilck s4 fun t64 =>
    fld 2 t64 fun t65 =>
    load1 t65 h fun t66 =>
    lenV t66 fun t67 =>
    arith (· - ·) t67 (.int .i64 1) fun t68 =>
    nilck s0 fun t70 =>
    fld 7 t70 fun t71 =>
    loadN 2 t71 h fun t72 =>
    idx 2 t62 t68 fun t73 =>
    storeN 2 t73 t72 h fun h =>
    nilck s4 fun t76 =>
    fld 2 t76 fun t77 =>
    load1 t77 h fun t78 =>
    nilck s4 fun t80 =>
    fld 2 t80 fun t81 =>
    load1 t81 h fun t82 =>
    lenV t82 fun t83 =>
    arith (· - ·) t83 (.int .i64 1) fun t84 =>
    slc 2 t78 none (some t84) none fun t85 =>
    nilck s4 fun t86 =>
    fld 2 t86 fun t87 =>
    store1 t87 t85 h fun h =>
    nilck s0 fun t89 =>
    fld 3 t89 fun t90 =>
    load1 t90 h fun t91 =>
    arith (· - ·) t91 (.int .i64 1) fun t92 =>
    nilck s0 fun t93 =>
    fld 3 t93 fun t94 =>
    store1 t94 t92 h fun h =>
    nilck s0 fun t96 =>
    fld 3 t96 fun t97 =>
    load1 t97 h fun t98 =>
    cmpI (fun a b => a == b) t98 (.int .i64 0) fun t99 =>
    ifV t99
    (nilck s0 fun t101 =>
    fld 2 t101 fun t102 =>
    store1 t102 (.pointer none) h fun h =>
    BTreeG_I_PopMin.j10 s2 s5 h K1 Q)
    (BTreeG_I_PopMin.j10 s2 s5 h K1 Q)
def BTreeG_I_PopMin.l7.b (c0 : Value) (c2 : Value) (c5 : Value) (s4 : Value) (h : Heap) (K1 : List Value → Heap → Prop) (Q : Value → Heap → Prop) : Prop :=
    nilck s4 fun t24 =>
    fld 1 t24 fun t25 =>
    load1 t25 h fun t26 =>
    arith (· - ·) t26 (.int .i64 1) fun t27 =>
    nilck s4 fun t28 =>
    fld 1 t28 fun t29 =>
    store1 t29 t27 h fun h =>
    node_I_leaf.call #[s4] h fun t31 h =>
    ifV t31
    (nilck s4 fun t33 =>
    fld 2 t33 fun t34 =>
    load1 t34 h fun t35 =>
    idx 2 t35 (.int .i64 0) fun t36 =>
    loadN 2 t36 h fun t37 =>
    storeN 2 c5 t37 h fun h =>
    nilck s4 fun t39 =>
    fld 2 t39 fun t40 =>
    load1 t40 h fun t41 =>
    lenV t41 fun t42 =>
    nilck c0 fun t44 =>
    fld 10 t44 fun t45 =>
    load1 t45 h fun t46 =>
    cmpI (fun a b => a == b) t42 t46 fun t47 =>
    ifV t47
    (BTreeG_I_PopMin.j3 c0 c2 c5 h Q)
    (BTreeG_I_PopMin.j9 c0 c2 s4 c5 h K1 Q))
    (BTreeG_I_PopMin.j8 c0 c2 s4 c5 h K1 Q)
def BTreeG_I_PopMin.j2 (s0 : Value) (s2 : Value) (h : Heap) (Q : Value → Heap → Prop) : Prop :=
    nilck s0 fun t20 =>
    fld 2 t20 fun t21 =>
    BTreeG_I_isoLoad.call #[s0, t21, (.bool true)] h fun t22 h =>
    alloc [(.int .i64 0), (.int .i64 0)] 27 h fun t5 h =>
    loopC (fun c s h K1 => BTreeG_I_PopMin.l7.b (c.getD 0 undef) (c.getD 1 undef) (c.getD 2 undef) (s.getD 0 undef) h K1 Q) [s0, s2, t5] [t22] h
def BTreeG_I_PopMin.j1 (s0 : Value) (s2 : Value) (h : Heap) (Q : Value → Heap → Prop) : Prop :=
    nilck s0 fun t10 =>
    fld 2 t10 fun t11 =>
    load1 t11 h fun t12 =>
    eqNilP t12 fun t13 =>
    ifV t13
    (nilck s0 fun t15 =>
    fld 7 t15 fun t16 =>
    loadN 2 t16 h fun t17 =>
    storeN 2 s2 t17 h fun h =>
    loadN 2 s2 h fun r2 =>
    Q (.tuple #[r2, (.bool false)]) h)
    (BTreeG_I_PopMin.j2 s0 s2 h Q)
def BTreeG_I_PopMin.sh (a0 : Value) (h : Heap) (Q : Value → Heap → Prop) : Prop :=
    alloc [(.int .i64 0), (.int .i64 0)] 27 h fun t2 h =>
    BTreeG_I_lock.call #[a0, (.bool true)] h fun t7 h =>
    ifV t7
    (False)
    (BTreeG_I_PopMin.j1 a0 t2 h Q)
theorem BTreeG_I_PopMin.body (a0 : Value) (h : Heap) (Q : Value → Heap → Prop) (H : BTreeG_I_PopMin.sh a0 h Q) : BTreeG_I_PopMin.call #[a0] h Q := by
  refine callsH_of (args := [a0]) Try.func78 rfl rfl ?_; unfold BTreeG_I_PopMin.sh at H; refine WPc_seq' ?_; refine W_region (by kernel_rfl) ?_; refine vl_n ?_; refine H_alloc TV_27 H fun t2 h H => ?_; refine vl_n ?_; refine H_of_R (R_assign (v := (.bool false)) rfl ?_)
  refine vl_e ?_; refine WPc_seq (fun e h => BTreeG_I_PopMin.j1 (e 0) (e 2) h Q) ?_ (fun e h H => ?_)
  rotate_left
  · unfold BTreeG_I_PopMin.j1 at H
    refine WPc_seq (fun e h => BTreeG_I_PopMin.j2 (e 0) (e 2) h Q) ?_ (fun e h H => ?_)
    rotate_left
    · unfold BTreeG_I_PopMin.j2 at H
      refine WPc_seq' ?_; refine W_region (by kernel_rfl) ?_; refine vl_n ?_; refine H_of_R (R_move (v := (e 0)) rfl ?_)
      refine vl_n ?_; refine H_of_R (R_move (v := (e 0)) rfl ?_)
      refine vl_n ?_; refine H_of_R (R_nil H fun t20 H => ?_)
      refine vl_n ?_; refine H_of_R (R_fld TF_135_2 H fun t21 H => ?_)
      refine vl_n ?_; refine H_call HB_97 H fun t22 h H => ?_; refine vl_n ?_; refine H_of_R (R_assign (v := t22) rfl ?_)
      refine vl_e ?_; refine WPc_seq' ?_; refine W_region (by kernel_rfl) ?_; refine vl_n ?_; refine H_alloc TV_27 H fun t5 h H => ?_; refine vl_e ?_; refine WPc_seq (fun e h => BTreeG_I_PopMin.j3 (e 0) (e 2) (e 5) h Q) ?_ (fun e h H => ?_)
      rotate_left
      · unfold BTreeG_I_PopMin.j3 at H
        refine WPc_seq' ?_; refine W_region (by kernel_rfl) ?_; refine vl_n ?_; refine H_of_R (R_move (v := (e 0)) rfl ?_)
        refine vl_n ?_; refine H_of_R (R_nil H fun t114 H => ?_)
        refine vl_n ?_; refine H_of_R (R_fld TF_135_2 H fun t115 H => ?_)
        refine vl_n ?_; refine H_of_R (R_load1 T1_86 H fun _ t116 _ _ H => ?_)
        refine vl_n ?_; refine H_of_R (R_assign (v := t116) rfl ?_)
        refine vl_e ?_; refine WPc_seq (fun e h => BTreeG_I_PopMin.j4 (e 0) (e 2) (e 5) h Q) ?_ (fun e h H => ?_)
        rotate_left
        · unfold BTreeG_I_PopMin.j4 at H
          refine WPc_seq' ?_; refine W_region (by kernel_rfl) ?_; refine vl_n ?_; refine H_of_R (R_move (v := (e 0)) rfl ?_)
          refine vl_n ?_; refine H_of_R (R_loadN TN_27 H fun _ t135 _ _ H _ _ => ?_)
          refine vl_n ?_; refine H_call HB_106 H fun t136 h H => ?_; refine vl_n ?_; refine H_of_R (R_ext H fun t137 H => ?_)
          refine vl_n ?_; refine H_of_R (R_ext H fun t138 H => ?_)
          refine vl_n ?_; refine H_storeN TS_27 H fun h H => ?_; refine vl_n ?_; refine H_of_R (R_assign (v := t138) rfl ?_)
          refine vl_e ?_; refine WPc_ret ?_; refine resH_of rfl ?_; refine resL_N TN_27 ?_; refine loadN_imp H fun r2 H => ?_; refine resL_t ?_; exact H
        refine WPc_block ?_; refine loop_at (fun e => [e 4]) (fun e => [e 0, e 2, e 5]) H rfl rfl ?_; intro K1 e1 h H hin1
        replace H : BTreeG_I_PopMin.l5.b (e1 0) (e1 2) (e1 5) (e1 4) h K1 Q := H
        unfold BTreeG_I_PopMin.l5.b at H; clear hin1; refine WPc_block ?_; refine WPc_seq' ?_; refine W_region (by kernel_rfl) ?_; refine vl_n ?_; refine H_of_R (R_move (v := (e1 4)) rfl ?_)
        refine vl_n ?_; refine H_of_R (R_nil H fun t118 H => ?_)
        refine vl_n ?_; refine H_of_R (R_fld TF_141_1 H fun t119 H => ?_)
        refine vl_n ?_; refine H_of_R (R_load1 T1_3 H fun _ t120 _ _ H => ?_)
        refine vl_n ?_; refine H_of_R (R_add H fun t121 H => ?_)
        refine vl_n ?_; refine H_of_R (R_nil H fun t122 H => ?_)
        refine vl_n ?_; refine H_of_R (R_fld TF_141_1 H fun t123 H => ?_)
        refine vl_n ?_; refine H_store1 TS_3 H fun h H => ?_; refine vl_e ?_; refine WPc_seq (fun e h => BTreeG_I_PopMin.j6 (e 0) (e 2) (e 4) (e 5) h K1 Q ∧ [e1 0, e1 2, e1 5] = [e 0, e 2, e 5]) ?_ (fun e h ⟨H, hq1⟩ => ?_)
        rotate_left
        · unfold BTreeG_I_PopMin.j6 at H
          refine W_region (by kernel_rfl) ?_; refine vl_n ?_; refine H_of_R (R_move (v := (e 4)) rfl ?_)
          refine vl_n ?_; refine H_of_R (R_nil H fun t127 H => ?_)
          refine vl_n ?_; refine H_of_R (R_fld TF_141_3 H fun t128 H => ?_)
          refine vl_n ?_; refine H_of_R (R_load1 T1_139 H fun _ t129 _ _ H => ?_)
          refine vl_n ?_; refine H_of_R (R_nil H fun t130 H => ?_)
          refine vl_n ?_; refine H_of_R (R_load1 T1_138 H fun _ t131 _ _ H => ?_)
          refine vl_n ?_; refine H_of_R (R_idx TE_138 H fun t132 H => ?_)
          refine vl_n ?_; refine H_of_R (R_load1 T1_86 H fun _ t133 _ _ H => ?_)
          refine vl_n ?_; refine H_of_R (R_assign (v := t133) rfl ?_)
          refine vl_e ?_; exact ⟨H, hq1⟩
        refine WPc_seq' ?_; refine W_region (by kernel_rfl) ?_; refine vl_n ?_; refine H_of_R (R_move (v := (e1 4)) rfl ?_)
        refine vl_n ?_; refine H_call HB_94 H fun t125 h H => ?_; refine vl_e ?_; obtain ⟨b, hc, H1, H2⟩ := H; refine WPc_cond hc (fun hh => ?_) (fun hh => ?_)
        · have H := H1 hh; clear H1 H2
          refine WPc_exit ?_; exact H
        · have H := H2 hh; clear H1 H2
          refine WPc_skip ?_; exact ⟨H, rfl⟩
      refine WPc_block ?_; refine loop_at (fun e => [e 4]) (fun e => [e 0, e 2, e 5]) H rfl rfl ?_; intro K1 e1 h H hin1
      replace H : BTreeG_I_PopMin.l7.b (e1 0) (e1 2) (e1 5) (e1 4) h K1 Q := H
      unfold BTreeG_I_PopMin.l7.b at H; clear hin1; refine WPc_block ?_; refine WPc_seq' ?_; refine W_region (by kernel_rfl) ?_; refine vl_n ?_; refine H_of_R (R_move (v := (e1 4)) rfl ?_)
      refine vl_n ?_; refine H_of_R (R_nil H fun t24 H => ?_)
      refine vl_n ?_; refine H_of_R (R_fld TF_141_1 H fun t25 H => ?_)
      refine vl_n ?_; refine H_of_R (R_load1 T1_3 H fun _ t26 _ _ H => ?_)
      refine vl_n ?_; refine H_of_R (R_sub H fun t27 H => ?_)
      refine vl_n ?_; refine H_of_R (R_nil H fun t28 H => ?_)
      refine vl_n ?_; refine H_of_R (R_fld TF_141_1 H fun t29 H => ?_)
      refine vl_n ?_; refine H_store1 TS_3 H fun h H => ?_; refine vl_e ?_; refine WPc_seq (fun e h => BTreeG_I_PopMin.j8 (e 0) (e 2) (e 4) (e 5) h K1 Q ∧ [e1 0, e1 2, e1 5] = [e 0, e 2, e 5]) ?_ (fun e h ⟨H, hq1⟩ => ?_)
      rotate_left
      · unfold BTreeG_I_PopMin.j8 at H
        refine W_region (by kernel_rfl) ?_; refine vl_n ?_; refine H_of_R (R_move (v := (e 0)) rfl ?_)
        refine vl_n ?_; refine H_of_R (R_move (v := (e 4)) rfl ?_)
        refine vl_n ?_; refine H_of_R (R_nil H fun t106 H => ?_)
        refine vl_n ?_; refine H_of_R (R_fld TF_141_3 H fun t107 H => ?_)
        refine vl_n ?_; refine H_of_R (R_load1 T1_139 H fun _ t108 _ _ H => ?_)
        refine vl_n ?_; refine H_of_R (R_nil H fun t109 H => ?_)
        refine vl_n ?_; refine H_of_R (R_load1 T1_138 H fun _ t110 _ _ H => ?_)
        refine vl_n ?_; refine H_of_R (R_idx TE_138 H fun t111 H => ?_)
        refine vl_n ?_; refine H_call HB_97 H fun t112 h H => ?_; refine vl_n ?_; refine H_of_R (R_assign (v := t112) rfl ?_)
        refine vl_e ?_; exact ⟨H, hq1⟩
      refine WPc_seq' ?_; refine W_region (by kernel_rfl) ?_; refine vl_n ?_; refine H_of_R (R_move (v := (e1 4)) rfl ?_)
      refine vl_n ?_; refine H_call HB_94 H fun t31 h H => ?_; refine vl_e ?_; obtain ⟨b, hc, H1, H2⟩ := H; refine WPc_cond hc (fun hh => ?_) (fun hh => ?_)
      · have H := H1 hh; clear H1 H2
        refine WPc_seq' ?_; refine W_region (by kernel_rfl) ?_; refine vl_n ?_; refine H_of_R (R_move (v := (e1 4)) rfl ?_)
        refine vl_n ?_; refine H_of_R (R_nil H fun t33 H => ?_)
        refine vl_n ?_; refine H_of_R (R_fld TF_141_2 H fun t34 H => ?_)
        refine vl_n ?_; refine H_of_R (R_load1 T1_25 H fun _ t35 _ _ H => ?_)
        refine vl_n ?_; refine H_of_R (R_idx TE_25 H fun t36 H => ?_)
        refine vl_n ?_; refine H_of_R (R_loadN TN_27 H fun _ t37 _ _ H _ _ => ?_)
        refine vl_n ?_; refine H_storeN TS_27 H fun h H => ?_; refine vl_e ?_; refine WPc_seq (fun e h => BTreeG_I_PopMin.j9 (e 0) (e 2) (e 4) (e 5) h K1 Q ∧ [e1 0, e1 2, e1 5] = [e 0, e 2, e 5]) ?_ (fun e h ⟨H, hq1⟩ => ?_)
        rotate_left
        · unfold BTreeG_I_PopMin.j9 at H
          refine WPc_seq' ?_; refine W_drawn [0, 1, 3, 7, 15, 0, 32, 96, 224, 480, 1023] (.take 0 (.take 1 (.take 2 (.take 3 (.take 4 (.take 5 (.take 6 (.take 7 (.take 8 (.take 9 (.alt 10 .done .none))))))))))) mixed (by kernel_rfl) ?_; refine tkP rfl ?_; refine R_move (v := (e 4)) rfl ⟨fun _ => trivial, ?_⟩
          refine tkP rfl ?_; refine R_nil H fun t49 H => ⟨fun _ => trivial, ?_⟩
          refine tkP rfl ?_; refine R_fld TF_141_2 H fun t50 H => ⟨fun _ => trivial, ?_⟩
          refine tkL rfl ?_; refine R_load1 T1_25 H fun at51 t51 hat51 _ H => ?_; refine tkP rfl ?_; refine R_slice TE_25 (by decide) H fun t52 H => ⟨fun _ => trivial, ?_⟩
          refine tkP rfl ?_; refine R_move (v := (e 4)) rfl ⟨fun _ => trivial, ?_⟩
          refine tkP rfl ?_; refine R_nil H fun t54 H => ⟨fun _ => trivial, ?_⟩
          refine tkP rfl ?_; refine R_fld TF_141_2 H fun t55 H => ⟨fun _ => trivial, ?_⟩
          refine tkL rfl ?_; refine R_load1 T1_25 H fun at56 t56 hat56 _ H => ?_; refine tkP rfl ?_; refine R_slice TE_25 (by decide) H fun t57 H => ⟨fun _ => trivial, ?_⟩
          refine alt_n rfl ?_ vp_none
          refine H_cpy TE_25 H fun t58 h H => ⟨(hskip rfl (hskip rfl hnil)), ?_⟩
          refine vp_done ?_; refine WPc_seq' ?_; refine W_drawn [0, 1, 3, 7, 0, 16, 48, 112, 240, 496, 0, 1024, 3072, 7168, 16383, 32767] (.take 0 (.take 1 (.take 2 (.take 3 (.take 4 (.take 5 (.take 6 (.take 7 (.take 8 (.take 9 (.take 10 (.take 11 (.take 12 (.take 13 (.take 14 (.alt 15 .done .none)))))))))))))))) mixed (by kernel_rfl) ?_; refine tkP rfl ?_; refine R_move (v := (e 4)) rfl ⟨fun _ => trivial, ?_⟩
          refine tkP rfl ?_; refine R_nil H fun t60 H => ⟨fun _ => trivial, ?_⟩
          refine tkP rfl ?_; refine R_fld TF_141_2 H fun t61 H => ⟨fun _ => trivial, ?_⟩
          refine tkL rfl ?_; refine R_load1 T1_25 H fun at62 t62 hat62 _ H => ?_; refine tkP rfl ?_; refine R_move (v := (e 4)) rfl ⟨fun _ => trivial, ?_⟩
          refine tkP rfl ?_; refine R_nil H fun t64 H => ⟨fun _ => trivial, ?_⟩
          refine tkP rfl ?_; refine R_fld TF_141_2 H fun t65 H => ⟨fun _ => trivial, ?_⟩
          refine tkL rfl ?_; refine R_load1 T1_25 H fun at66 t66 hat66 _ H => ?_; refine tkP rfl ?_; refine R_len Try.underlying25 H fun t67 H => ⟨fun _ => trivial, ?_⟩
          refine tkP rfl ?_; refine R_sub H fun t68 H => ⟨fun _ => trivial, ?_⟩
          refine tkP rfl ?_; refine R_move (v := (e 0)) rfl ⟨fun _ => trivial, ?_⟩
          refine tkP rfl ?_; refine R_nil H fun t70 H => ⟨fun _ => trivial, ?_⟩
          refine tkP rfl ?_; refine R_fld TF_135_7 H fun t71 H => ⟨fun _ => trivial, ?_⟩
          refine tkL rfl ?_; refine R_loadN TN_27 H fun at72 xt72 hat72 _ H St72 hSt72 => ?_; refine tkP rfl ?_; refine R_idx TE_25 H fun t73 H => ⟨fun _ => trivial, ?_⟩
          refine alt_n rfl ?_ vp_none
          refine H_storeN TS_27 H fun h H => ⟨(hskip rfl (hskip rfl (hskip rfl hnil))), ?_⟩
          refine vp_done ?_; refine WPc_seq' ?_; refine W_drawn [0, 0, 2, 6, 14, 0, 32, 96, 224, 480, 992, 2046, 4095, 8191, 16383] (.take 0 (.take 1 (.take 2 (.take 3 (.take 4 (.take 5 (.take 6 (.take 7 (.take 8 (.take 9 (.take 10 (.take 11 (.take 12 (.take 13 (.alt 14 .done .none))))))))))))))) mixed (by kernel_rfl) ?_; refine tkP rfl ?_; refine R_move (v := (e 4)) rfl ⟨fun _ => trivial, ?_⟩
          refine tkP rfl ?_; refine R_move (v := (e 4)) rfl ⟨fun _ => trivial, ?_⟩
          refine tkP rfl ?_; refine R_nil H fun t76 H => ⟨fun _ => trivial, ?_⟩
          refine tkP rfl ?_; refine R_fld TF_141_2 H fun t77 H => ⟨fun _ => trivial, ?_⟩
          refine tkL rfl ?_; refine R_load1 T1_25 H fun at78 t78 hat78 _ H => ?_; refine tkP rfl ?_; refine R_move (v := (e 4)) rfl ⟨fun _ => trivial, ?_⟩
          refine tkP rfl ?_; refine R_nil H fun t80 H => ⟨fun _ => trivial, ?_⟩
          refine tkP rfl ?_; refine R_fld TF_141_2 H fun t81 H => ⟨fun _ => trivial, ?_⟩
          refine tkL rfl ?_; refine R_load1 T1_25 H fun at82 t82 hat82 _ H => ?_; refine tkP rfl ?_; refine R_len Try.underlying25 H fun t83 H => ⟨fun _ => trivial, ?_⟩
          refine tkP rfl ?_; refine R_sub H fun t84 H => ⟨fun _ => trivial, ?_⟩
          refine tkP rfl ?_; refine R_slice TE_25 (by decide) H fun t85 H => ⟨fun _ => trivial, ?_⟩
          refine tkP rfl ?_; refine R_nil H fun t86 H => ⟨fun _ => trivial, ?_⟩
          refine tkP rfl ?_; refine R_fld TF_141_2 H fun t87 H => ⟨fun _ => trivial, ?_⟩
          refine alt_n rfl ?_ vp_none
          refine H_store1 TS_25 H fun h H => ⟨(hskip rfl (hskip rfl hnil)), ?_⟩
          refine vp_done ?_; refine WPc_seq' ?_; refine W_region (by kernel_rfl) ?_; refine vl_n ?_; refine H_of_R (R_move (v := (e 0)) rfl ?_)
          refine vl_n ?_; refine H_of_R (R_nil H fun t89 H => ?_)
          refine vl_n ?_; refine H_of_R (R_fld TF_135_3 H fun t90 H => ?_)
          refine vl_n ?_; refine H_of_R (R_load1 T1_3 H fun _ t91 _ _ H => ?_)
          refine vl_n ?_; refine H_of_R (R_sub H fun t92 H => ?_)
          refine vl_n ?_; refine H_of_R (R_nil H fun t93 H => ?_)
          refine vl_n ?_; refine H_of_R (R_fld TF_135_3 H fun t94 H => ?_)
          refine vl_n ?_; refine H_store1 TS_3 H fun h H => ?_; refine vl_e ?_; refine WPc_seq (fun e h => BTreeG_I_PopMin.j10 (e 2) (e 5) h K1 Q ∧ [e1 0, e1 2, e1 5] = [e 0, e 2, e 5]) ?_ (fun e h ⟨H, hq1⟩ => ?_)
          rotate_left
          · unfold BTreeG_I_PopMin.j10 at H
            refine WPc_seq' ?_; refine W_region (by kernel_rfl) ?_; refine vl_n ?_; refine H_of_R (R_loadN TN_27 H fun _ t103 _ _ H _ _ => ?_)
            refine vl_n ?_; refine H_storeN TS_27 H fun h H => ?_; refine vl_n ?_; refine H_of_R (R_assign (v := (.bool true)) rfl ?_)
            refine vl_e ?_; refine WPc_ret ?_; refine resH_of rfl ?_; refine resL_N TN_27 ?_; refine loadN_imp H fun r2 H => ?_; refine resL_t ?_; exact H
          refine WPc_seq' ?_; refine W_region (by kernel_rfl) ?_; refine vl_n ?_; refine H_of_R (R_move (v := (e 0)) rfl ?_)
          refine vl_n ?_; refine H_of_R (R_nil H fun t96 H => ?_)
          refine vl_n ?_; refine H_of_R (R_fld TF_135_3 H fun t97 H => ?_)
          refine vl_n ?_; refine H_of_R (R_load1 T1_3 H fun _ t98 _ _ H => ?_)
          refine vl_n ?_; refine H_of_R (R_eqI H fun t99 H => ?_)
          refine vl_e ?_; obtain ⟨b, hc, H1, H2⟩ := H; refine WPc_cond hc (fun hh => ?_) (fun hh => ?_)
          · have H := H1 hh; clear H1 H2
            refine W_region (by kernel_rfl) ?_; refine vl_n ?_; refine H_of_R (R_move (v := (e 0)) rfl ?_)
            refine vl_n ?_; refine H_of_R (R_nil H fun t101 H => ?_)
            refine vl_n ?_; refine H_of_R (R_fld TF_135_2 H fun t102 H => ?_)
            refine vl_n ?_; refine H_store1 TS_86 H fun h H => ?_; refine vl_e ?_; exact ⟨H, hq1⟩
          · have H := H2 hh; clear H1 H2
            refine WPc_skip ?_; exact ⟨H, hq1⟩
        refine WPc_seq' ?_; refine W_drawn [0, 1, 3, 7, 15, 0, 32, 96, 224, 511] (.take 0 (.take 1 (.take 2 (.take 3 (.take 4 (.take 5 (.take 6 (.take 7 (.take 8 (.take 9 .done)))))))))) mixed (by kernel_rfl) ?_; refine tkP rfl ?_; refine R_move (v := (e1 4)) rfl ⟨fun _ => trivial, ?_⟩
        refine tkP rfl ?_; refine R_nil H fun t39 H => ⟨fun _ => trivial, ?_⟩
        refine tkP rfl ?_; refine R_fld TF_141_2 H fun t40 H => ⟨fun _ => trivial, ?_⟩
        refine tkL rfl ?_; refine R_load1 T1_25 H fun at41 t41 hat41 _ H => ?_; refine tkP rfl ?_; refine R_len Try.underlying25 H fun t42 H => ⟨fun _ => trivial, ?_⟩
        refine tkP rfl ?_; refine R_move (v := (e1 0)) rfl ⟨fun _ => trivial, ?_⟩
        refine tkP rfl ?_; refine R_nil H fun t44 H => ⟨fun _ => trivial, ?_⟩
        refine tkP rfl ?_; refine R_fld TF_135_9 H fun t45 H => ⟨fun _ => trivial, ?_⟩
        refine tkL rfl ?_; refine R_load1 T1_3 H fun at46 t46 hat46 _ H => ?_; refine tkP rfl ?_; refine R_eqI H fun t47 H => ⟨fun _ => trivial, ?_⟩
        refine vp_done ?_; obtain ⟨b_2, hc_2, H1, H2⟩ := H; refine WPc_cond hc_2 (fun hh => ?_) (fun hh => ?_)
        · have H := H1 hh; clear H1 H2
          refine WPc_exit ?_; exact H
        · have H := H2 hh; clear H1 H2
          refine WPc_skip ?_; exact ⟨H, rfl⟩
      · have H := H2 hh; clear H1 H2
        refine WPc_skip ?_; exact ⟨H, rfl⟩
    refine WPc_seq' ?_; refine W_region (by kernel_rfl) ?_; refine vl_n ?_; refine H_of_R (R_move (v := (e 0)) rfl ?_)
    refine vl_n ?_; refine H_of_R (R_nil H fun t10 H => ?_)
    refine vl_n ?_; refine H_of_R (R_fld TF_135_2 H fun t11 H => ?_)
    refine vl_n ?_; refine H_of_R (R_load1 T1_86 H fun _ t12 _ _ H => ?_)
    refine vl_n ?_; refine H_of_R (R_eqNilP Try.underlying86 rfl H fun t13 H => ?_)
    refine vl_e ?_; obtain ⟨b, hc, H1, H2⟩ := H; refine WPc_cond hc (fun hh => ?_) (fun hh => ?_)
    · have H := H1 hh; clear H1 H2
      refine WPc_seq' ?_; refine W_region (by kernel_rfl) ?_; refine vl_n ?_; refine H_of_R (R_move (v := (e 0)) rfl ?_)
      refine vl_n ?_; refine H_of_R (R_nil H fun t15 H => ?_)
      refine vl_n ?_; refine H_of_R (R_fld TF_135_7 H fun t16 H => ?_)
      refine vl_n ?_; refine H_of_R (R_loadN TN_27 H fun _ t17 _ _ H _ _ => ?_)
      refine vl_n ?_; refine H_storeN TS_27 H fun h H => ?_; refine vl_n ?_; refine H_of_R (R_assign (v := (.bool false)) rfl ?_)
      refine vl_e ?_; refine WPc_ret ?_; refine resH_of rfl ?_; refine resL_N TN_27 ?_; refine loadN_imp H fun r2 H => ?_; refine resL_t ?_; exact H
    · have H := H2 hh; clear H1 H2
      refine WPc_skip ?_; exact H
  refine WPc_seq' ?_; refine W_region (by kernel_rfl) ?_; refine vl_n ?_; refine H_of_R (R_move (v := a0) rfl ?_)
  refine vl_n ?_; refine H_call HB_92 H fun t7 h H => ?_; refine vl_e ?_; obtain ⟨b, hc, H1, H2⟩ := H; refine WPc_cond hc (fun hh => ?_) (fun hh => ?_)
  · have H := H1 hh; clear H1 H2
    refine W_region (by kernel_rfl) ?_; refine vl_n ?_; refine H_of_R (R_move (v := a0) rfl ?_)
    refine vl_n ?_; exact H.elim
  · have H := H2 hh; clear H1 H2
    refine WPc_skip ?_; exact H
end Go.Proofs.Ytljecmjdmdjldaa
end
section
namespace Go.Proofs.Ytljecmjdmdjldaa
open Go.Hp
set_option maxRecDepth 100000
set_option maxHeartbeats 8000000
/-! ### (*pub/tidwallbtree.BTreeG[impl.Item]).DeleteAt -/
def BTreeG_I_DeleteAt.j4 (s0 : Value) (s4 : Value) (s8 : Value) (s11 : Value) (h : Heap) (Q : Value → Heap → Prop) : Prop :=
    loadN 2 s8 h fun t257 =>
    BTreeG_I_deleteHint.call #[s0, t257, s11] h fun t258 h =>
    extr 0 t258 fun t259 =>
    extr 1 t258 fun t260 =>
    storeN 2 s4 t259 h fun h =>
    loadN 2 s4 h fun r4 =>
    Q (.tuple #[r4, t260]) h
def BTreeG_I_DeleteAt.j7 (s0 : Value) (s4 : Value) (s7 : Value) (s8 : Value) (s9 : Value) (s11 : Value) (s12 : Value) (h : Heap) (K1 : List Value → Heap → Prop) (Q : Value → Heap → Prop) : Prop :=
    arith (· + ·) s12 (.int .i64 1) fun t221 =>
    K1 [s9, t221] h
def BTreeG_I_DeleteAt.j8 (s0 : Value) (s4 : Value) (s7 : Value) (s8 : Value) (s9 : Value) (s11 : Value) (s12 : Value) (h : Heap) (K1 : List Value → Heap → Prop) (Q : Value → Heap → Prop) : Prop :=
    nilck s9 fun t235 =>
    fld 1 t235 fun t236 =>
    load1 t236 h fun t237 =>
    arith (· + ·) t237 (.int .i64 1) fun t238 =>
    nilck s9 fun t239 =>
    fld 1 t239 fun t240 =>
    store1 t240 t238 h fun h =>
    node_I_leaf.call #[s9] h fun t242 h =>
    notV t242 fun t243 =>
    ifV t243
    (nilck s9 fun t245 =>
    fld 3 t245 fun t246 =>
    load1 t246 h fun t247 =>
    nilck t247 fun t248 =>
    load1 t248 h fun t249 =>
    idx 1 s7 s12 fun t252 =>
    load1 t252 h fun t253 =>
    idx 1 t249 t253 fun t254 =>
    load1 t254 h fun t255 =>
    BTreeG_I_DeleteAt.j7 s0 s4 s7 s8 t255 s11 s12 h K1 Q)
    (BTreeG_I_DeleteAt.j7 s0 s4 s7 s8 s9 s11 s12 h K1 Q)
def BTreeG_I_DeleteAt.j6 (s0 : Value) (s4 : Value) (s7 : Value) (s8 : Value) (s9 : Value) (s11 : Value) (s12 : Value) (h : Heap) (K1 : List Value → Heap → Prop) (Q : Value → Heap → Prop) : Prop :=
    cmpI (fun a b => decide (a < b)) s12 (.int .i64 8) fun t223 =>
    ifV t223
    (idx 1 s7 s12 fun t227 =>
    load1 t227 h fun t228 =>
    fld 8 s11 fun t229 =>
    idxA 8 1 t229 s12 fun t230 =>
    store1 t230 t228 h fun h =>
    fld 0 s11 fun t232 =>
    idxA 8 1 t232 s12 fun t233 =>
    store1 t233 (.bool true) h fun h =>
    BTreeG_I_DeleteAt.j8 s0 s4 s7 s8 s9 s11 s12 h K1 Q)
    (BTreeG_I_DeleteAt.j8 s0 s4 s7 s8 s9 s11 s12 h K1 Q)
def BTreeG_I_DeleteAt.l5.b (c0 : Value) (c4 : Value) (c7 : Value) (c8 : Value) (c11 : Value) (s9 : Value) (s12 : Value) (h : Heap) (K1 : List Value → Heap → Prop) (Q : Value → Heap → Prop) : Prop :=
    lenV c7 fun t218 =>
    cmpI (fun a b => decide (a < b)) s12 t218 fun t219 =>
    ifV t219
    (BTreeG_I_DeleteAt.j6 c0 c4 c7 c8 s9 c11 s12 h K1 Q)
    (BTreeG_I_DeleteAt.j4 c0 c4 c8 c11 h Q)
def BTreeG_I_DeleteAt.j3 (s0 : Value) (s4 : Value) (s7 : Value) (s8 : Value) (h : Heap) (Q : Value → Heap → Prop) : Prop :=
    alloc [(.bool false), (.bool false), (.bool false), (.bool false), (.bool false), (.bool false), (.bool false), (.bool false), (.int .u8 0), (.int .u8 0), (.int .u8 0), (.int .u8 0), (.int .u8 0), (.int .u8 0), (.int .u8 0), (.int .u8 0)] 150 h fun t11 h =>
    nilck s0 fun t213 =>
    fld 2 t213 fun t214 =>
    load1 t214 h fun t215 =>
    loopC (fun c s h K1 => BTreeG_I_DeleteAt.l5.b (c.getD 0 undef) (c.getD 1 undef) (c.getD 2 undef) (c.getD 3 undef) (c.getD 4 undef) (s.getD 0 undef) (s.getD 1 undef) h K1 Q) [s0, s4, s7, s8, t11] [t215, (.int .i64 0)] h
def BTreeG_I_DeleteAt.j11 (s0 : Value) (s1 : Value) (s4 : Value) (s7 : Value) (s8 : Value) (s9 : Value) (s10 : Value) (h : Heap) (K1 : List Value → Heap → Prop) (Q : Value → Heap → Prop) : Prop :=
    cvI .u8 s10 fun t199 =>
    mkSl (if 1 * 1 = 0 then [] else zeros [(.int .u8 0)] 1) 1 [(0 * 1, 1, t199)] 5 h fun t200 h =>
    app 5 1 1 [(.int .u8 0)] s7 t200 h fun t201 h =>
    nilck s9 fun t204 =>
    fld 3 t204 fun t205 =>
    load1 t205 h fun t206 =>
    nilck t206 fun t207 =>
    load1 t207 h fun t208 =>
    idx 1 t208 s10 fun t210 =>
    BTreeG_I_isoLoad.call #[s0, t210, (.bool true)] h fun t211 h =>
    K1 [s1, t201, t211] h
def BTreeG_I_DeleteAt.j14 (s0 : Value) (s1 : Value) (s4 : Value) (s7 : Value) (s8 : Value) (s9 : Value) (s10 : Value) (h : Heap) (K1 : List Value → Heap → Prop) (K2 : List Value → Heap → Prop) (Q : Value → Heap → Prop) : Prop :=
    arith (· + ·) s10 (.int .i64 1) fun t141 =>
    K2 [s1, s7, t141] h
def BTreeG_I_DeleteAt.j15 (s0 : Value) (s1 : Value) (s4 : Value) (s7 : Value) (s8 : Value) (s9 : Value) (s10 : Value) (h : Heap) (K1 : List Value → Heap → Prop) (K2 : List Value → Heap → Prop) (Q : Value → Heap → Prop) : Prop :=
    nilck s9 fun t184 =>
    fld 3 t184 fun t185 =>
    load1 t185 h fun t186 =>
    nilck t186 fun t187 =>
    load1 t187 h fun t188 =>
    idx 1 t188 s10 fun t190 =>
    load1 t190 h fun t191 =>
    nilck t191 fun t192 =>
    fld 1 t192 fun t193 =>
    load1 t193 h fun t194 =>
    arith (· + ·) t194 (.int .i64 1) fun t195 =>
    arith (· - ·) s1 t195 fun t196 =>
    BTreeG_I_DeleteAt.j14 s0 t196 s4 s7 s8 s9 s10 h K1 K2 Q
def BTreeG_I_DeleteAt.j13 (s0 : Value) (s1 : Value) (s4 : Value) (s7 : Value) (s8 : Value) (s9 : Value) (s10 : Value) (h : Heap) (K1 : List Value → Heap → Prop) (K2 : List Value → Heap → Prop) (Q : Value → Heap → Prop) : Prop :=
    nilck s9 fun t144 =>
    fld 3 t144 fun t145 =>
    load1 t145 h fun t146 =>
    nilck t146 fun t147 =>
    load1 t147 h fun t148 =>
    idx 1 t148 s10 fun t150 =>
    load1 t150 h fun t151 =>
    nilck t151 fun t152 =>
    fld 1 t152 fun t153 =>
    load1 t153 h fun t154 =>
    cmpI (fun a b => decide (a < b)) s1 t154 fun t155 =>
    ifV t155
    (BTreeG_I_DeleteAt.j11 s0 s1 s4 s7 s8 s9 s10 h K1 Q)
    (nilck s9 fun t158 =>
    fld 3 t158 fun t159 =>
    load1 t159 h fun t160 =>
    nilck t160 fun t161 =>
    load1 t161 h fun t162 =>
    idx 1 t162 s10 fun t164 =>
    load1 t164 h fun t165 =>
    nilck t165 fun t166 =>
    fld 1 t166 fun t167 =>
    load1 t167 h fun t168 =>
    cmpI (fun a b => a == b) s1 t168 fun t169 =>
    ifV t169
    (nilck s9 fun t171 =>
    fld 2 t171 fun t172 =>
    load1 t172 h fun t173 =>
    idx 2 t173 s10 fun t175 =>
    loadN 2 t175 h fun t176 =>
    storeN 2 s8 t176 h fun h =>
    cvI .u8 s10 fun t179 =>
    mkSl (if 1 * 1 = 0 then [] else zeros [(.int .u8 0)] 1) 1 [(0 * 1, 1, t179)] 5 h fun t180 h =>
    app 5 1 1 [(.int .u8 0)] s7 t180 h fun t181 h =>
    BTreeG_I_DeleteAt.j3 s0 s4 t181 s8 h Q)
    (BTreeG_I_DeleteAt.j15 s0 s1 s4 s7 s8 s9 s10 h K1 K2 Q))
def BTreeG_I_DeleteAt.l12.b (c0 : Value) (c4 : Value) (c8 : Value) (c9 : Value) (s1 : Value) (s7 : Value) (s10 : Value) (h : Heap) (K1 : List Value → Heap → Prop) (K2 : List Value → Heap → Prop) (Q : Value → Heap → Prop) : Prop :=
    nilck c9 fun t135 =>
    fld 2 t135 fun t136 =>
    load1 t136 h fun t137 =>
    lenV t137 fun t138 =>
    cmpI (fun a b => decide (a < b)) s10 t138 fun t139 =>
    ifV t139
    (BTreeG_I_DeleteAt.j13 c0 s1 c4 s7 c8 c9 s10 h K1 K2 Q)
    (BTreeG_I_DeleteAt.j11 c0 s1 c4 s7 c8 c9 s10 h K1 Q)
def BTreeG_I_DeleteAt.j10 (s0 : Value) (s1 : Value) (s4 : Value) (s7 : Value) (s8 : Value) (s9 : Value) (h : Heap) (K1 : List Value → Heap → Prop) (Q : Value → Heap → Prop) : Prop :=
    loopC (fun c s h K2 => BTreeG_I_DeleteAt.l12.b (c.getD 0 undef) (c.getD 1 undef) (c.getD 2 undef) (c.getD 3 undef) (s.getD 0 undef) (s.getD 1 undef) (s.getD 2 undef) h K1 K2 Q) [s0, s4, s8, s9] [s1, s7, (.int .i64 0)] h
def BTreeG_I_DeleteAt.j17 (s4 : Value) (s8 : Value) (h : Heap) (K1 : List Value → Heap → Prop) (Q : Value → Heap → Prop) : Prop :=
    loadN 2 s8 h fun t132 =>
    storeN 2 s4 t132 h fun h =>
    loadN 2 s4 h fun r4 =>
    Q (.tuple #[r4, (.bool true)]) h
def BTreeG_I_DeleteAt.j16 (s0 : Value) (s1 : Value) (s4 : Value) (s8 : Value) (s9 : Value) (h : Heap) (K1 : List Value → Heap → Prop) (Q : Value → Heap → Prop) : Prop :=
    nilck s9 fun t75 =>
    fld 2 t75 fun t76 =>
    load1 t76 h fun t77 =>
    slc 2 t77 (some s1) none none fun t79 =>
    nilck s9 fun t81 =>
    fld 2 t81 fun t82 =>
    load1 t82 h fun t83 =>
    arith (· + ·) s1 (.int .i64 1) fun t85 =>
    slc 2 t83 (some t85) none none fun t86 =>
    cpy 2 t79 t86 h fun t87 h =>
    nilck s9 fun t89 =>
    fld 2 t89 fun t90 =>
    load1 t90 h fun t91 =>
    nilck s9 fun t93 =>
    fld 2 t93 fun t94 =>
    load1 t94 h fun t95 =>
    lenV t95 fun t96 =>
    arith (· - ·) t96 (.int .i64 1) fun t97 =>
    nilck s0 fun t99 =>
    fld 7 t99 fun t100 =>
    loadN 2 t100 h fun t101 =>
    idx 2 t91 t97 fun t102 =>
    storeN 2 t102 t101 h fun h =>
    nilck s9 fun t105 =>
    fld 2 t105 fun t106 =>
    load1 t106 h fun t107 =>
    nilck s9 fun t109 =>
    fld 2 t109 fun t110 =>
    load1 t110 h fun t111 =>
    lenV t111 fun t112 =>
    arith (· - ·) t112 (.int .i64 1) fun t113 =>
    slc 2 t107 none (some t113) none fun t114 =>
    nilck s9 fun t115 =>
    fld 2 t115 fun t116 =>
    store1 t116 t114 h fun h =>
    nilck s0 fun t118 =>
    fld 3 t118 fun t119 =>
    load1 t119 h fun t120 =>
    arith (· - ·) t120 (.int .i64 1) fun t121 =>
    nilck s0 fun t122 =>
    fld 3 t122 fun t123 =>
    store1 t123 t121 h fun h =>
    nilck s0 fun t125 =>
    fld 3 t125 fun t126 =>
    load1 t126 h fun t127 =>
    cmpI (fun a b => a == b) t127 (.int .i64 0) fun t128 =>
    ifV t128
    (nilck s0 fun t130 =>
    fld 2 t130 fun t131 =>
    store1 t131 (.pointer none) h fun h =>
    BTreeG_I_DeleteAt.j17 s4 s8 h K1 Q)
    (BTreeG_I_DeleteAt.j17 s4 s8 h K1 Q)
def BTreeG_I_DeleteAt.l9.b (c0 : Value) (c4 : Value) (c8 : Value) (s1 : Value) (s7 : Value) (s9 : Value) (h : Heap) (K1 : List Value → Heap → Prop) (Q : Value → Heap → Prop) : Prop :=
    nilck s9 fun t44 =>
    fld 1 t44 fun t45 =>
    load1 t45 h fun t46 =>
    arith (· - ·) t46 (.int .i64 1) fun t47 =>
    nilck s9 fun t48 =>
    fld 1 t48 fun t49 =>
    store1 t49 t47 h fun h =>
    node_I_leaf.call #[s9] h fun t51 h =>
    ifV t51
    (nilck s9 fun t53 =>
    fld 2 t53 fun t54 =>
    load1 t54 h fun t55 =>
    idx 2 t55 s1 fun t57 =>
    loadN 2 t57 h fun t58 =>
    storeN 2 c8 t58 h fun h =>
    nilck s9 fun t60 =>
    fld 2 t60 fun t61 =>
    load1 t61 h fun t62 =>
    lenV t62 fun t63 =>
    nilck c0 fun t65 =>
    fld 10 t65 fun t66 =>
    load1 t66 h fun t67 =>
    cmpI (fun a b => a == b) t63 t67 fun t68 =>
    ifV t68
    (cvI .u8 s1 fun t71 =>
    mkSl (if 1 * 1 = 0 then [] else zeros [(.int .u8 0)] 1) 1 [(0 * 1, 1, t71)] 5 h fun t72 h =>
    app 5 1 1 [(.int .u8 0)] s7 t72 h fun t73 h =>
    BTreeG_I_DeleteAt.j3 c0 c4 t73 c8 h Q)
    (BTreeG_I_DeleteAt.j16 c0 s1 c4 c8 s9 h K1 Q))
    (BTreeG_I_DeleteAt.j10 c0 s1 c4 s7 c8 s9 h K1 Q)
def BTreeG_I_DeleteAt.j2 (s0 : Value) (s1 : Value) (s4 : Value) (h : Heap) (Q : Value → Heap → Prop) : Prop :=
    alloc [(.int .u8 0), (.int .u8 0), (.int .u8 0), (.int .u8 0), (.int .u8 0), (.int .u8 0), (.int .u8 0), (.int .u8 0)] 62 h fun t6 h =>
    slcA 8 1 t6 none (some (.int .i64 0)) fun t37 =>
    alloc [(.int .i64 0), (.int .i64 0)] 27 h fun t8 h =>
    nilck s0 fun t40 =>
    fld 2 t40 fun t41 =>
    BTreeG_I_isoLoad.call #[s0, t41, (.bool true)] h fun t42 h =>
    loopC (fun c s h K1 => BTreeG_I_DeleteAt.l9.b (c.getD 0 undef) (c.getD 1 undef) (c.getD 2 undef) (s.getD 0 undef) (s.getD 1 undef) (s.getD 2 undef) h K1 Q) [s0, s4, t8] [s1, t37, t42] h
def BTreeG_I_DeleteAt.j1 (s0 : Value) (s1 : Value) (s4 : Value) (h : Heap) (Q : Value → Heap → Prop) : Prop :=
    nilck s0 fun t17 =>
    fld 2 t17 fun t18 =>
    load1 t18 h fun t19 =>
    eqNilP t19 fun t20 =>
    br t20 false (cmpI (fun a b => decide (a < b)) s1 (.int .i64 0) fun t23 =>
    br t23 false (nilck s0 fun t28 =>
    fld 3 t28 fun t29 =>
    load1 t29 h fun t30 =>
    cmpI (fun a b => decide (a ≥ b)) s1 t30 fun t31 =>
    ifV t31
    (nilck s0 fun t34 =>
    fld 7 t34 fun t35 =>
    loadN 2 t35 h fun t36 =>
    storeN 2 s4 t36 h fun h =>
    loadN 2 s4 h fun r4 =>
    Q (.tuple #[r4, (.bool false)]) h)
    (BTreeG_I_DeleteAt.j2 s0 s1 s4 h Q)) (nilck s0 fun t34_2 =>
    fld 7 t34_2 fun t35_2 =>
    loadN 2 t35_2 h fun t36_2 =>
    storeN 2 s4 t36_2 h fun h =>
    loadN 2 s4 h fun r4_2 =>
    Q (.tuple #[r4_2, (.bool false)]) h)) (nilck s0 fun t34_3 =>
    fld 7 t34_3 fun t35_3 =>
    loadN 2 t35_3 h fun t36_3 =>
    storeN 2 s4 t36_3 h fun h =>
    loadN 2 s4 h fun r4_3 =>
    Q (.tuple #[r4_3, (.bool false)]) h)
def BTreeG_I_DeleteAt.sh (a0 : Value) (a1 : Value) (h : Heap) (Q : Value → Heap → Prop) : Prop :=
    alloc [(.int .i64 0), (.int .i64 0)] 27 h fun t4 h =>
    BTreeG_I_lock.call #[a0, (.bool true)] h fun t14 h =>
    ifV t14
    (False)
    (BTreeG_I_DeleteAt.j1 a0 a1 t4 h Q)
theorem BTreeG_I_DeleteAt.body (a0 : Value) (a1 : Value) (h : Heap) (Q : Value → Heap → Prop) (H : BTreeG_I_DeleteAt.sh a0 a1 h Q) : BTreeG_I_DeleteAt.call #[a0, a1] h Q := by
  refine callsH_of (args := [a0, a1]) Try.func76 rfl rfl ?_; unfold BTreeG_I_DeleteAt.sh at H; refine WPc_seq' ?_; refine W_region (by kernel_rfl) ?_; refine vl_n ?_; refine H_alloc TV_27 H fun t4 h H => ?_; refine vl_n ?_; refine H_of_R (R_assign (v := (.bool false)) rfl ?_)
  refine vl_e ?_; refine WPc_scope ?_; refine WPc_seq (fun e h => BTreeG_I_DeleteAt.j1 (e 0) (e 1) (e 4) h Q) ?_ (fun e h H => ?_)
  rotate_left
  · unfold BTreeG_I_DeleteAt.j1 at H
    refine WPc_seq (fun e h => BTreeG_I_DeleteAt.j2 (e 0) (e 1) (e 4) h Q) ?_ (fun e h H => ?_)
    rotate_left
    · unfold BTreeG_I_DeleteAt.j2 at H
      refine WPc_seq' ?_; refine W_region (by kernel_rfl) ?_; refine vl_n ?_; refine H_alloc TV_62 H fun t6 h H => ?_; refine vl_e ?_; refine WPc_seq' ?_; refine W_region (by kernel_rfl) ?_; refine vl_n ?_; refine H_of_R (R_slcA TA_62 H fun t37 H => ?_)
      refine vl_n ?_; refine H_of_R (R_assign (v := t37) rfl ?_)
      refine vl_e ?_; refine WPc_seq' ?_; refine W_region (by kernel_rfl) ?_; refine vl_n ?_; refine H_alloc TV_27 H fun t8 h H => ?_; refine vl_e ?_; refine WPc_seq' ?_; refine W_region (by kernel_rfl) ?_; refine vl_n ?_; refine H_of_R (R_move (v := (e 0)) rfl ?_)
      refine vl_n ?_; refine H_of_R (R_move (v := (e 0)) rfl ?_)
      refine vl_n ?_; refine H_of_R (R_nil H fun t40 H => ?_)
      refine vl_n ?_; refine H_of_R (R_fld TF_135_2 H fun t41 H => ?_)
      refine vl_n ?_; refine H_call HB_97 H fun t42 h H => ?_; refine vl_n ?_; refine H_of_R (R_assign (v := t42) rfl ?_)
      refine vl_e ?_; refine WPc_seq' ?_; refine WPc_label ?_; refine WPc_seq (fun e h => BTreeG_I_DeleteAt.j3 (e 0) (e 4) (e 7) (e 8) h Q) ?_ (fun e h H => ?_)
      rotate_left
      · unfold BTreeG_I_DeleteAt.j3 at H
        refine WPc_seq' ?_; refine W_region (by kernel_rfl) ?_; refine vl_n ?_; refine H_alloc TV_150 H fun t11 h H => ?_; refine vl_e ?_; refine WPc_seq' ?_; refine W_region (by kernel_rfl) ?_; refine vl_n ?_; refine H_of_R (R_move (v := (e 0)) rfl ?_)
        refine vl_n ?_; refine H_of_R (R_nil H fun t213 H => ?_)
        refine vl_n ?_; refine H_of_R (R_fld TF_135_2 H fun t214 H => ?_)
        refine vl_n ?_; refine H_of_R (R_load1 T1_86 H fun _ t215 _ _ H => ?_)
        refine vl_n ?_; refine H_of_R (R_assign (v := t215) rfl ?_)
        refine vl_e ?_; refine WPc_seq (fun e h => BTreeG_I_DeleteAt.j4 (e 0) (e 4) (e 8) (e 11) h Q) ?_ (fun e h H => ?_)
        rotate_left
        · unfold BTreeG_I_DeleteAt.j4 at H
          refine WPc_seq' ?_; refine W_region (by kernel_rfl) ?_; refine vl_n ?_; refine H_of_R (R_move (v := (e 0)) rfl ?_)
          refine vl_n ?_; refine H_of_R (R_loadN TN_27 H fun _ t257 _ _ H _ _ => ?_)
          refine vl_n ?_; refine H_call HB_106 H fun t258 h H => ?_; refine vl_n ?_; refine H_of_R (R_ext H fun t259 H => ?_)
          refine vl_n ?_; refine H_of_R (R_ext H fun t260 H => ?_)
          refine vl_n ?_; refine H_storeN TS_27 H fun h H => ?_; refine vl_n ?_; refine H_of_R (R_assign (v := t260) rfl ?_)
          refine vl_e ?_; refine WPc_ret ?_; refine resH_of rfl ?_; refine resL_N TN_27 ?_; refine loadN_imp H fun r4 H => ?_; refine resL_t ?_; exact H
        refine WPc_seq' ?_; refine W_region (by kernel_rfl) ?_; refine vl_n ?_; refine H_of_R (R_assign (v := (.int .i64 0)) rfl ?_)
        refine vl_e ?_; refine WPc_block ?_; refine loop_at (fun e => [e 9, e 12]) (fun e => [e 0, e 4, e 7, e 8, e 11]) H rfl rfl ?_; intro K1 e1 h H hin1
        replace H : BTreeG_I_DeleteAt.l5.b (e1 0) (e1 4) (e1 7) (e1 8) (e1 11) (e1 9) (e1 12) h K1 Q := H
        unfold BTreeG_I_DeleteAt.l5.b at H; clear hin1; refine WPc_seq (fun e h => BTreeG_I_DeleteAt.j6 (e 0) (e 4) (e 7) (e 8) (e 9) (e 11) (e 12) h K1 Q ∧ [e1 0, e1 4, e1 7, e1 8, e1 11] = [e 0, e 4, e 7, e 8, e 11]) ?_ (fun e h ⟨H, hq1⟩ => ?_)
        rotate_left
        · unfold BTreeG_I_DeleteAt.j6 at H
          refine WPc_seq (fun e h => BTreeG_I_DeleteAt.j7 (e 0) (e 4) (e 7) (e 8) (e 9) (e 11) (e 12) h K1 Q ∧ [e1 0, e1 4, e1 7, e1 8, e1 11] = [e 0, e 4, e 7, e 8, e 11]) ?_ (fun e h ⟨H, hq1⟩ => ?_)
          rotate_left
          · unfold BTreeG_I_DeleteAt.j7 at H
            refine W_region (by kernel_rfl) ?_; refine vl_n ?_; refine H_of_R (R_move (v := (e 12)) rfl ?_)
            refine vl_n ?_; refine H_of_R (R_add H fun t221 H => ?_)
            refine vl_n ?_; refine H_of_R (R_assign (v := t221) rfl ?_)
            refine vl_e ?_; exact ⟨H, hq1⟩
          refine WPc_block ?_; refine WPc_seq (fun e h => BTreeG_I_DeleteAt.j8 (e 0) (e 4) (e 7) (e 8) (e 9) (e 11) (e 12) h K1 Q ∧ [e1 0, e1 4, e1 7, e1 8, e1 11] = [e 0, e 4, e 7, e 8, e 11]) ?_ (fun e h ⟨H, hq1⟩ => ?_)
          rotate_left
          · unfold BTreeG_I_DeleteAt.j8 at H
            refine WPc_seq' ?_; refine W_region (by kernel_rfl) ?_; refine vl_n ?_; refine H_of_R (R_move (v := (e 9)) rfl ?_)
            refine vl_n ?_; refine H_of_R (R_nil H fun t235 H => ?_)
            refine vl_n ?_; refine H_of_R (R_fld TF_141_1 H fun t236 H => ?_)
            refine vl_n ?_; refine H_of_R (R_load1 T1_3 H fun _ t237 _ _ H => ?_)
            refine vl_n ?_; refine H_of_R (R_add H fun t238 H => ?_)
            refine vl_n ?_; refine H_of_R (R_nil H fun t239 H => ?_)
            refine vl_n ?_; refine H_of_R (R_fld TF_141_1 H fun t240 H => ?_)
            refine vl_n ?_; refine H_store1 TS_3 H fun h H => ?_; refine vl_e ?_; refine WPc_seq' ?_; refine W_region (by kernel_rfl) ?_; refine vl_n ?_; refine H_of_R (R_move (v := (e 9)) rfl ?_)
            refine vl_n ?_; refine H_call HB_94 H fun t242 h H => ?_; refine vl_n ?_; refine H_of_R (R_not H fun t243 H => ?_)
            refine vl_e ?_; obtain ⟨b, hc, H1, H2⟩ := H; refine WPc_cond hc (fun hh => ?_) (fun hh => ?_)
            · have H := H1 hh; clear H1 H2
              refine W_drawn [0, 1, 3, 7, 15, 31, 0, 0, 192, 448, 1023, 2047, 4095] (.take 0 (.take 1 (.take 2 (.take 3 (.take 4 (.take 5 (.take 6 (.take 7 (.take 8 (.take 9 (.take 10 (.take 11 (.take 12 .done))))))))))))) mixed (by kernel_rfl) ?_; refine tkP rfl ?_; refine R_move (v := (e 9)) rfl ⟨fun _ => trivial, ?_⟩
              refine tkP rfl ?_; refine R_nil H fun t245 H => ⟨fun _ => trivial, ?_⟩
              refine tkP rfl ?_; refine R_fld TF_141_3 H fun t246 H => ⟨fun _ => trivial, ?_⟩
              refine tkL rfl ?_; refine R_load1 T1_139 H fun at247 t247 hat247 _ H => ?_; refine tkP rfl ?_; refine R_nil H fun t248 H => ⟨fun _ => trivial, ?_⟩
              refine tkL rfl ?_; refine R_load1 T1_138 H fun at249 t249 hat249 _ H => ?_; refine tkP rfl ?_; refine R_move (v := (e 7)) rfl ⟨fun _ => trivial, ?_⟩
              refine tkP rfl ?_; refine R_move (v := (e 12)) rfl ⟨fun _ => trivial, ?_⟩
              refine tkP rfl ?_; refine R_idx TE_156 H fun t252 H => ⟨fun _ => trivial, ?_⟩
              refine tkL rfl ?_; refine R_load1 T1_5 H fun at253 t253 hat253 _ H => ?_; refine tkP rfl ?_; refine R_idx TE_138 H fun t254 H => ⟨fun _ => trivial, ?_⟩
              refine tkL rfl ?_; refine R_load1 T1_86 H fun at255 t255 hat255 _ H => ?_; refine tkP rfl ?_; refine R_assign (v := t255) rfl ⟨fun _ => trivial, ?_⟩
              refine vp_done ?_; exact ⟨H, hq1⟩
            · have H := H2 hh; clear H1 H2
              refine WPc_skip ?_; exact ⟨H, hq1⟩
          refine WPc_seq' ?_; refine W_region (by kernel_rfl) ?_; refine vl_n ?_; refine H_of_R (R_move (v := (e 12)) rfl ?_)
          refine vl_n ?_; refine H_of_R (R_lss H fun t223 H => ?_)
          refine vl_e ?_; obtain ⟨b, hc, H1, H2⟩ := H; refine WPc_cond hc (fun hh => ?_) (fun hh => ?_)
          · have H := H1 hh; clear H1 H2
            refine WPc_seq' ?_; refine W_region (by kernel_rfl) ?_; refine vl_n ?_; refine H_of_R (R_move (v := (e 12)) rfl ?_)
            refine vl_n ?_; refine H_of_R (R_move (v := (e 7)) rfl ?_)
            refine vl_n ?_; refine H_of_R (R_move (v := (e 12)) rfl ?_)
            refine vl_n ?_; refine H_of_R (R_idx TE_156 H fun t227 H => ?_)
            refine vl_n ?_; refine H_of_R (R_load1 T1_5 H fun _ t228 _ _ H => ?_)
            refine vl_n ?_; refine H_of_R (R_fld TF_150_1 H fun t229 H => ?_)
            refine vl_n ?_; refine H_of_R (R_idxA TA_62 H fun t230 H => ?_)
            refine vl_n ?_; refine H_store1 TS_5 H fun h H => ?_; refine vl_e ?_; refine W_region (by kernel_rfl) ?_; refine vl_n ?_; refine H_of_R (R_move (v := (e 12)) rfl ?_)
            refine vl_n ?_; refine H_of_R (R_fld TF_150_0 H fun t232 H => ?_)
            refine vl_n ?_; refine H_of_R (R_idxA TA_61 H fun t233 H => ?_)
            refine vl_n ?_; refine H_store1 TS_4 H fun h H => ?_; refine vl_e ?_; exact ⟨H, hq1⟩
          · have H := H2 hh; clear H1 H2
            refine WPc_skip ?_; exact ⟨H, hq1⟩
        refine WPc_seq' ?_; refine W_region (by kernel_rfl) ?_; refine vl_n ?_; refine H_of_R (R_move (v := (e1 12)) rfl ?_)
        refine vl_n ?_; refine H_of_R (R_move (v := (e1 7)) rfl ?_)
        refine vl_n ?_; refine H_of_R (R_len Try.underlying156 H fun t218 H => ?_)
        refine vl_n ?_; refine H_of_R (R_lss H fun t219 H => ?_)
        refine vl_e ?_; obtain ⟨b, hc, H1, H2⟩ := H; refine WPc_cond hc (fun hh => ?_) (fun hh => ?_)
        · have H := H1 hh; clear H1 H2
          refine WPc_skip ?_; exact ⟨H, rfl⟩
        · have H := H2 hh; clear H1 H2
          refine WPc_exit ?_; exact H
      refine WPc_block ?_; refine loop_at (fun e => [e 1, e 7, e 9]) (fun e => [e 0, e 4, e 8]) H rfl rfl ?_; intro K1 e1 h H hin1
      replace H : BTreeG_I_DeleteAt.l9.b (e1 0) (e1 4) (e1 8) (e1 1) (e1 7) (e1 9) h K1 Q := H
      unfold BTreeG_I_DeleteAt.l9.b at H; clear hin1; refine WPc_block ?_; refine WPc_seq' ?_; refine W_region (by kernel_rfl) ?_; refine vl_n ?_; refine H_of_R (R_move (v := (e1 9)) rfl ?_)
      refine vl_n ?_; refine H_of_R (R_nil H fun t44 H => ?_)
      refine vl_n ?_; refine H_of_R (R_fld TF_141_1 H fun t45 H => ?_)
      refine vl_n ?_; refine H_of_R (R_load1 T1_3 H fun _ t46 _ _ H => ?_)
      refine vl_n ?_; refine H_of_R (R_sub H fun t47 H => ?_)
      refine vl_n ?_; refine H_of_R (R_nil H fun t48 H => ?_)
      refine vl_n ?_; refine H_of_R (R_fld TF_141_1 H fun t49 H => ?_)
      refine vl_n ?_; refine H_store1 TS_3 H fun h H => ?_; refine vl_e ?_; refine WPc_seq (fun e h => BTreeG_I_DeleteAt.j10 (e 0) (e 1) (e 4) (e 7) (e 8) (e 9) h K1 Q ∧ [e1 0, e1 4, e1 8] = [e 0, e 4, e 8]) ?_ (fun e h ⟨H, hq1⟩ => ?_)
      rotate_left
      · unfold BTreeG_I_DeleteAt.j10 at H
        refine WPc_seq' ?_; refine W_region (by kernel_rfl) ?_; refine vl_n ?_; refine H_of_R (R_assign (v := (.int .i64 0)) rfl ?_)
        refine vl_e ?_; refine WPc_seq (fun e h => BTreeG_I_DeleteAt.j11 (e 0) (e 1) (e 4) (e 7) (e 8) (e 9) (e 10) h K1 Q ∧ [e1 0, e1 4, e1 8] = [e 0, e 4, e 8]) ?_ (fun e h ⟨H, hq1⟩ => ?_)
        rotate_left
        · unfold BTreeG_I_DeleteAt.j11 at H
          refine WPc_seq' ?_; refine W_region (by kernel_rfl) ?_; refine vl_n ?_; refine H_of_R (R_move (v := (e 7)) rfl ?_)
          refine vl_n ?_; refine H_of_R (R_move (v := (e 10)) rfl ?_)
          refine vl_n ?_; refine H_of_R (R_cvI Try.underlying3 Try.underlying5 H fun t199 H => ?_)
          refine vl_n ?_; refine H_mkSl TZ_156 (by decide) rfl H rfl fun t200 h H => ?_; refine vl_n ?_; refine H_app TZ_156 TU_156 H fun t201 h H => ?_; refine vl_n ?_; refine H_of_R (R_assign (v := t201) rfl ?_)
          refine vl_e ?_; refine W_region (by kernel_rfl) ?_; refine vl_n ?_; refine H_of_R (R_move (v := (e 0)) rfl ?_)
          refine vl_n ?_; refine H_of_R (R_move (v := (e 9)) rfl ?_)
          refine vl_n ?_; refine H_of_R (R_nil H fun t204 H => ?_)
          refine vl_n ?_; refine H_of_R (R_fld TF_141_3 H fun t205 H => ?_)
          refine vl_n ?_; refine H_of_R (R_load1 T1_139 H fun _ t206 _ _ H => ?_)
          refine vl_n ?_; refine H_of_R (R_nil H fun t207 H => ?_)
          refine vl_n ?_; refine H_of_R (R_load1 T1_138 H fun _ t208 _ _ H => ?_)
          refine vl_n ?_; refine H_of_R (R_move (v := (e 10)) rfl ?_)
          refine vl_n ?_; refine H_of_R (R_idx TE_138 H fun t210 H => ?_)
          refine vl_n ?_; refine H_call HB_97 H fun t211 h H => ?_; refine vl_n ?_; refine H_of_R (R_assign (v := t211) rfl ?_)
          refine vl_e ?_; exact ⟨H, hq1⟩
        refine WPc_block ?_; refine loop_at (fun e => [e 1, e 7, e 10]) (fun e => [e 0, e 4, e 8, e 9]) H rfl rfl ?_; intro K2 e2 h H hin2
        replace H : BTreeG_I_DeleteAt.l12.b (e2 0) (e2 4) (e2 8) (e2 9) (e2 1) (e2 7) (e2 10) h K1 K2 Q := H
        unfold BTreeG_I_DeleteAt.l12.b at H
        have hz1 : [e1 0, e1 4, e1 8] = [e2 0, e2 4, e2 8] := Eq.trans hq1 (congrArg (fun l : List Value => [l.getD 0 undef, l.getD 1 undef, l.getD 2 undef]) hin2)
        clear hin2; refine WPc_seq (fun e h => BTreeG_I_DeleteAt.j13 (e 0) (e 1) (e 4) (e 7) (e 8) (e 9) (e 10) h K1 K2 Q ∧ [e1 0, e1 4, e1 8] = [e 0, e 4, e 8] ∧ [e2 0, e2 4, e2 8, e2 9] = [e 0, e 4, e 8, e 9]) ?_ (fun e h ⟨H, hq1, hq2⟩ => ?_)
        rotate_left
        · unfold BTreeG_I_DeleteAt.j13 at H
          refine WPc_seq (fun e h => BTreeG_I_DeleteAt.j14 (e 0) (e 1) (e 4) (e 7) (e 8) (e 9) (e 10) h K1 K2 Q ∧ [e1 0, e1 4, e1 8] = [e 0, e 4, e 8] ∧ [e2 0, e2 4, e2 8, e2 9] = [e 0, e 4, e 8, e 9]) ?_ (fun e h ⟨H, hq1, hq2⟩ => ?_)
          rotate_left
          · unfold BTreeG_I_DeleteAt.j14 at H
            refine W_region (by kernel_rfl) ?_; refine vl_n ?_; refine H_of_R (R_move (v := (e 10)) rfl ?_)
            refine vl_n ?_; refine H_of_R (R_add H fun t141 H => ?_)
            refine vl_n ?_; refine H_of_R (R_assign (v := t141) rfl ?_)
            refine vl_e ?_; exact ⟨H, hq2⟩
          refine WPc_block ?_; refine WPc_seq (fun e h => BTreeG_I_DeleteAt.j15 (e 0) (e 1) (e 4) (e 7) (e 8) (e 9) (e 10) h K1 K2 Q ∧ [e1 0, e1 4, e1 8] = [e 0, e 4, e 8] ∧ [e2 0, e2 4, e2 8, e2 9] = [e 0, e 4, e 8, e 9]) ?_ (fun e h ⟨H, hq1, hq2⟩ => ?_)
          rotate_left
          · unfold BTreeG_I_DeleteAt.j15 at H
            refine W_region (by kernel_rfl) ?_; refine vl_n ?_; refine H_of_R (R_move (v := (e 1)) rfl ?_)
            refine vl_n ?_; refine H_of_R (R_move (v := (e 9)) rfl ?_)
            refine vl_n ?_; refine H_of_R (R_nil H fun t184 H => ?_)
            refine vl_n ?_; refine H_of_R (R_fld TF_141_3 H fun t185 H => ?_)
            refine vl_n ?_; refine H_of_R (R_load1 T1_139 H fun _ t186 _ _ H => ?_)
            refine vl_n ?_; refine H_of_R (R_nil H fun t187 H => ?_)
            refine vl_n ?_; refine H_of_R (R_load1 T1_138 H fun _ t188 _ _ H => ?_)
            refine vl_n ?_; refine H_of_R (R_move (v := (e 10)) rfl ?_)
            refine vl_n ?_; refine H_of_R (R_idx TE_138 H fun t190 H => ?_)
            refine vl_n ?_; refine H_of_R (R_load1 T1_86 H fun _ t191 _ _ H => ?_)
            refine vl_n ?_; refine H_of_R (R_nil H fun t192 H => ?_)
            refine vl_n ?_; refine H_of_R (R_fld TF_141_1 H fun t193 H => ?_)
            refine vl_n ?_; refine H_of_R (R_load1 T1_3 H fun _ t194 _ _ H => ?_)
            refine vl_n ?_; refine H_of_R (R_add H fun t195 H => ?_)
            refine vl_n ?_; refine H_of_R (R_sub H fun t196 H => ?_)
            refine vl_n ?_; refine H_of_R (R_assign (v := t196) rfl ?_)
            refine vl_e ?_; exact ⟨H, hq1, hq2⟩
          refine WPc_seq' ?_; refine W_region (by kernel_rfl) ?_; refine vl_n ?_; refine H_of_R (R_move (v := (e 1)) rfl ?_)
          refine vl_n ?_; refine H_of_R (R_move (v := (e 9)) rfl ?_)
          refine vl_n ?_; refine H_of_R (R_nil H fun t144 H => ?_)
          refine vl_n ?_; refine H_of_R (R_fld TF_141_3 H fun t145 H => ?_)
          refine vl_n ?_; refine H_of_R (R_load1 T1_139 H fun _ t146 _ _ H => ?_)
          refine vl_n ?_; refine H_of_R (R_nil H fun t147 H => ?_)
          refine vl_n ?_; refine H_of_R (R_load1 T1_138 H fun _ t148 _ _ H => ?_)
          refine vl_n ?_; refine H_of_R (R_move (v := (e 10)) rfl ?_)
          refine vl_n ?_; refine H_of_R (R_idx TE_138 H fun t150 H => ?_)
          refine vl_n ?_; refine H_of_R (R_load1 T1_86 H fun _ t151 _ _ H => ?_)
          refine vl_n ?_; refine H_of_R (R_nil H fun t152 H => ?_)
          refine vl_n ?_; refine H_of_R (R_fld TF_141_1 H fun t153 H => ?_)
          refine vl_n ?_; refine H_of_R (R_load1 T1_3 H fun _ t154 _ _ H => ?_)
          refine vl_n ?_; refine H_of_R (R_lss H fun t155 H => ?_)
          refine vl_e ?_; obtain ⟨b, hc, H1, H2⟩ := H; refine WPc_cond hc (fun hh => ?_) (fun hh => ?_)
          · have H := H1 hh; clear H1 H2
            refine WPc_exit ?_; exact ⟨H, hq1⟩
          · have H := H2 hh; clear H1 H2
            refine WPc_seq' ?_; refine W_region (by kernel_rfl) ?_; refine vl_n ?_; refine H_of_R (R_move (v := (e 1)) rfl ?_)
            refine vl_n ?_; refine H_of_R (R_move (v := (e 9)) rfl ?_)
            refine vl_n ?_; refine H_of_R (R_nil H fun t158 H => ?_)
            refine vl_n ?_; refine H_of_R (R_fld TF_141_3 H fun t159 H => ?_)
            refine vl_n ?_; refine H_of_R (R_load1 T1_139 H fun _ t160 _ _ H => ?_)
            refine vl_n ?_; refine H_of_R (R_nil H fun t161 H => ?_)
            refine vl_n ?_; refine H_of_R (R_load1 T1_138 H fun _ t162 _ _ H => ?_)
            refine vl_n ?_; refine H_of_R (R_move (v := (e 10)) rfl ?_)
            refine vl_n ?_; refine H_of_R (R_idx TE_138 H fun t164 H => ?_)
            refine vl_n ?_; refine H_of_R (R_load1 T1_86 H fun _ t165 _ _ H => ?_)
            refine vl_n ?_; refine H_of_R (R_nil H fun t166 H => ?_)
            refine vl_n ?_; refine H_of_R (R_fld TF_141_1 H fun t167 H => ?_)
            refine vl_n ?_; refine H_of_R (R_load1 T1_3 H fun _ t168 _ _ H => ?_)
            refine vl_n ?_; refine H_of_R (R_eqI H fun t169 H => ?_)
            refine vl_e ?_; obtain ⟨b_2, hc_2, H1, H2⟩ := H; refine WPc_cond hc_2 (fun hh => ?_) (fun hh => ?_)
            · have H := H1 hh; clear H1 H2
              refine WPc_seq' ?_; refine W_region (by kernel_rfl) ?_; refine vl_n ?_; refine H_of_R (R_move (v := (e 9)) rfl ?_)
              refine vl_n ?_; refine H_of_R (R_nil H fun t171 H => ?_)
              refine vl_n ?_; refine H_of_R (R_fld TF_141_2 H fun t172 H => ?_)
              refine vl_n ?_; refine H_of_R (R_load1 T1_25 H fun _ t173 _ _ H => ?_)
              refine vl_n ?_; refine H_of_R (R_move (v := (e 10)) rfl ?_)
              refine vl_n ?_; refine H_of_R (R_idx TE_25 H fun t175 H => ?_)
              refine vl_n ?_; refine H_of_R (R_loadN TN_27 H fun _ t176 _ _ H _ _ => ?_)
              refine vl_n ?_; refine H_storeN TS_27 H fun h H => ?_; refine vl_e ?_; refine WPc_seq' ?_; refine W_region (by kernel_rfl) ?_; refine vl_n ?_; refine H_of_R (R_move (v := (e 7)) rfl ?_)
              refine vl_n ?_; refine H_of_R (R_move (v := (e 10)) rfl ?_)
              refine vl_n ?_; refine H_of_R (R_cvI Try.underlying3 Try.underlying5 H fun t179 H => ?_)
              refine vl_n ?_; refine H_mkSl TZ_156 (by decide) rfl H rfl fun t180 h H => ?_; refine vl_n ?_; refine H_app TZ_156 TU_156 H fun t181 h H => ?_; refine vl_n ?_; refine H_of_R (R_assign (v := t181) rfl ?_)
              refine vl_e ?_; refine WPc_exit ?_; exact H
            · have H := H2 hh; clear H1 H2
              refine WPc_skip ?_; exact ⟨H, hq1, hq2⟩
        refine WPc_seq' ?_; refine W_region (by kernel_rfl) ?_; refine vl_n ?_; refine H_of_R (R_move (v := (e2 10)) rfl ?_)
        refine vl_n ?_; refine H_of_R (R_move (v := (e2 9)) rfl ?_)
        refine vl_n ?_; refine H_of_R (R_nil H fun t135 H => ?_)
        refine vl_n ?_; refine H_of_R (R_fld TF_141_2 H fun t136 H => ?_)
        refine vl_n ?_; refine H_of_R (R_load1 T1_25 H fun _ t137 _ _ H => ?_)
        refine vl_n ?_; refine H_of_R (R_len Try.underlying25 H fun t138 H => ?_)
        refine vl_n ?_; refine H_of_R (R_lss H fun t139 H => ?_)
        refine vl_e ?_; obtain ⟨b, hc, H1, H2⟩ := H; refine WPc_cond hc (fun hh => ?_) (fun hh => ?_)
        · have H := H1 hh; clear H1 H2
          refine WPc_skip ?_; exact ⟨H, hz1, rfl⟩
        · have H := H2 hh; clear H1 H2
          refine WPc_exit ?_; exact ⟨H, hz1⟩
      refine WPc_seq' ?_; refine W_region (by kernel_rfl) ?_; refine vl_n ?_; refine H_of_R (R_move (v := (e1 9)) rfl ?_)
      refine vl_n ?_; refine H_call HB_94 H fun t51 h H => ?_; refine vl_e ?_; obtain ⟨b, hc, H1, H2⟩ := H; refine WPc_cond hc (fun hh => ?_) (fun hh => ?_)
      · have H := H1 hh; clear H1 H2
        refine WPc_seq' ?_; refine W_region (by kernel_rfl) ?_; refine vl_n ?_; refine H_of_R (R_move (v := (e1 9)) rfl ?_)
        refine vl_n ?_; refine H_of_R (R_nil H fun t53 H => ?_)
        refine vl_n ?_; refine H_of_R (R_fld TF_141_2 H fun t54 H => ?_)
        refine vl_n ?_; refine H_of_R (R_load1 T1_25 H fun _ t55 _ _ H => ?_)
        refine vl_n ?_; refine H_of_R (R_move (v := (e1 1)) rfl ?_)
        refine vl_n ?_; refine H_of_R (R_idx TE_25 H fun t57 H => ?_)
        refine vl_n ?_; refine H_of_R (R_loadN TN_27 H fun _ t58 _ _ H _ _ => ?_)
        refine vl_n ?_; refine H_storeN TS_27 H fun h H => ?_; refine vl_e ?_; refine WPc_seq (fun e h => BTreeG_I_DeleteAt.j16 (e 0) (e 1) (e 4) (e 8) (e 9) h K1 Q ∧ [e1 0, e1 4, e1 8] = [e 0, e 4, e 8]) ?_ (fun e h ⟨H, hq1⟩ => ?_)
        rotate_left
        · unfold BTreeG_I_DeleteAt.j16 at H
          refine WPc_seq' ?_; refine W_drawn [0, 1, 3, 7, 0, 31, 0, 64, 192, 448, 0, 1024, 4032, 8191] (.take 0 (.take 1 (.take 2 (.take 3 (.take 4 (.take 5 (.take 6 (.take 7 (.take 8 (.take 9 (.take 10 (.take 11 (.take 12 (.alt 13 .done .none)))))))))))))) mixed (by kernel_rfl) ?_; refine tkP rfl ?_; refine R_move (v := (e 9)) rfl ⟨fun _ => trivial, ?_⟩
          refine tkP rfl ?_; refine R_nil H fun t75 H => ⟨fun _ => trivial, ?_⟩
          refine tkP rfl ?_; refine R_fld TF_141_2 H fun t76 H => ⟨fun _ => trivial, ?_⟩
          refine tkL rfl ?_; refine R_load1 T1_25 H fun at77 t77 hat77 _ H => ?_; refine tkP rfl ?_; refine R_move (v := (e 1)) rfl ⟨fun _ => trivial, ?_⟩
          refine tkP rfl ?_; refine R_slice TE_25 (by decide) H fun t79 H => ⟨fun _ => trivial, ?_⟩
          refine tkP rfl ?_; refine R_move (v := (e 9)) rfl ⟨fun _ => trivial, ?_⟩
          refine tkP rfl ?_; refine R_nil H fun t81 H => ⟨fun _ => trivial, ?_⟩
          refine tkP rfl ?_; refine R_fld TF_141_2 H fun t82 H => ⟨fun _ => trivial, ?_⟩
          refine tkL rfl ?_; refine R_load1 T1_25 H fun at83 t83 hat83 _ H => ?_; refine tkP rfl ?_; refine R_move (v := (e 1)) rfl ⟨fun _ => trivial, ?_⟩
          refine tkP rfl ?_; refine R_add H fun t85 H => ⟨fun _ => trivial, ?_⟩
          refine tkP rfl ?_; refine R_slice TE_25 (by decide) H fun t86 H => ⟨fun _ => trivial, ?_⟩
          refine alt_n rfl ?_ vp_none
          refine H_cpy TE_25 H fun t87 h H => ⟨(hskip rfl (hskip rfl hnil)), ?_⟩
          refine vp_done ?_; refine WPc_seq' ?_; refine W_drawn [0, 1, 3, 7, 0, 16, 48, 112, 240, 496, 0, 1024, 3072, 7168, 16383, 32767] (.take 0 (.take 1 (.take 2 (.take 3 (.take 4 (.take 5 (.take 6 (.take 7 (.take 8 (.take 9 (.take 10 (.take 11 (.take 12 (.take 13 (.take 14 (.alt 15 .done .none)))))))))))))))) mixed (by kernel_rfl) ?_; refine tkP rfl ?_; refine R_move (v := (e 9)) rfl ⟨fun _ => trivial, ?_⟩
          refine tkP rfl ?_; refine R_nil H fun t89 H => ⟨fun _ => trivial, ?_⟩
          refine tkP rfl ?_; refine R_fld TF_141_2 H fun t90 H => ⟨fun _ => trivial, ?_⟩
          refine tkL rfl ?_; refine R_load1 T1_25 H fun at91 t91 hat91 _ H => ?_; refine tkP rfl ?_; refine R_move (v := (e 9)) rfl ⟨fun _ => trivial, ?_⟩
          refine tkP rfl ?_; refine R_nil H fun t93 H => ⟨fun _ => trivial, ?_⟩
          refine tkP rfl ?_; refine R_fld TF_141_2 H fun t94 H => ⟨fun _ => trivial, ?_⟩
          refine tkL rfl ?_; refine R_load1 T1_25 H fun at95 t95 hat95 _ H => ?_; refine tkP rfl ?_; refine R_len Try.underlying25 H fun t96 H => ⟨fun _ => trivial, ?_⟩
          refine tkP rfl ?_; refine R_sub H fun t97 H => ⟨fun _ => trivial, ?_⟩
          refine tkP rfl ?_; refine R_move (v := (e 0)) rfl ⟨fun _ => trivial, ?_⟩
          refine tkP rfl ?_; refine R_nil H fun t99 H => ⟨fun _ => trivial, ?_⟩
          refine tkP rfl ?_; refine R_fld TF_135_7 H fun t100 H => ⟨fun _ => trivial, ?_⟩
          refine tkL rfl ?_; refine R_loadN TN_27 H fun at101 xt101 hat101 _ H St101 hSt101 => ?_; refine tkP rfl ?_; refine R_idx TE_25 H fun t102 H => ⟨fun _ => trivial, ?_⟩
          refine alt_n rfl ?_ vp_none
          refine H_storeN TS_27 H fun h H => ⟨(hskip rfl (hskip rfl (hskip rfl hnil))), ?_⟩
          refine vp_done ?_; refine WPc_seq' ?_; refine W_drawn [0, 0, 2, 6, 14, 0, 32, 96, 224, 480, 992, 2046, 4095, 8191, 16383] (.take 0 (.take 1 (.take 2 (.take 3 (.take 4 (.take 5 (.take 6 (.take 7 (.take 8 (.take 9 (.take 10 (.take 11 (.take 12 (.take 13 (.alt 14 .done .none))))))))))))))) mixed (by kernel_rfl) ?_; refine tkP rfl ?_; refine R_move (v := (e 9)) rfl ⟨fun _ => trivial, ?_⟩
          refine tkP rfl ?_; refine R_move (v := (e 9)) rfl ⟨fun _ => trivial, ?_⟩
          refine tkP rfl ?_; refine R_nil H fun t105 H => ⟨fun _ => trivial, ?_⟩
          refine tkP rfl ?_; refine R_fld TF_141_2 H fun t106 H => ⟨fun _ => trivial, ?_⟩
          refine tkL rfl ?_; refine R_load1 T1_25 H fun at107 t107 hat107 _ H => ?_; refine tkP rfl ?_; refine R_move (v := (e 9)) rfl ⟨fun _ => trivial, ?_⟩
          refine tkP rfl ?_; refine R_nil H fun t109 H => ⟨fun _ => trivial, ?_⟩
          refine tkP rfl ?_; refine R_fld TF_141_2 H fun t110 H => ⟨fun _ => trivial, ?_⟩
          refine tkL rfl ?_; refine R_load1 T1_25 H fun at111 t111 hat111 _ H => ?_; refine tkP rfl ?_; refine R_len Try.underlying25 H fun t112 H => ⟨fun _ => trivial, ?_⟩
          refine tkP rfl ?_; refine R_sub H fun t113 H => ⟨fun _ => trivial, ?_⟩
          refine tkP rfl ?_; refine R_slice TE_25 (by decide) H fun t114 H => ⟨fun _ => trivial, ?_⟩
          refine tkP rfl ?_; refine R_nil H fun t115 H => ⟨fun _ => trivial, ?_⟩
          refine tkP rfl ?_; refine R_fld TF_141_2 H fun t116 H => ⟨fun _ => trivial, ?_⟩
          refine alt_n rfl ?_ vp_none
          refine H_store1 TS_25 H fun h H => ⟨(hskip rfl (hskip rfl hnil)), ?_⟩
          refine vp_done ?_; refine WPc_seq' ?_; refine W_region (by kernel_rfl) ?_; refine vl_n ?_; refine H_of_R (R_move (v := (e 0)) rfl ?_)
          refine vl_n ?_; refine H_of_R (R_nil H fun t118 H => ?_)
          refine vl_n ?_; refine H_of_R (R_fld TF_135_3 H fun t119 H => ?_)
          refine vl_n ?_; refine H_of_R (R_load1 T1_3 H fun _ t120 _ _ H => ?_)
          refine vl_n ?_; refine H_of_R (R_sub H fun t121 H => ?_)
          refine vl_n ?_; refine H_of_R (R_nil H fun t122 H => ?_)
          refine vl_n ?_; refine H_of_R (R_fld TF_135_3 H fun t123 H => ?_)
          refine vl_n ?_; refine H_store1 TS_3 H fun h H => ?_; refine vl_e ?_; refine WPc_seq (fun e h => BTreeG_I_DeleteAt.j17 (e 4) (e 8) h K1 Q ∧ [e1 0, e1 4, e1 8] = [e 0, e 4, e 8]) ?_ (fun e h ⟨H, hq1⟩ => ?_)
          rotate_left
          · unfold BTreeG_I_DeleteAt.j17 at H
            refine WPc_seq' ?_; refine W_region (by kernel_rfl) ?_; refine vl_n ?_; refine H_of_R (R_loadN TN_27 H fun _ t132 _ _ H _ _ => ?_)
            refine vl_n ?_; refine H_storeN TS_27 H fun h H => ?_; refine vl_n ?_; refine H_of_R (R_assign (v := (.bool true)) rfl ?_)
            refine vl_e ?_; refine WPc_ret ?_; refine resH_of rfl ?_; refine resL_N TN_27 ?_; refine loadN_imp H fun r4 H => ?_; refine resL_t ?_; exact H
          refine WPc_seq' ?_; refine W_region (by kernel_rfl) ?_; refine vl_n ?_; refine H_of_R (R_move (v := (e 0)) rfl ?_)
          refine vl_n ?_; refine H_of_R (R_nil H fun t125 H => ?_)
          refine vl_n ?_; refine H_of_R (R_fld TF_135_3 H fun t126 H => ?_)
          refine vl_n ?_; refine H_of_R (R_load1 T1_3 H fun _ t127 _ _ H => ?_)
          refine vl_n ?_; refine H_of_R (R_eqI H fun t128 H => ?_)
          refine vl_e ?_; obtain ⟨b, hc, H1, H2⟩ := H; refine WPc_cond hc (fun hh => ?_) (fun hh => ?_)
          · have H := H1 hh; clear H1 H2
            refine W_region (by kernel_rfl) ?_; refine vl_n ?_; refine H_of_R (R_move (v := (e 0)) rfl ?_)
            refine vl_n ?_; refine H_of_R (R_nil H fun t130 H => ?_)
            refine vl_n ?_; refine H_of_R (R_fld TF_135_2 H fun t131 H => ?_)
            refine vl_n ?_; refine H_store1 TS_86 H fun h H => ?_; refine vl_e ?_; exact ⟨H, hq1⟩
          · have H := H2 hh; clear H1 H2
            refine WPc_skip ?_; exact ⟨H, hq1⟩
        refine WPc_seq' ?_; refine W_drawn [0, 1, 3, 7, 15, 0, 32, 96, 224, 511] (.take 0 (.take 1 (.take 2 (.take 3 (.take 4 (.take 5 (.take 6 (.take 7 (.take 8 (.take 9 .done)))))))))) mixed (by kernel_rfl) ?_; refine tkP rfl ?_; refine R_move (v := (e1 9)) rfl ⟨fun _ => trivial, ?_⟩
        refine tkP rfl ?_; refine R_nil H fun t60 H => ⟨fun _ => trivial, ?_⟩
        refine tkP rfl ?_; refine R_fld TF_141_2 H fun t61 H => ⟨fun _ => trivial, ?_⟩
        refine tkL rfl ?_; refine R_load1 T1_25 H fun at62 t62 hat62 _ H => ?_; refine tkP rfl ?_; refine R_len Try.underlying25 H fun t63 H => ⟨fun _ => trivial, ?_⟩
        refine tkP rfl ?_; refine R_move (v := (e1 0)) rfl ⟨fun _ => trivial, ?_⟩
        refine tkP rfl ?_; refine R_nil H fun t65 H => ⟨fun _ => trivial, ?_⟩
        refine tkP rfl ?_; refine R_fld TF_135_9 H fun t66 H => ⟨fun _ => trivial, ?_⟩
        refine tkL rfl ?_; refine R_load1 T1_3 H fun at67 t67 hat67 _ H => ?_; refine tkP rfl ?_; refine R_eqI H fun t68 H => ⟨fun _ => trivial, ?_⟩
        refine vp_done ?_; obtain ⟨b_2, hc_2, H1, H2⟩ := H; refine WPc_cond hc_2 (fun hh => ?_) (fun hh => ?_)
        · have H := H1 hh; clear H1 H2
          refine WPc_seq' ?_; refine W_region (by kernel_rfl) ?_; refine vl_n ?_; refine H_of_R (R_move (v := (e1 7)) rfl ?_)
          refine vl_n ?_; refine H_of_R (R_move (v := (e1 1)) rfl ?_)
          refine vl_n ?_; refine H_of_R (R_cvI Try.underlying3 Try.underlying5 H fun t71 H => ?_)
          refine vl_n ?_; refine H_mkSl TZ_156 (by decide) rfl H rfl fun t72 h H => ?_; refine vl_n ?_; refine H_app TZ_156 TU_156 H fun t73 h H => ?_; refine vl_n ?_; refine H_of_R (R_assign (v := t73) rfl ?_)
          refine vl_e ?_; refine WPc_exit ?_; exact H
        · have H := H2 hh; clear H1 H2
          refine WPc_skip ?_; exact ⟨H, rfl⟩
      · have H := H2 hh; clear H1 H2
        refine WPc_skip ?_; exact ⟨H, rfl⟩
    refine WPc_seq' ?_; refine W_region (by kernel_rfl) ?_; refine vl_n ?_; refine H_of_R (R_move (v := (e 0)) rfl ?_)
    refine vl_n ?_; refine H_of_R (R_nil H fun t17 H => ?_)
    refine vl_n ?_; refine H_of_R (R_fld TF_135_2 H fun t18 H => ?_)
    refine vl_n ?_; refine H_of_R (R_load1 T1_86 H fun _ t19 _ _ H => ?_)
    refine vl_n ?_; refine H_of_R (R_eqNilP Try.underlying86 rfl H fun t20 H => ?_)
    refine vl_n ?_; refine H_of_R (R_move (v := t20) rfl ?_)
    obtain ⟨b, hb, H1, H2⟩ := H
    cases b
    · have H := H1 rfl; clear H1 H2
      refine vl_y rfl hb ?_; refine H_of_R (R_move (v := (e 1)) rfl ?_)
      refine vl_y rfl hb ?_; refine H_of_R (R_lss H fun t23 H => ?_)
      refine vl_n ?_; refine H_of_R (R_pickC (v := t23) false hb rfl ?_)
      refine vl_n ?_; refine H_of_R (R_move (v := t23) rfl ?_)
      obtain ⟨b_2, hb_2, H1, H2⟩ := H
      cases b_2
      · have H := H1 rfl; clear H1 H2
        refine vl_y rfl hb_2 ?_; refine H_of_R (R_move (v := (e 1)) rfl ?_)
        refine vl_y rfl hb_2 ?_; refine H_of_R (R_move (v := (e 0)) rfl ?_)
        refine vl_y rfl hb_2 ?_; refine H_of_R (R_nil H fun t28 H => ?_)
        refine vl_y rfl hb_2 ?_; refine H_of_R (R_fld TF_135_3 H fun t29 H => ?_)
        refine vl_y rfl hb_2 ?_; refine H_of_R (R_load1 T1_3 H fun _ t30 _ _ H => ?_)
        refine vl_y rfl hb_2 ?_; refine H_of_R (R_geq H fun t31 H => ?_)
        refine vl_n ?_; refine H_of_R (R_pickC (v := t31) false hb_2 rfl ?_)
        refine vl_e ?_; obtain ⟨b_3, hc, H1, H2⟩ := H; refine WPc_cond hc (fun hh => ?_) (fun hh => ?_)
        · have H := H1 hh; clear H1 H2
          refine WPc_seq' ?_; refine W_region (by kernel_rfl) ?_; refine vl_n ?_; refine H_of_R (R_move (v := (e 0)) rfl ?_)
          refine vl_n ?_; refine H_of_R (R_nil H fun t34 H => ?_)
          refine vl_n ?_; refine H_of_R (R_fld TF_135_7 H fun t35 H => ?_)
          refine vl_n ?_; refine H_of_R (R_loadN TN_27 H fun _ t36 _ _ H _ _ => ?_)
          refine vl_n ?_; refine H_storeN TS_27 H fun h H => ?_; refine vl_n ?_; refine H_of_R (R_assign (v := (.bool false)) rfl ?_)
          refine vl_e ?_; refine WPc_ret ?_; refine resH_of rfl ?_; refine resL_N TN_27 ?_; refine loadN_imp H fun r4 H => ?_; refine resL_t ?_; exact H
        · have H := H2 hh; clear H1 H2
          refine WPc_skip ?_; exact H
      · have H := H2 rfl; clear H1 H2
        refine vl_s rfl (nbF hb_2) ?_; refine vl_s rfl (nbF hb_2) ?_; refine vl_s rfl (nbF hb_2) ?_; refine vl_s rfl (nbF hb_2) ?_; refine vl_s rfl (nbF hb_2) ?_; refine vl_s rfl (nbF hb_2) ?_; refine vl_n ?_; refine H_of_R (R_pickC (v := (.bool true)) true hb_2 rfl ?_)
        refine vl_e ?_; refine WPc_cond (t := true) rfl (fun _ => ?_) (fun hh => by cases hh)
        refine WPc_seq' ?_; refine W_region (by kernel_rfl) ?_; refine vl_n ?_; refine H_of_R (R_move (v := (e 0)) rfl ?_)
        refine vl_n ?_; refine H_of_R (R_nil H fun t34_2 H => ?_)
        refine vl_n ?_; refine H_of_R (R_fld TF_135_7 H fun t35_2 H => ?_)
        refine vl_n ?_; refine H_of_R (R_loadN TN_27 H fun _ t36_2 _ _ H _ _ => ?_)
        refine vl_n ?_; refine H_storeN TS_27 H fun h H => ?_; refine vl_n ?_; refine H_of_R (R_assign (v := (.bool false)) rfl ?_)
        refine vl_e ?_; refine WPc_ret ?_; refine resH_of rfl ?_; refine resL_N TN_27 ?_; refine loadN_imp H fun r4_2 H => ?_; refine resL_t ?_; exact H
    · have H := H2 rfl; clear H1 H2
      refine vl_s rfl (nbF hb) ?_; refine vl_s rfl (nbF hb) ?_; refine vl_n ?_; refine H_of_R (R_pickC (v := (.bool true)) true hb rfl ?_)
      refine vl_n ?_; refine H_of_R (R_move (v := (.bool true)) rfl ?_)
      refine vl_s rfl (nbF rfl) ?_; refine vl_s rfl (nbF rfl) ?_; refine vl_s rfl (nbF rfl) ?_; refine vl_s rfl (nbF rfl) ?_; refine vl_s rfl (nbF rfl) ?_; refine vl_s rfl (nbF rfl) ?_; refine vl_n ?_; refine H_of_R (R_pickC (v := (.bool true)) true rfl rfl ?_)
      refine vl_e ?_; refine WPc_cond (t := true) rfl (fun _ => ?_) (fun hh => by cases hh)
      refine WPc_seq' ?_; refine W_region (by kernel_rfl) ?_; refine vl_n ?_; refine H_of_R (R_move (v := (e 0)) rfl ?_)
      refine vl_n ?_; refine H_of_R (R_nil H fun t34_3 H => ?_)
      refine vl_n ?_; refine H_of_R (R_fld TF_135_7 H fun t35_3 H => ?_)
      refine vl_n ?_; refine H_of_R (R_loadN TN_27 H fun _ t36_3 _ _ H _ _ => ?_)
      refine vl_n ?_; refine H_storeN TS_27 H fun h H => ?_; refine vl_n ?_; refine H_of_R (R_assign (v := (.bool false)) rfl ?_)
      refine vl_e ?_; refine WPc_ret ?_; refine resH_of rfl ?_; refine resL_N TN_27 ?_; refine loadN_imp H fun r4_3 H => ?_; refine resL_t ?_; exact H
  refine WPc_seq' ?_; refine W_region (by kernel_rfl) ?_; refine vl_n ?_; refine H_of_R (R_move (v := a0) rfl ?_)
  refine vl_n ?_; refine H_call HB_92 H fun t14 h H => ?_; refine vl_e ?_; obtain ⟨b, hc, H1, H2⟩ := H; refine WPc_cond hc (fun hh => ?_) (fun hh => ?_)
  · have H := H1 hh; clear H1 H2
    refine W_region (by kernel_rfl) ?_; refine vl_n ?_; refine H_of_R (R_move (v := a0) rfl ?_)
    refine vl_n ?_; exact H.elim
  · have H := H2 hh; clear H1 H2
    refine WPc_skip ?_; exact H
end Go.Proofs.Ytljecmjdmdjldaa
end
section
namespace Go.Proofs.Ytljecmjdmdjldaa
open Go.Hp
set_option maxRecDepth 100000
set_option maxHeartbeats 8000000
/-! ### impl.NDeleteAt -/
def i_NDeleteAt.sh (a0 : Value) (a1 : Value) (a2 : Value) (h : Heap) (Q : Value → Heap → Prop) : Prop :=
    box 24 a0 h fun t3 h =>
    box 37 a1 h fun t4 h =>
    alloc [(.int .i64 0), (.int .i64 0), (.bool false)] 46 h fun t6 h =>
    alloc [(.slice none 0 0), (.slice none 0 0), (.int .i64 0)] 37 h fun t7 h =>
    loadN 3 t3 h fun t10 =>
    loadN 3 t4 h fun t11 =>
    i_stand.call #[t10, t11] h fun t12 h =>
    BTreeG_I_DeleteAt.call #[t12, a2] h fun t15 h =>
    extr 0 t15 fun t16 =>
    extr 1 t15 fun t17 =>
    i_found.call #[t16, t17] h fun t18 h =>
    alloc [(.int .i64 0), (.int .i64 0), (.bool false)] 46 h fun t9 h =>
    storeN 3 t9 t18 h fun h =>
    loadN 3 t9 h fun t19 =>
    i_fell.call #[t12] h fun t21 h =>
    stillN 3 t9 t19 h ∧ storeN 3 t6 t19 h fun h =>
    storeN 3 t7 t21 h fun h =>
    loadN 3 t6 h fun r6 =>
    loadN 3 t7 h fun r7 =>
    Q (.tuple #[r6, r7]) h
theorem i_NDeleteAt.body (a0 : Value) (a1 : Value) (a2 : Value) (h : Heap) (Q : Value → Heap → Prop) (H : i_NDeleteAt.sh a0 a1 a2 h Q) : i_NDeleteAt.call #[a0, a1, a2] h Q := by
  refine callsH_of (args := [a0, a1, a2]) Try.func43 rfl rfl ?_; unfold i_NDeleteAt.sh at H; refine WPc_seq' ?_; refine W_region (by kernel_rfl) ?_; refine vl_n ?_; refine H_box H fun t3 h H => ?_; refine vl_n ?_; refine H_box H fun t4 h H => ?_; refine vl_n ?_; refine H_alloc TV_46 H fun t6 h H => ?_; refine vl_n ?_; refine H_alloc TV_37 H fun t7 h H => ?_; refine vl_e ?_; refine WPc_seq' ?_; refine W_region (by kernel_rfl) ?_; refine vl_n ?_; refine H_of_R (R_loadN TN_24 H fun _ t10 _ _ H _ _ => ?_)
  refine vl_n ?_; refine H_of_R (R_loadN TN_37 H fun _ t11 _ _ H _ _ => ?_)
  refine vl_n ?_; refine H_call HB_55 H fun t12 h H => ?_; refine vl_n ?_; refine H_of_R (R_assign (v := t12) rfl ?_)
  refine vl_e ?_; refine WPc_seq' ?_; refine W_region (by kernel_rfl) ?_; refine vl_n ?_; refine H_of_R (R_move (v := t12) rfl ?_)
  refine vl_n ?_; refine H_of_R (R_move (v := a2) rfl ?_)
  refine vl_n ?_; refine H_call HB_76 H fun t15 h H => ?_; refine vl_n ?_; refine H_of_R (R_ext H fun t16 H => ?_)
  refine vl_n ?_; refine H_of_R (R_ext H fun t17 H => ?_)
  refine vl_n ?_; refine H_call HB_59 H fun t18 h H => ?_; refine vl_n ?_; refine H_alloc TV_46 H fun t9 h H => ?_; refine vl_n ?_; refine H_storeN TS_46 H fun h H => ?_; refine vl_e ?_; refine WPc_seq' ?_; refine W_drawn [0, 0, 2, 7, 15] (.take 0 (.take 1 (.alt 2 (.alt 3 (.alt 4 .done .none) .none) .none))) mixed (by kernel_rfl) ?_; refine tkL rfl ?_; refine R_loadN TN_46 H fun at19 xt19 hat19 _ H St19 hSt19 => ?_; refine tkP rfl ?_; refine R_move (v := t12) rfl ⟨fun _ => trivial, ?_⟩
  refine alt_n rfl ?_ vp_none
  refine H_call HB_62 H fun t21 h ⟨S, H⟩ => ⟨(hcons rfl (hSt19 _ (still_N S hat19 rfl)) hnil), ?_⟩
  refine alt_n rfl ?_ vp_none
  refine H_storeN TS_46 H fun h H => ⟨(hskip rfl hnil), ?_⟩
  refine alt_n rfl ?_ vp_none
  refine H_storeN TS_37 H fun h H => ⟨hnil, ?_⟩
  refine vp_done ?_; refine WPc_ret ?_; refine resH_of rfl ?_; refine resL_N TN_46 ?_; refine loadN_imp H fun r6 H => ?_; refine resL_N TN_37 ?_; refine loadN_imp H fun r7 H => ?_; exact H
/-! ### laws.FnNDeleteAt -/
def l_FnNDeleteAt.j2 (s2 : Value) (s3 : Value) (s4 : Value) (h : Heap) (Q : Value → Heap → Prop) : Prop :=
    loadN 3 s4 h fun t26 =>
    s_NodeItems.call #[t26] h fun t27 h =>
    s_Cut.call #[t27, s2] h fun t29 h =>
    extr 0 t29 fun t30 =>
    extr 1 t29 fun t31 =>
    alloc [(.int .i64 0), (.int .i64 0), (.bool false)] 46 h fun t8 h =>
    storeN 3 t8 t31 h fun h =>
    loadN 3 s3 h fun t33 =>
    loadN 3 s4 h fun t34 =>
    i_NDeleteAt.call #[t33, t34, s2] h fun t36 h =>
    extr 0 t36 fun t37 =>
    extr 1 t36 fun t38 =>
    alloc [(.int .i64 0), (.int .i64 0), (.bool false)] 46 h fun t9 h =>
    alloc [(.slice none 0 0), (.slice none 0 0), (.int .i64 0)] 37 h fun t10 h =>
    storeN 3 t9 t37 h fun h =>
    storeN 3 t10 t38 h fun h =>
    loadN 3 s4 h fun t39 =>
    loadN 3 t10 h fun t41 =>
    s_NodeHeight.call #[t39] h fun t40 h =>
    stillN 3 t10 t41 h ∧ s_NodeHeight.call #[t41] h fun t42 h =>
    arith (· - ·) t40 t42 fun t43 =>
    loadN 3 t9 h fun t44 =>
    loadN 3 t8 h fun t45 =>
    eqR (EqV Try.prog 10000 46) t44 t45 fun t46 =>
    br t46 true (loadN 3 s3 h fun t48 =>
    loadN 3 t10 h fun t49 =>
    l_holds.call #[t48, t49, t30] h fun t51 h =>
    br t51 true (cmpI (fun a b => a == b) t43 (.int .i64 0) fun t55 =>
    br t55 false (cmpI (fun a b => a == b) t43 (.int .i64 1) fun t58 =>
    br t58 true (l_aliveN.call #[] h fun t62 h =>
    Q t62 h) (Q (.bool false) h)) (l_aliveN.call #[] h fun t62_2 h =>
    Q t62_2 h)) (Q (.bool false) h)) (Q (.bool false) h)
def l_FnNDeleteAt.j1 (s2 : Value) (s3 : Value) (s4 : Value) (h : Heap) (Q : Value → Heap → Prop) : Prop :=
    loadN 3 s3 h fun t20 =>
    loadN 3 s4 h fun t21 =>
    l_valid.call #[t20, t21] h fun t22 h =>
    notV t22 fun t23 =>
    ifV t23
    (l_aliveN.call #[] h fun t24 h =>
    Q t24 h)
    (l_FnNDeleteAt.j2 s2 s3 s4 h Q)
def l_FnNDeleteAt.sh (a0 : Value) (a1 : Value) (a2 : Value) (h : Heap) (Q : Value → Heap → Prop) : Prop :=
    box 24 a0 h fun t3 h =>
    box 37 a1 h fun t4 h =>
    loadN 3 t3 h fun t12 =>
    l_zzFits1.call #[t12] h fun t13 h =>
    notV t13 fun t14 =>
    br t14 false (loadN 3 t4 h fun t16 =>
    l_zzFits3.call #[t16] h fun t17 h =>
    notV t17 fun t18 =>
    ifV t18
    (Q (.bool true) h)
    (l_FnNDeleteAt.j1 a2 t3 t4 h Q)) (Q (.bool true) h)
theorem l_FnNDeleteAt.body (a0 : Value) (a1 : Value) (a2 : Value) (h : Heap) (Q : Value → Heap → Prop) (H : l_FnNDeleteAt.sh a0 a1 a2 h Q) : l_FnNDeleteAt.call #[a0, a1, a2] h Q := by
  refine callsH_of (args := [a0, a1, a2]) Try.func10 rfl rfl ?_; unfold l_FnNDeleteAt.sh at H; refine WPc_seq' ?_; refine W_region (by kernel_rfl) ?_; refine vl_n ?_; refine H_box H fun t3 h H => ?_; refine vl_n ?_; refine H_box H fun t4 h H => ?_; refine vl_n ?_; refine H_of_R (R_assign (v := (.bool false)) rfl ?_)
  refine vl_e ?_; refine WPc_seq (fun e h => l_FnNDeleteAt.j1 (e 2) (e 3) (e 4) h Q) ?_ (fun e h H => ?_)
  rotate_left
  · unfold l_FnNDeleteAt.j1 at H
    refine WPc_seq (fun e h => l_FnNDeleteAt.j2 (e 2) (e 3) (e 4) h Q) ?_ (fun e h H => ?_)
    rotate_left
    · unfold l_FnNDeleteAt.j2 at H
      refine WPc_seq' ?_; refine W_region (by kernel_rfl) ?_; refine vl_n ?_; refine H_of_R (R_loadN TN_37 H fun _ t26 _ _ H _ _ => ?_)
      refine vl_n ?_; refine H_call HB_22 H fun t27 h H => ?_; refine vl_n ?_; refine H_of_R (R_move (v := (e 2)) rfl ?_)
      refine vl_n ?_; refine H_call HB_42 H fun t29 h H => ?_; refine vl_n ?_; refine H_of_R (R_move (v := t29) rfl ?_)
      refine vl_n ?_; refine H_of_R (R_ext H fun t30 H => ?_)
      refine vl_n ?_; refine H_of_R (R_ext H fun t31 H => ?_)
      refine vl_n ?_; refine H_alloc TV_46 H fun t8 h H => ?_; refine vl_n ?_; refine H_of_R (R_assign (v := t30) rfl ?_)
      refine vl_n ?_; refine H_storeN TS_46 H fun h H => ?_; refine vl_e ?_; refine WPc_seq' ?_; refine W_region (by kernel_rfl) ?_; refine vl_n ?_; refine H_of_R (R_loadN TN_24 H fun _ t33 _ _ H _ _ => ?_)
      refine vl_n ?_; refine H_of_R (R_loadN TN_37 H fun _ t34 _ _ H _ _ => ?_)
      refine vl_n ?_; refine H_of_R (R_move (v := (e 2)) rfl ?_)
      refine vl_n ?_; refine H_call HB_43 H fun t36 h H => ?_; refine vl_n ?_; refine H_of_R (R_move (v := t36) rfl ?_)
      refine vl_n ?_; refine H_of_R (R_ext H fun t37 H => ?_)
      refine vl_n ?_; refine H_of_R (R_ext H fun t38 H => ?_)
      refine vl_n ?_; refine H_alloc TV_46 H fun t9 h H => ?_; refine vl_n ?_; refine H_alloc TV_37 H fun t10 h H => ?_; refine vl_n ?_; refine H_storeN TS_46 H fun h H => ?_; refine vl_n ?_; refine H_storeN TS_37 H fun h H => ?_; refine vl_e ?_; refine WPc_seq' ?_; refine W_drawn [0, 1, 0, 7, 15, 31] (.take 0 (.take 2 (.alt 1 (.alt 3 (.take 4 (.take 5 .done)) .none) .none))) mixed (by kernel_rfl) ?_; refine tkL rfl ?_; refine R_loadN TN_37 H fun at39 xt39 hat39 _ H St39 hSt39 => ?_; refine tkL rfl ?_; refine R_loadN TN_37 H fun at41 xt41 hat41 _ H St41 hSt41 => ?_; refine alt_n rfl ?_ vp_none
      refine H_call HB_24 H fun t40 h ⟨S, H⟩ => ⟨(hcons rfl (hSt41 _ (still_N S hat41 rfl)) (hskip rfl hnil)), ?_⟩
      refine alt_n rfl ?_ vp_none
      refine H_call HB_24 H fun t42 h H => ⟨(hskip rfl hnil), ?_⟩
      refine tkP rfl ?_; refine R_sub H fun t43 H => ⟨fun _ => trivial, ?_⟩
      refine tkP rfl ?_; refine R_assign (v := t43) rfl ⟨fun _ => trivial, ?_⟩
      refine vp_done ?_; refine WPc_seq' ?_; refine W_region (by kernel_rfl) ?_; refine vl_n ?_; refine H_of_R (R_loadN TN_46 H fun _ t44 _ _ H _ _ => ?_)
      refine vl_n ?_; refine H_of_R (R_loadN TN_46 H fun _ t45 _ _ H _ _ => ?_)
      refine vl_n ?_; refine H_of_R (R_eqA (by kernel_rfl) H fun t46 H => ?_)
      refine vl_n ?_; refine H_of_R (R_move (v := t46) rfl ?_)
      obtain ⟨b, hb, H1, H2⟩ := H
      cases b
      · have H := H2 rfl; clear H1 H2
        refine vl_s rfl (nbT hb) ?_; refine vl_s rfl (nbT hb) ?_; refine vl_s rfl (nbT hb) ?_; refine vl_s rfl (nbT hb) ?_; refine vl_n ?_; refine H_of_R (R_pickC (v := (.bool false)) false hb rfl ?_)
        refine vl_n ?_; refine H_of_R (R_move (v := (.bool false)) rfl ?_)
        refine vl_s rfl (nbT rfl) ?_; refine vl_s rfl (nbT rfl) ?_; refine vl_s rfl (nbT rfl) ?_; refine vl_s rfl nbU ?_; refine vl_s rfl nbU ?_; refine vl_s rfl (nbT rfl) ?_; refine vl_n ?_; refine H_of_R (R_pickC (v := (.bool false)) false rfl rfl ?_)
        refine vl_n ?_; refine H_of_R (R_move (v := (.bool false)) rfl ?_)
        refine vl_s rfl (nbT rfl) ?_; refine vl_n ?_; refine H_of_R (R_pickC (v := (.bool false)) false rfl rfl ?_)
        refine vl_n ?_; refine H_of_R (R_assign (v := (.bool false)) rfl ?_)
        refine vl_e ?_; refine WPc_ret ?_; refine resH_of rfl ?_; exact H
      · have H := H1 rfl; clear H1 H2
        refine vl_y rfl hb ?_; refine H_of_R (R_loadN TN_24 H fun _ t48 _ _ H _ _ => ?_)
        refine vl_y rfl hb ?_; refine H_of_R (R_loadN TN_37 H fun _ t49 _ _ H _ _ => ?_)
        refine vl_y rfl hb ?_; refine H_of_R (R_move (v := t30) rfl ?_)
        refine vl_y rfl hb ?_; refine H_call HB_29 H fun t51 h H => ?_; refine vl_n ?_; refine H_of_R (R_pickC (v := t51) true hb rfl ?_)
        refine vl_n ?_; refine H_of_R (R_move (v := t51) rfl ?_)
        obtain ⟨b_2, hb_2, H1, H2⟩ := H
        cases b_2
        · have H := H2 rfl; clear H1 H2
          refine vl_s rfl (nbT hb_2) ?_; refine vl_s rfl (nbT hb_2) ?_; refine vl_s rfl (nbT hb_2) ?_; refine vl_s rfl nbU ?_; refine vl_s rfl nbU ?_; refine vl_s rfl (nbT hb_2) ?_; refine vl_n ?_; refine H_of_R (R_pickC (v := (.bool false)) false hb_2 rfl ?_)
          refine vl_n ?_; refine H_of_R (R_move (v := (.bool false)) rfl ?_)
          refine vl_s rfl (nbT rfl) ?_; refine vl_n ?_; refine H_of_R (R_pickC (v := (.bool false)) false rfl rfl ?_)
          refine vl_n ?_; refine H_of_R (R_assign (v := (.bool false)) rfl ?_)
          refine vl_e ?_; refine WPc_ret ?_; refine resH_of rfl ?_; exact H
        · have H := H1 rfl; clear H1 H2
          refine vl_y rfl hb_2 ?_; refine H_of_R (R_move (v := t43) rfl ?_)
          refine vl_y rfl hb_2 ?_; refine H_of_R (R_eqI H fun t55 H => ?_)
          refine vl_y rfl hb_2 ?_; refine H_of_R (R_move (v := t55) rfl ?_)
          obtain ⟨b_3, hb_3, H1, H2⟩ := H
          cases b_3
          · have H := H1 rfl; clear H1 H2
            refine vl_y rfl hb_3 ?_; refine H_of_R (R_move (v := t43) rfl ?_)
            refine vl_y rfl hb_3 ?_; refine H_of_R (R_eqI H fun t58 H => ?_)
            refine vl_y rfl hb_2 ?_; refine H_of_R (R_pickC (v := t58) false hb_3 rfl ?_)
            refine vl_n ?_; refine H_of_R (R_pickC (v := t58) true hb_2 rfl ?_)
            refine vl_n ?_; refine H_of_R (R_move (v := t58) rfl ?_)
            obtain ⟨b_4, hb_4, H1, H2⟩ := H
            cases b_4
            · have H := H2 rfl; clear H1 H2
              refine vl_s rfl (nbT hb_4) ?_; refine vl_n ?_; refine H_of_R (R_pickC (v := (.bool false)) false hb_4 rfl ?_)
              refine vl_n ?_; refine H_of_R (R_assign (v := (.bool false)) rfl ?_)
              refine vl_e ?_; refine WPc_ret ?_; refine resH_of rfl ?_; exact H
            · have H := H1 rfl; clear H1 H2
              refine vl_y rfl hb_4 ?_; refine H_call HB_21 H fun t62 h H => ?_; refine vl_n ?_; refine H_of_R (R_pickC (v := t62) true hb_4 rfl ?_)
              refine vl_n ?_; refine H_of_R (R_assign (v := t62) rfl ?_)
              refine vl_e ?_; refine WPc_ret ?_; refine resH_of rfl ?_; exact H
          · have H := H2 rfl; clear H1 H2
            refine vl_s rfl (nbF hb_3) ?_; refine vl_s rfl (nbF hb_3) ?_; refine vl_y rfl hb_2 ?_; refine H_of_R (R_pickC (v := (.bool true)) true hb_3 rfl ?_)
            refine vl_n ?_; refine H_of_R (R_pickC (v := (.bool true)) true hb_2 rfl ?_)
            refine vl_n ?_; refine H_of_R (R_move (v := (.bool true)) rfl ?_)
            refine vl_y rfl rfl ?_; refine H_call HB_21 H fun t62_2 h H => ?_; refine vl_n ?_; refine H_of_R (R_pickC (v := t62_2) true rfl rfl ?_)
            refine vl_n ?_; refine H_of_R (R_assign (v := t62_2) rfl ?_)
            refine vl_e ?_; refine WPc_ret ?_; refine resH_of rfl ?_; exact H
    refine WPc_seq' ?_; refine W_region (by kernel_rfl) ?_; refine vl_n ?_; refine H_of_R (R_loadN TN_24 H fun _ t20 _ _ H _ _ => ?_)
    refine vl_n ?_; refine H_of_R (R_loadN TN_37 H fun _ t21 _ _ H _ _ => ?_)
    refine vl_n ?_; refine H_call HB_20 H fun t22 h H => ?_; refine vl_n ?_; refine H_of_R (R_not H fun t23 H => ?_)
    refine vl_e ?_; obtain ⟨b, hc, H1, H2⟩ := H; refine WPc_cond hc (fun hh => ?_) (fun hh => ?_)
    · have H := H1 hh; clear H1 H2
      refine WPc_seq' ?_; refine W_region (by kernel_rfl) ?_; refine vl_n ?_; refine H_call HB_21 H fun t24 h H => ?_; refine vl_n ?_; refine H_of_R (R_assign (v := t24) rfl ?_)
      refine vl_e ?_; refine WPc_ret ?_; refine resH_of rfl ?_; exact H
    · have H := H2 hh; clear H1 H2
      refine WPc_skip ?_; exact H
  refine WPc_seq' ?_; refine W_region (by kernel_rfl) ?_; refine vl_n ?_; refine H_of_R (R_loadN TN_24 H fun _ t12 _ _ H _ _ => ?_)
  refine vl_n ?_; refine H_call HB_13 H fun t13 h H => ?_; refine vl_n ?_; refine H_of_R (R_not H fun t14 H => ?_)
  refine vl_n ?_; refine H_of_R (R_move (v := t14) rfl ?_)
  obtain ⟨b, hb, H1, H2⟩ := H
  cases b
  · have H := H1 rfl; clear H1 H2
    refine vl_y rfl hb ?_; refine H_of_R (R_loadN TN_37 H fun _ t16 _ _ H _ _ => ?_)
    refine vl_y rfl hb ?_; refine H_call HB_19 H fun t17 h H => ?_; refine vl_y rfl hb ?_; refine H_of_R (R_not H fun t18 H => ?_)
    refine vl_n ?_; refine H_of_R (R_pickC (v := t18) false hb rfl ?_)
    refine vl_e ?_; obtain ⟨b_2, hc, H1, H2⟩ := H; refine WPc_cond hc (fun hh => ?_) (fun hh => ?_)
    · have H := H1 hh; clear H1 H2
      refine WPc_seq' ?_; refine W_region (by kernel_rfl) ?_; refine vl_n ?_; refine H_of_R (R_assign (v := (.bool true)) rfl ?_)
      refine vl_e ?_; refine WPc_ret ?_; refine resH_of rfl ?_; exact H
    · have H := H2 hh; clear H1 H2
      refine WPc_skip ?_; exact H
  · have H := H2 rfl; clear H1 H2
    refine vl_s rfl (nbF hb) ?_; refine vl_s rfl (nbF hb) ?_; refine vl_s rfl (nbF hb) ?_; refine vl_n ?_; refine H_of_R (R_pickC (v := (.bool true)) true hb rfl ?_)
    refine vl_e ?_; refine WPc_cond (t := true) rfl (fun _ => ?_) (fun hh => by cases hh)
    refine WPc_seq' ?_; refine W_region (by kernel_rfl) ?_; refine vl_n ?_; refine H_of_R (R_assign (v := (.bool true)) rfl ?_)
    refine vl_e ?_; refine WPc_ret ?_; refine resH_of rfl ?_; exact H
end Go.Proofs.Ytljecmjdmdjldaa
end
section
namespace Go.Proofs.Ytljecmjdmdjldaa
open Go.Hp
theorem degree_ok {h : Heap} {Q : Value → Heap → Prop} {d : Int} (h1 : 2 ≤ d) (h2 : d ≤ 1073741824) (H : Q (.tuple #[.int .i64 (d - 1), .int .i64 (2 * d - 1)]) h) : degreeToMinMax.call #[.int .i64 d] h Q := by
  refine degreeToMinMax.body _ _ _ ?_; unfold degreeToMinMax.sh
  simp only [w_load1, w_loadN, w_nil, w_fld, w_idx, w_len, w_lenStr, w_cap, w_arith, w_divi, w_remi, w_cmpI, w_cmpS, w_not, w_ext, w_eqNilP, w_neNilP, w_eqB, w_pick, w_max, w_ifV, w_br, w_store1, w_storeN, w_alloc, w_box, add_mk, Nat.zero_add, Nat.add_zero, Option.some.injEq, exists_eq_left', List.getElem?_cons_zero, List.getElem?_cons_succ, List.getD_cons_zero, List.getD_cons_succ]
  refine ⟨fun e => absurd e (by simp; omega), fun _ => ⟨fun e => absurd e (by simp; omega), fun _ => ?_⟩⟩
  unfold degreeToMinMax.j1
  simp only [w_load1, w_loadN, w_nil, w_fld, w_idx, w_len, w_lenStr, w_cap, w_arith, w_divi, w_remi, w_cmpI, w_cmpS, w_not, w_ext, w_eqNilP, w_neNilP, w_eqB, w_pick, w_max, w_ifV, w_br, w_store1, w_storeN, w_alloc, w_box, add_mk, Nat.zero_add, Nat.add_zero, Option.some.injEq, exists_eq_left', List.getElem?_cons_zero, List.getElem?_cons_succ, List.getD_cons_zero, List.getD_cons_succ]
  rw [i64w (n := d * 2) (by omega) (by omega), i64w (n := d * 2 - 1) (by omega) (by omega)]
  have hd : (d * 2 - 1).tdiv 2 = d - 1 := by rw [Int.tdiv_eq_ediv_of_nonneg (by omega)]; omega
  rw [hd, i64w (n := d - 1) (by omega) (by omega), show d * 2 - 1 = 2 * d - 1 by omega]; exact ⟨by decide, H⟩
theorem degree_zero {h : Heap} {Q : Value → Heap → Prop} (H : Q (.tuple #[.int .i64 31, .int .i64 63]) h) : degreeToMinMax.call #[.int .i64 0] h Q := by
  refine degreeToMinMax.body _ _ _ ?_; unfold degreeToMinMax.sh
  simp only [w_load1, w_loadN, w_nil, w_fld, w_idx, w_len, w_lenStr, w_cap, w_arith, w_divi, w_remi, w_cmpI, w_cmpS, w_not, w_ext, w_eqNilP, w_neNilP, w_eqB, w_pick, w_max, w_ifV, w_br, w_store1, w_storeN, w_alloc, w_box, add_mk, Nat.zero_add, Nat.add_zero, Option.some.injEq, exists_eq_left', List.getElem?_cons_zero, List.getElem?_cons_succ, List.getD_cons_zero, List.getD_cons_succ]
  refine ⟨fun _ => ?_, fun e => absurd e (by simp)⟩
  unfold degreeToMinMax.j1
  simp only [w_load1, w_loadN, w_nil, w_fld, w_idx, w_len, w_lenStr, w_cap, w_arith, w_divi, w_remi, w_cmpI, w_cmpS, w_not, w_ext, w_eqNilP, w_neNilP, w_eqB, w_pick, w_max, w_ifV, w_br, w_store1, w_storeN, w_alloc, w_box, add_mk, Nat.zero_add, Nat.add_zero, Option.some.injEq, exists_eq_left', List.getElem?_cons_zero, List.getElem?_cons_succ, List.getD_cons_zero, List.getD_cons_succ]
  exact ⟨by decide, H⟩
end Go.Proofs.Ytljecmjdmdjldaa
end
section
namespace Go.Proofs.Ytljecmjdmdjldaa
open Go.Hp Go.ChangeShapes Go.WideShapes Go.ChangeAt Go.RowKit
section
variable {H : Type}
theorem bulk_all : ∀ l : List (DataW H), Rows.uptoBulkAll l = (l.map Rows.uptoBulk).sum
  | [] => rfl
  | d :: r => by simp only [Rows.uptoBulkAll, List.map_cons, List.sum_cons, bulk_all r]
theorem bulk_agg (l : List (DataW H)) : Rows.uptoBulk (.agg l) = (l.map Rows.uptoBulk).sum + 1 := by simp only [Rows.uptoBulk, bulk_all]
theorem bulk_slice (e s : List (DataW H)) : Rows.uptoBulk (.slice e s) = (e.map Rows.uptoBulk).sum + (s.map Rows.uptoBulk).sum + 1 := by simp only [Rows.uptoBulk, bulk_all]
theorem bulk_one : ∀ d : DataW H, 1 ≤ Rows.uptoBulk d
  | .lit l => by cases l <;> simp only [Rows.uptoBulk] <;> omega
  | .nil => by simp only [Rows.uptoBulk]; omega
  | .ptr d => by simp only [Rows.uptoBulk]; omega
  | .slice e s => by simp only [Rows.uptoBulk]; omega
  | .agg l => by simp only [Rows.uptoBulk]; omega
  | .iface _ d => by simp only [Rows.uptoBulk]; omega
  | .map l => by simp only [Rows.uptoBulk]; omega
  | .held _ => by simp only [Rows.uptoBulk]; omega
theorem bulk_of {ds : List (DataW H)} (hk : Rows.uptoSmall H ds = true) {d : DataW H} (hd : d ∈ ds) : Rows.uptoBulk d ≤ 1048576 := by
  have h : Rows.uptoBulkAll ds ≤ 1048576 := of_decide_eq_true hk
  rw [bulk_all] at h; exact Nat.le_trans (mem_le_sum (List.mem_map.2 ⟨d, hd, rfl⟩)) h
end
set_option maxRecDepth 100000 in
theorem nodeTy : ∃ f0 f1 f2 g0 g1, NodeTy Try.prog 37 25 35 27 3 f0 f1 f2 g0 g1 := ⟨_, _, _, _, _, Try.underlying37, ⟨rfl, rfl, rfl⟩, ⟨rfl, rfl, rfl⟩, by kernel_rfl, ⟨by kernel_rfl, by kernel_rfl, by kernel_rfl⟩, Try.underlying25, Try.underlying35, Try.underlying3, Try.underlying27, by kernel_rfl, ⟨rfl, rfl⟩, ⟨by kernel_rfl, by kernel_rfl⟩, ⟨Try.underlying3, Try.underlying3⟩⟩
set_option maxRecDepth 100000 in
theorem open_arg {H : Type} {en : TypeId × Value → H} {W : World} {base : Nat} {v : Value} {d : DataW H} {ps : List MemPlace} (hval : Value.okWide Try.prog W .any base 37 v) (hd : DataW.Trod en Try.prog W 0 (fun _ => true) true 37 v d ps) (hb : Rows.uptoBulk d ≤ 1048576) :
    ∃ (k : Nat) (t : DT (k + 1)) (vi vk : Value) (c : Int), k ≤ 1048576 ∧ v = .agg #[vi, vk, .int .i64 c] ∧ ArgD W.heap t vi vk ∧ t.bulk ≤ 1048576 := by
  obtain ⟨cs, hv, hsz⟩ := okWide_struct Try.underlying37 hval; subst hv; obtain ⟨fuel, hf⟩ := hd; obtain ⟨_, _, _, _, _, hty⟩ := nodeTy; obtain ⟨k, hk⟩ : ∃ k, Rows.uptoBulk d = k + 1 := ⟨Rows.uptoBulk d - 1, by have := bulk_one d; omega⟩; obtain ⟨t, vi, vk, c, hc, ha, hbk⟩ := open_node hty bulk_one bulk_agg bulk_slice (k + 1) fuel _ _ hf (Nat.le_of_eq hk); refine ⟨k, t, vi, vk, c, by omega, ?_, ha, Nat.le_trans hbk hb⟩
  have : cs.toList = [vi, vk, .int .i64 c] := hc
  rw [← Array.toArray_toList (xs := cs), this]
end Go.Proofs.Ytljecmjdmdjldaa
end
section
namespace Go.Proofs.Ytljecmjdmdjldaa.Gi
open Go.Hp
abbrev It := Int × Int
abbrev enc (p : It) : List Value := [.int .i64 p.1, .int .i64 p.2]
abbrev emp : It := (0, 0)
abbrev av (p : It) : Value := .agg (enc p).toArray
abbrev hd0 (iso : Int) (ctr : Option Addr) : List Value := [.int .u64 iso, .pointer ctr]
abbrev hd4 (lf : Value) (mn mx : Int) : List Value := [.bool false, .bool false, lf] ++ enc emp ++ [.int .i64 mx, .int .i64 mn]
abbrev hdr (iso : Int) (ctr root : Option Addr) (cnt : Int) (lf : Value) (mn mx : Int) : List Value := [.int .u64 iso, .pointer ctr, .pointer root, .int .i64 cnt] ++ hd4 lf mn mx
theorem encl (p : It) : (enc p).length = 2 := rfl
theorem enc1 (p : It) : ∀ y ∈ enc p, one1 y = true := by simp [one1]
structure OrdC (Z : List Rg) (lf : Value) (lt : It → It → Bool) : Prop where
  nn : notNil lf = true
  one : one1 lf = true
  call : ∀ {h0 h : Heap} {E : List Rg} {a b : It} {Q : Value → Heap → Prop}, St h0 Z E h → (∀ E' h', St h [] E' h' → Q (.bool (lt a b)) h') → callV Try.prog lf #[av a, av b] h Q
theorem OrdC.mono {Z Z' : List Rg} {lf : Value} {lt : It → It → Bool} (o : OrdC Z lf lt) (hz : ∀ r, r ∈ Z → r ∈ Z') : OrdC Z' lf lt := ⟨o.nn, o.one, fun s H => o.call (s.subZ hz) H⟩
def HintC (hc : List Value) : Prop := ∃ (us : List Bool) (ps : List Int), us.length = 8 ∧ ps.length = 8 ∧ (∀ p ∈ ps, 0 ≤ p ∧ p ≤ 255) ∧ hc = (us.map fun b => .bool b) ++ ps.map fun p => .int .u8 p
theorem HintC.len {hc : List Value} (h : HintC hc) : hc.length = 16 := by
  obtain ⟨us, ps, h1, h2, _, rfl⟩ := h; simp [h1, h2]
theorem HintC.used {hc : List Value} (h : HintC hc) {i : Nat} (hi : i < 8) : ∃ b, hc[i]? = some (.bool b) := by
  obtain ⟨us, ps, h1, h2, _, rfl⟩ := h; exact ⟨us[i], by rw [List.getElem?_append_left (by simp; omega), List.getElem?_map, List.getElem?_eq_getElem (by omega)]; rfl⟩
theorem HintC.path {hc : List Value} (h : HintC hc) {i : Nat} (hi : i < 8) : ∃ p, hc[8 + i]? = some (.int .u8 p) ∧ 0 ≤ p ∧ p ≤ 255 := by
  obtain ⟨us, ps, h1, h2, h3, rfl⟩ := h; refine ⟨ps[i], ?_, h3 _ (List.getElem_mem _)⟩
  rw [List.getElem?_append_right (by simp; omega), List.length_map, h1, Nat.add_sub_cancel_left, List.getElem?_map, List.getElem?_eq_getElem (by omega)]; rfl
theorem HintC.setU {hc : List Value} (h : HintC hc) {i : Nat} (hi : i < 8) (b : Bool) : HintC (hc.set i (.bool b)) := by
  obtain ⟨us, ps, h1, h2, h3, rfl⟩ := h; refine ⟨us.set i b, ps, by simp [h1], h2, h3, ?_⟩
  rw [List.set_append_left _ _ (by simp; omega), List.map_set]
theorem HintC.setP {hc : List Value} (h : HintC hc) {i : Nat} (hi : i < 8) {p : Int} (h0 : 0 ≤ p) (hp : p ≤ 255) : HintC (hc.set (8 + i) (.int .u8 p)) := by
  obtain ⟨us, ps, h1, h2, h3, rfl⟩ := h; refine ⟨us, ps.set i p, h1, by simp [h2], fun q hq => ?_, ?_⟩
  · rcases List.mem_or_eq_of_mem_set hq with e | e
    · exact h3 q e
    · rw [e]; exact ⟨h0, hp⟩
  · rw [List.set_append_right _ _ (by simp; omega), List.length_map, h1, Nat.add_sub_cancel_left, List.map_set]
theorem HintC.zero : HintC (List.replicate 8 (.bool false) ++ List.replicate 8 (.int .u8 0)) := ⟨List.replicate 8 false, List.replicate 8 0, rfl, rfl, by simp, by simp⟩
def Hn (hv : Value) (hb : Nat) (hc : List Value) : Prop := (hv = .pointer none ∧ hc = []) ∨ (hv = ptr hb 0 ∧ HintC hc)
theorem Hn.none : Hn (.pointer none) 0 [] := .inl ⟨rfl, rfl⟩
theorem Hn.some {hb : Nat} {hc : List Value} (h : HintC hc) : Hn (ptr hb 0) hb hc := .inr ⟨rfl, h⟩
theorem u64w {n : Int} (h1 : 0 ≤ n) (h2 : n ≤ 9223372036854775807) : IntKind.wrap .u64 n = n := by
  have e : IntKind.wrap .u64 n = n % 18446744073709551616 := rfl
  rw [e]; omega
theorem u8w (n : Int) : 0 ≤ IntKind.wrap .u8 n ∧ IntKind.wrap .u8 n ≤ 255 := by
  have e : IntKind.wrap .u8 n = n % 256 := rfl
  rw [e]; omega
theorem r_idxA {len sz b o : Nat} {k : IntKind} {i : Int} {K : Value → Prop} (n j : Nat) (hi : i = n) (hn : n < len) (hj : o + n * sz = j) (H : K (ptr b j)) : idxA len sz (ptr b o) (.int k i) K :=
  ⟨_, k, i, rfl, rfl, by omega, by omega, by rw [add_mk, show i.toNat = n by omega, hj]; exact H⟩
theorem r_div2 {n : Nat} {K : Value → Prop} (h : n ≤ 9223372036854775807) (H : K (.int .i64 ((n / 2 : Nat) : Int))) : divi (.int .i64 n) (.int .i64 2) K :=
  ⟨.i64, _, _, rfl, rfl, by decide, by rw [show ((n : Int)).tdiv 2 = ((n / 2 : Nat) : Int) from (Int.ofNat_tdiv n 2).symm, i64w (by omega) (by omega)]; exact H⟩
theorem _root_.Go.Hp.St.dropMid {h0 h : Heap} {Z A E : List Rg} {r : Rg} (s : St h0 Z (r :: (A ++ E)) h) : St h0 Z (r :: E) h := s.sub (List.Sublist.cons_cons _ (List.sublist_append_right _ _))
theorem found_at {lt : It → It → Bool} (o : Swo lt) {its : List It} {x : It} (ha : Asc lt its) {i : Nat} (hi : i < its.length) (h1 : lt x its[i] = false) (h2 : lt its[i] x = false) : pos lt its x = i ∧ (lget lt its x).isSome = true := by
  have hs : ∀ i j (hi : i < its.length) (hj : j < its.length), i < j → lt its[i] its[j] = true := fun i j hi hj hij => List.pairwise_iff_getElem.1 ha i j hi hj hij
  have e : pos lt its x = i := pos_uni (by omega) (fun j hj hjl => o.tr1 (hs j i hj hi hjl) h1) (fun _ => h2)
  refine ⟨e, ?_⟩
  unfold lget; rw [e, List.getElem?_eq_getElem hi, Option.bind_some, h1]; rfl
theorem notfound_at {lt : It → It → Bool} (o : Swo lt) {its : List It} {x : It} (ha : Asc lt its) {i : Nat} (hi : i ≤ its.length) (h1 : ∀ (h : i < its.length), lt x its[i] = true) (h2 : ∀ (h : i - 1 < its.length), 0 < i → lt its[i - 1] x = true) : pos lt its x = i ∧ (lget lt its x).isSome = false := by
  have hs : ∀ i j (hi : i < its.length) (hj : j < its.length), i < j → lt its[i] its[j] = true := fun i j hi hj hij => List.pairwise_iff_getElem.1 ha i j hi hj hij
  have e : pos lt its x = i := by
    refine pos_uni hi (fun j hj hjl => ?_) (fun hl => o.asym (h1 hl))
    rcases Nat.lt_or_ge j (i - 1) with hl | hl
    · exact o.tr _ _ _ (hs j (i - 1) hj (by omega) hl) (h2 (by omega) (by omega))
    · have : j = i - 1 := by omega
      subst this; exact h2 hj (by omega)
  refine ⟨e, ?_⟩
  unfold lget; rw [e]
  rcases Nat.lt_or_ge i its.length with hl | hl
  · rw [List.getElem?_eq_getElem hl, Option.bind_some, h1 hl]; rfl
  · rw [List.getElem?_eq_none hl]; rfl
end Go.Proofs.Ytljecmjdmdjldaa.Gi
end
section
namespace Go.Proofs.Ytljecmjdmdjldaa.Gi
open Go.Hp Go.Proofs.Ytljecmjdmdjldaa
variable {h0 h : Heap} {Z E : List Rg} {Q : Value → Heap → Prop} {lt : It → It → Bool} {lf : Value}
theorem bsearch_ok (o : Swo lt) (hO : OrdC Z lf lt) {tb n : Nat} {iv : Value} {its : List It} {x : It} (s : St h0 Z E h) (hlf : cl h tb 6 = some lf) (hn : cl h n 2 = some iv) (hr : Rdl 2 h iv its.length (its.flatMap enc)) (ha : Asc lt its) (hb : its.length ≤ 4611686018427387903)
    (H : ∀ E' h', St h [] E' h' → Q (.tuple #[.int .i64 (pos lt its x), .bool (lget lt its x).isSome]) h') : BTreeG_I_bsearch.call #[ptr tb 0, ptr n 0, av x] h Q := by
  have hs : ∀ i j (hi : i < its.length) (hj : j < its.length), i < j → lt its[i] its[j] = true := fun i j hi hj hij => List.pairwise_iff_getElem.1 ha i j hi hj hij
  refine BTreeG_I_bsearch.body _ _ _ _ _ ?_; unfold BTreeG_I_bsearch.sh
  have u := St.start h
  refine St.r_box (cs := enc x) u fun t5 h1 u => ?_; refine r_nil ?_; refine r_fld ?_; refine u.r_loadB hn ?_; refine hr.lenV ?_
  refine loop_intro (fun st h' => ∃ (lo hi : Nat) (R : List Rg), st = [.int .i64 lo, .int .i64 hi] ∧ lo ≤ hi ∧ hi ≤ its.length ∧ (∀ i (hi' : i < its.length), i < lo → lt x its[i] = false) ∧ (∀ i (hi' : i < its.length), hi ≤ i → lt x its[i] = true) ∧ St h [] ((t5, 0, enc x) :: R) h')
    (fun st _ => (Hp.iv (st.getD 1 undef) - Hp.iv (st.getD 0 undef)).toNat) ⟨0, its.length, [], rfl, by omega, by omega, fun i hi hl => by omega, fun i h1 h2 => by omega, u⟩ ?_
  clear u
  rintro st h1 ⟨lo, hi, R, rfl, h1', h2, h3, h4, u⟩
  unfold BTreeG_I_bsearch.l3.b; refine r_cmpI ?_; refine r_if (fun hlt => ?_) (fun hge => ?_)
  · have hlt : lo < hi := by simpa using hlt
    have hm : (lo + hi) / 2 < its.length := by omega
    unfold BTreeG_I_bsearch.j4; refine r_add (z := ((lo + hi : Nat) : Int)) (by rw [i64w (by omega) (by omega)]; omega) ?_; refine r_cvI (z := ((lo + hi : Nat) : Int)) (u64w (by omega) (by omega)) ?_; refine r_shr (z := (((lo + hi) / 2 : Nat) : Int)) (by decide) (by show (((lo + hi : Nat) : Int)).fdiv 2 = _; rw [Int.fdiv_eq_ediv_of_nonneg _ (by decide)]; omega) ?_; refine r_cvI (z := (((lo + hi) / 2 : Nat) : Int)) (i64w (by omega) (by omega)) ?_; refine r_nil ?_; refine r_fld ?_; refine u.r_loadB hlf ?_; refine St.r_loadN0 u 0 rfl (by simp) ?_; refine r_nil ?_; refine r_fld ?_; refine u.r_loadB hn ?_; refine hr.at (n := (lo + hi) / 2) (f := enc) rfl encl rfl rfl hm fun b ob hbb => ?_; refine (hbb.st u).loadN rfl ?_; refine hO.call (s.join u) (a := x) (b := its[(lo + hi) / 2]) fun E2 h2' u2 => ?_
    have u := (u.join u2).perm List.perm_append_comm
    refine r_not ?_; refine r_if (fun hc => ?_) (fun hc => ?_)
    · have hc : lt x its[(lo + hi) / 2] = false := by simpa using hc
      refine r_add (z := (((lo + hi) / 2 + 1 : Nat) : Int)) (by rw [i64w (by omega) (by omega)]; omega) ?_; refine ⟨⟨(lo + hi) / 2 + 1, hi, _, rfl, by omega, h2, fun i hi' hl => ?_, h4, u⟩, by simp; omega⟩
      rcases Nat.lt_or_ge i ((lo + hi) / 2) with hl | hl
      · cases e : lt x its[i] with
        | false => rfl
        | true => have := o.tr _ _ _ e (hs i _ hi' hm hl); rw [hc] at this; cases this
      · have : i = (lo + hi) / 2 := by omega
        subst this; exact hc
    · have hc : lt x its[(lo + hi) / 2] = true := by simpa using hc
      refine ⟨⟨lo, (lo + hi) / 2, _, rfl, by omega, by omega, h3, fun i hi1 hi2 => ?_, u⟩, by simp; omega⟩
      rcases Nat.lt_or_ge ((lo + hi) / 2) i with hl | hl
      · exact o.tr _ _ _ hc (hs _ i hm hi1 hl)
      · have : i = (lo + hi) / 2 := by omega
        subst this; exact hc
  · have hge : lo = hi := by simp at hge; omega
    subst hge
    have no : ∀ {h' : Heap} {R : List Rg}, St h [] R h' → (∀ hp : lo - 1 < its.length, 0 < lo → lt its[lo - 1] x = true) → BTreeG_I_bsearch.j2 (.int .i64 lo) h' Q := fun u h5 => by
      obtain ⟨e1, e2⟩ := notfound_at o (x := x) ha h2 (fun hl => h4 lo hl (Nat.le_refl _)) h5
      have := H _ _ u
      rw [e1, e2] at this; exact this
    unfold BTreeG_I_bsearch.j1; refine r_cmpI ?_; refine r_br (fun hpos => ?_) (fun hz => ?_)
    · have hpos : 0 < lo := by simpa using hpos
      have hm : lo - 1 < its.length := by omega
      refine r_nil ?_; refine r_fld ?_; refine u.r_loadB hlf ?_; refine r_nil ?_; refine r_fld ?_; refine u.r_loadB hn ?_; refine r_sub1 (by omega) (by omega) ?_; refine hr.at (n := lo - 1) (f := enc) rfl encl rfl rfl hm fun b ob hbb => ?_; refine (hbb.st u).loadN rfl ?_; refine St.r_loadN0 u 0 rfl (by simp) ?_; refine hO.call (s.join u) (a := its[lo - 1]) (b := x) fun E2 h2' u2 => ?_
      have u := (u.join u2).perm List.perm_append_comm
      refine r_not ?_; refine r_if (fun hc => ?_) (fun hc => ?_)
      · have hc : lt its[lo - 1] x = false := by simpa using hc
        refine r_sub1 (by omega) (by omega) ?_; obtain ⟨e1, e2⟩ := found_at o ha hm (h3 _ hm (by omega)) hc
        have := H _ _ u
        rw [e1, e2] at this; exact this
      · exact no u (fun _ _ => by simpa using hc)
    · exact no u (fun _ e => by simp at hz; omega)
theorem node_leaf_ok {n : Nat} {a : Option Addr} (hn : cl h n 3 = some (.pointer a)) (H : Q (.bool a.isNone) h) : node_I_leaf.call #[ptr n 0] h Q := by
  refine node_I_leaf.body _ _ _ ?_; unfold node_I_leaf.sh
  have s := St.start h
  refine r_nil ?_; refine r_fld ?_; refine s.r_loadB hn ?_; refine r_eqNilP ?_; exact H
theorem Less_ok (hO : OrdC Z lf lt) {tb : Nat} {a b : It} (s : St h0 Z E h) (hlf : cl h tb 6 = some lf) (H : ∀ E' h', St h [] E' h' → Q (.bool (lt a b)) h') : BTreeG_I_Less.call #[ptr tb 0, av a, av b] h Q := by
  refine BTreeG_I_Less.body _ _ _ _ _ ?_; unfold BTreeG_I_Less.sh
  have u := St.start h
  refine St.r_box (cs := enc a) u fun t4 h1 u => ?_; refine St.r_box (cs := enc b) u fun t5 h1 u => ?_; refine r_nil ?_; refine r_fld ?_; refine u.r_loadB hlf ?_; refine St.r_loadN0 u 1 rfl (by simp) ?_; refine St.r_loadN0 u 0 rfl (by simp) ?_; refine hO.call (s.join u) fun E2 h2 u2 => ?_; exact H _ _ (u.join u2)
section
variable {tb n hb dp : Nat} {iv : Value} {its : List It} {x : It} {a : Option Addr}
theorem hint_end {hc : List Value} {i : Int} {f : Bool} (hh : HintC hc) (hd : dp ≤ 4611686018427387903) (s : St h0 Z ((hb, 0, hc) :: E) h) {c0 c1 c2 : Value} (hl : (n, 0, [c0, c1, c2, .pointer a]) ∈ E ++ Z) (hi : 0 ≤ i) (hi2 : i ≤ 4611686018427387903)
    (H : ∀ hc' h', HintC hc' → St h0 Z ((hb, 0, hc') :: E) h' → Q (.tuple #[.int .i64 i, .bool f]) h') : BTreeG_I_hintsearch.j1 (ptr n 0) (ptr hb 0) (.int .i64 dp) (.int .i64 i) (.bool f) h Q := by
  unfold BTreeG_I_hintsearch.j1
  have e2 : ∀ {hc' : List Value} {h' : Heap}, HintC hc' → St h0 Z ((hb, 0, hc') :: E) h' → BTreeG_I_hintsearch.j2 (.int .i64 i) (.bool f) h' Q := fun h1 s => H _ _ h1 s
  refine r_cmpI ?_; refine r_if (fun hlt => ?_) (fun _ => e2 hh s)
  have hlt : dp < 8 := by have := of_decide_eq_true hlt; omega
  have e3 : ∀ {hc' : List Value} {h' : Heap} (p : Int), HintC hc' → St h0 Z ((hb, 0, hc') :: E) h' → BTreeG_I_hintsearch.j3 (ptr hb 0) (.int .i64 dp) (.int .i64 i) (.bool f) (.int .u8 (IntKind.wrap .u8 p)) h' Q := fun {hc'} {h'} p hh s => by
    unfold BTreeG_I_hintsearch.j3; obtain ⟨q, hq, _, _⟩ := hh.path hlt
    have hlen := hh.len
    refine r_nil ?_; refine r_fld ?_; refine r_idxA dp (8 + dp) rfl hlt (by omega) ?_; refine St.r_load0 s 0 rfl hq ?_; refine r_cmpI ?_; refine r_if (fun _ => ?_) (fun _ => e2 hh s)
    refine r_nil ?_; refine r_fld ?_; refine r_idxA dp (8 + dp) rfl hlt (by omega) ?_; refine St.r_store0 s 0 rfl (by omega) rfl ?_; intro h' s
    have hh := hh.setP hlt (u8w p).1 (u8w p).2
    have s : St h0 Z ((hb, 0, hc'.set (8 + dp) (.int .u8 (IntKind.wrap .u8 p))) :: E) h' := s
    refine r_add1 (by omega) ?_; refine loop_intro (fun st h => ∃ (j : Nat) (hc : List Value), st = [.int .i64 j] ∧ j ≤ 8 ∧ HintC hc ∧ St h0 Z ((hb, 0, hc) :: E) h) (fun st _ => 8 - (Hp.iv (st.getD 0 undef)).toNat) ⟨dp + 1, _, rfl, by omega, hh, s⟩ ?_; clear hh s
    rintro st h ⟨j, hc, rfl, hj, hh, s⟩
    unfold BTreeG_I_hintsearch.l4.b
    have hlen := hh.len
    refine r_cmpI ?_; refine r_if (fun hl => ?_) (fun _ => e2 hh s)
    have hl : j < 8 := by have := of_decide_eq_true hl; omega
    unfold BTreeG_I_hintsearch.j5; refine r_nil ?_; refine r_fld ?_; refine r_idxA j j rfl hl (by omega) ?_; refine St.r_store0 s 0 rfl (by omega) rfl ?_; intro h s
    unfold BTreeG_I_hintsearch.j6; refine r_add1 (by omega) ?_; exact ⟨⟨j + 1, _, rfl, by omega, hh.setU hl false, s⟩, by simp; omega⟩
  have hlen := hh.len
  refine r_nil ?_; refine r_fld ?_; refine r_idxA dp dp rfl hlt (by omega) ?_; refine St.r_store0 s 0 rfl (by omega) rfl ?_; intro h1 s1
  have hh1 := hh.setU hlt true
  have s1 : St h0 Z ((hb, 0, hc.set dp (.bool true)) :: E) h1 := s1
  have hl1 : cl h1 n 3 = some (.pointer a) := by
    have := s1.getM (j := 3) (List.mem_cons_of_mem _ hl) (by simp); simpa using this
  refine node_leaf_ok hl1 ?_; refine r_br (fun _ => ?_) (fun _ => ?_)
  · refine r_if (fun _ => ?_) (fun _ => ?_)
    · refine r_add (z := i + 1) (i64w (by omega) (by omega)) ?_
      exact r_cvI rfl (e3 _ hh1 s1)
    · exact r_cvI rfl (e3 _ hh1 s1)
  · exact r_cvI rfl (e3 _ hh1 s1)
theorem hint_mid (o : Swo lt) (hO : OrdC Z lf lt) {b : Heap} {R : List Rg} {t7 lo : Nat} {hi : Int} {hc : List Value} (hh : HintC hc) (hd : dp ≤ 4611686018427387903) (s : St h0 Z ((hb, 0, hc) :: E) b) (hlf : cl b tb 6 = some lf) {c0 c1 : Value} (hl : (n, 0, [c0, c1, iv, .pointer a]) ∈ E ++ Z) (hr : Rdl 2 b iv its.length (its.flatMap enc)) (ha : Asc lt its) (hb2 : its.length ≤ 4611686018427387903)
    (u : St b [] ((t7, 0, enc x) :: R) h) (h1 : (lo : Int) ≤ hi + 1) (h2 : hi < its.length) (h3 : ∀ i (hi' : i < its.length), i < lo → lt x its[i] = false) (h4 : ∀ i (hi' : i < its.length), hi < i → lt x its[i] = true)
    (H : ∀ hc' h', HintC hc' → St h0 Z ((hb, 0, hc') :: E) h' → Q (.tuple #[.int .i64 (pos lt its x), .bool (lget lt its x).isSome]) h') : BTreeG_I_hintsearch.j7 (ptr tb 0) (ptr n 0) (ptr hb 0) (.int .i64 dp) (ptr t7 0) (.int .i64 lo) (.int .i64 hi) h Q := by
  have hs : ∀ i j (hi : i < its.length) (hj : j < its.length), i < j → lt its[i] its[j] = true := fun i j hi hj hij => List.pairwise_iff_getElem.1 ha i j hi hj hij
  have hn : cl b n 2 = some iv := by
    have := s.getM (j := 2) (List.mem_cons_of_mem _ hl) (by simp); simpa using this
  have fin : ∀ {R : List Rg} {h' : Heap} {i : Nat} {f : Bool}, St b [] ((t7, 0, enc x) :: R) h' → pos lt its x = i → (lget lt its x).isSome = f → BTreeG_I_hintsearch.j1 (ptr n 0) (ptr hb 0) (.int .i64 dp) (.int .i64 i) (.bool f) h' Q := fun {R} {h'} {i} {f} u e1 e2 => by
    have hpl := pos_le (lt := lt) its x
    have s1 : St h0 Z ((hb, 0, hc) :: (((t7, 0, enc x) :: R) ++ E)) h' := (s.join u).perm (by ((apply perm_rg; intro f; simp only [set_cons_zero, set_cons_succ, eraseIdx_cons_zero, eraseIdx_cons_succ, cons_append, nil_append, map_append, map_cons, map_nil, List.sum_append, List.sum_cons, List.sum_nil, map_flatMap, Nat.add_zero, Nat.zero_add]; ac_rfl)))
    refine hint_end hh hd s1 (c0 := c0) (c1 := c1) (c2 := iv) (a := a) ?_ (by omega) (by omega) fun hc' h' hh' s' => ?_
    · rw [List.append_assoc]; exact List.mem_append_right _ hl
    · have := H hc' h' hh' s'.dropMid
      rw [e1, e2] at this; exact this
  unfold BTreeG_I_hintsearch.j7
  refine loop_intro (fun st h' => ∃ (lo : Nat) (hi : Int) (R : List Rg), st = [.int .i64 lo, .int .i64 hi] ∧ (lo : Int) ≤ hi + 1 ∧ hi < its.length ∧ (∀ i (hi' : i < its.length), i < lo → lt x its[i] = false) ∧ (∀ i (hi' : i < its.length), hi < i → lt x its[i] = true) ∧ St b [] ((t7, 0, enc x) :: R) h')
    (fun st _ => (Hp.iv (st.getD 1 undef) + 1 - Hp.iv (st.getD 0 undef)).toNat) ⟨lo, hi, R, rfl, h1, h2, h3, h4, u⟩ ?_
  clear u h1 h2 h3 h4
  rintro st h1 ⟨lo, hi, R, rfl, h1', h2, h3, h4, u⟩
  unfold BTreeG_I_hintsearch.l9.b; refine r_cmpI ?_; refine r_if (fun hlt => ?_) (fun hge => ?_)
  · have hlt : (lo : Int) ≤ hi := of_decide_eq_true hlt
    obtain ⟨hi, rfl⟩ : ∃ k : Nat, hi = k := ⟨hi.toNat, by omega⟩
    have hlt : lo ≤ hi := by omega
    have hm : lo + (hi + 1 - lo) / 2 < its.length := by omega
    unfold BTreeG_I_hintsearch.j10; refine r_add1 (by omega) ?_; refine r_sub (z := ((hi + 1 - lo : Nat) : Int)) (by rw [i64w (by omega) (by omega)]; omega) ?_; refine r_div2 (by omega) ?_; refine r_add (z := ((lo + (hi + 1 - lo) / 2 : Nat) : Int)) (by rw [i64w (by omega) (by omega)]; omega) ?_
    generalize hmid : lo + (hi + 1 - lo) / 2 = mid at hm ⊢
    refine St.r_loadN0 u 0 rfl (by simp) ?_; refine r_nil ?_; refine r_fld ?_; refine u.r_loadB hn ?_; refine hr.at (n := mid) (f := enc) rfl encl rfl rfl hm fun bb ob hbb => ?_; refine (hbb.st u).loadN rfl ?_
    have hlf1 := u.base hlf
    refine Less_ok hO (a := x) (b := its[mid]) (s.join u) hlf1 fun E2 h2' u2 => ?_
    have u := (u.join u2).perm List.perm_append_comm
    refine r_not ?_; refine r_if (fun hc => ?_) (fun hc => ?_)
    · have hc : lt x its[mid] = false := by simpa using hc
      refine r_add1 (by omega) ?_; refine ⟨⟨mid + 1, hi, _, rfl, by omega, h2, fun i hi' hl => ?_, h4, u⟩, by simp; omega⟩
      rcases Nat.lt_or_ge i mid with hl | hl
      · cases e : lt x its[i] with
        | false => rfl
        | true => have := o.tr _ _ _ e (hs i _ hi' hm hl); rw [hc] at this; cases this
      · have : i = mid := by omega
        subst this; exact hc
    · have hc : lt x its[mid] = true := by simpa using hc
      refine r_sub (z := (mid : Int) - 1) (i64w (by omega) (by omega)) ?_; refine ⟨⟨lo, (mid : Int) - 1, _, rfl, by omega, by omega, h3, fun i hi1 hi2 => ?_, u⟩, by simp; omega⟩
      rcases Nat.lt_or_ge mid i with hl | hl
      · exact o.tr _ _ _ hc (hs _ i hm hi1 hl)
      · have : i = mid := by omega
        subst this; exact hc
  · have hge : hi = (lo : Int) - 1 := by
      have : ¬ ((lo : Int) ≤ hi) := of_decide_eq_false hge
      omega
    subst hge
    have no : ∀ {R : List Rg} {h' : Heap}, St b [] ((t7, 0, enc x) :: R) h' → (∀ hp : lo - 1 < its.length, 0 < lo → lt its[lo - 1] x = true) → BTreeG_I_hintsearch.j1 (ptr n 0) (ptr hb 0) (.int .i64 dp) (.int .i64 lo) (.bool false) h' Q := fun u h5 => by
      obtain ⟨e1, e2⟩ := notfound_at o (x := x) ha (by omega) (fun hl => h4 lo hl (by omega)) h5; exact fin u e1 e2
    unfold BTreeG_I_hintsearch.j8; refine r_cmpI ?_; refine r_br (fun hpos => ?_) (fun hz => ?_)
    · have hpos : 0 < lo := by simpa using hpos
      have hm : lo - 1 < its.length := by omega
      refine r_nil ?_; refine r_fld ?_; refine u.r_loadB hn ?_; refine r_sub1 (by omega) (by omega) ?_; refine hr.at (n := lo - 1) (f := enc) rfl encl rfl rfl hm fun bb ob hbb => ?_; refine (hbb.st u).loadN rfl ?_; refine St.r_loadN0 u 0 rfl (by simp) ?_
      have hlf1 := u.base hlf
      refine Less_ok hO (a := its[lo - 1]) (b := x) (s.join u) hlf1 fun E2 h2' u2 => ?_
      have u := (u.join u2).perm List.perm_append_comm
      refine r_not ?_; refine r_if (fun hc => ?_) (fun hc => ?_)
      · have hc : lt its[lo - 1] x = false := by simpa using hc
        refine r_sub1 (by omega) (by omega) ?_; obtain ⟨e1, e2⟩ := found_at o ha hm (h3 _ hm (by omega)) hc; exact fin u e1 e2
      · exact no u (fun _ _ => by simpa using hc)
    · exact no u (fun _ e => by simp at hz; omega)
theorem hintsearch_ok (o : Swo lt) (hO : OrdC Z lf lt) {hc : List Value} (hh : HintC hc) (hd : dp ≤ 4611686018427387903) (s : St h0 Z ((hb, 0, hc) :: E) h) (hlf : cl h tb 6 = some lf) {c0 c1 : Value} (hl : (n, 0, [c0, c1, iv, .pointer a]) ∈ E ++ Z) (hr : Rdl 2 h iv its.length (its.flatMap enc)) (ha : Asc lt its) (hb2 : its.length ≤ 4611686018427387903) (hne : 1 ≤ its.length)
    (H : ∀ hc' h', HintC hc' → St h0 Z ((hb, 0, hc') :: E) h' → Q (.tuple #[.int .i64 (pos lt its x), .bool (lget lt its x).isSome]) h') : BTreeG_I_hintsearch.call #[ptr tb 0, ptr n 0, av x, ptr hb 0, .int .i64 dp] h Q := by
  have hs : ∀ i j (hi : i < its.length) (hj : j < its.length), i < j → lt its[i] its[j] = true := fun i j hi hj hij => List.pairwise_iff_getElem.1 ha i j hi hj hij
  have hn : cl h n 2 = some iv := by
    have := s.getM (j := 2) (List.mem_cons_of_mem _ hl) (by simp); simpa using this
  have fin : ∀ {R : List Rg} {h' : Heap} {i : Nat} {f : Bool} {t7 : Nat}, St h [] ((t7, 0, enc x) :: R) h' → pos lt its x = i → (lget lt its x).isSome = f → BTreeG_I_hintsearch.j1 (ptr n 0) (ptr hb 0) (.int .i64 dp) (.int .i64 i) (.bool f) h' Q := fun {R} {h'} {i} {f} {t7} u e1 e2 => by
    have hpl := pos_le (lt := lt) its x
    have s1 : St h0 Z ((hb, 0, hc) :: (((t7, 0, enc x) :: R) ++ E)) h' := (s.join u).perm (by ((apply perm_rg; intro f; simp only [set_cons_zero, set_cons_succ, eraseIdx_cons_zero, eraseIdx_cons_succ, cons_append, nil_append, map_append, map_cons, map_nil, List.sum_append, List.sum_cons, List.sum_nil, map_flatMap, Nat.add_zero, Nat.zero_add]; ac_rfl)))
    refine hint_end hh hd s1 (c0 := c0) (c1 := c1) (c2 := iv) (a := a) ?_ (by omega) (by omega) fun hc' h' hh' s' => ?_
    · rw [List.append_assoc]; exact List.mem_append_right _ hl
    · have := H hc' h' hh' s'.dropMid
      rw [e1, e2] at this; exact this
  have mid : ∀ {R : List Rg} {h' : Heap} {t7 lo : Nat} {hi : Int}, St h [] ((t7, 0, enc x) :: R) h' → (lo : Int) ≤ hi + 1 → hi < its.length → (∀ i (hi' : i < its.length), i < lo → lt x its[i] = false) → (∀ i (hi' : i < its.length), hi < i → lt x its[i] = true) →
      BTreeG_I_hintsearch.j7 (ptr tb 0) (ptr n 0) (ptr hb 0) (.int .i64 dp) (ptr t7 0) (.int .i64 lo) (.int .i64 hi) h' Q := fun u h1 h2 h3 h4 => hint_mid o hO hh hd s hlf hl hr ha hb2 u h1 h2 h3 h4 H
  refine BTreeG_I_hintsearch.body _ _ _ _ _ _ _ ?_; unfold BTreeG_I_hintsearch.sh
  have u := St.start h
  refine St.r_box (cs := enc x) u fun t7 h1 u => ?_
  have hlen := hh.len
  have cold : BTreeG_I_hintsearch.j7 (ptr tb 0) (ptr n 0) (ptr hb 0) (.int .i64 dp) (ptr t7 0) (.int .i64 0) (.int .i64 ((its.length - 1 : Nat) : Int)) h1 Q := mid (lo := 0) u (by omega) (by omega) (fun i _ hi => absurd hi (Nat.not_lt_zero _)) (fun i hi hl => by omega)
  have sj : ∀ {R : List Rg} {h' : Heap}, St h [] R h' → St h0 Z ((hb, 0, hc) :: (R ++ E)) h' := fun u => (s.join u).perm (by ((apply perm_rg; intro f; simp only [set_cons_zero, set_cons_succ, eraseIdx_cons_zero, eraseIdx_cons_succ, cons_append, nil_append, map_append, map_cons, map_nil, List.sum_append, List.sum_cons, List.sum_nil, map_flatMap, Nat.add_zero, Nat.zero_add]; ac_rfl)))
  -- a place within the node
  have within : ∀ {R : List Rg} {h' : Heap} {i : Nat}, St h [] ((t7, 0, enc x) :: R) h' → i < its.length → BTreeG_I_hintsearch.j11 (ptr tb 0) (ptr n 0) (ptr hb 0) (.int .i64 dp) (ptr t7 0) (.int .i64 i) (.bool false) (.int .i64 0) (.int .i64 ((its.length - 1 : Nat) : Int)) h' Q := fun {R} {h'} {i} u hi => by
    unfold BTreeG_I_hintsearch.j11; refine St.r_loadN0 u 0 rfl (by simp) ?_; refine r_nil ?_; refine r_fld ?_; refine u.r_loadB hn ?_; refine hr.at (n := i) (f := enc) rfl encl rfl rfl hi fun bb ob hbb => ?_; refine (hbb.st u).loadN rfl ?_; refine Less_ok hO (a := x) (b := its[i]) (s.join u) (u.base hlf) fun E2 h2' u2 => ?_
    have u := (u.join u2).perm List.perm_append_comm
    refine r_if (fun hc => ?_) (fun hc => ?_)
    · refine r_cmpI ?_
      have back : ∀ {R : List Rg} {h' : Heap}, St h [] ((t7, 0, enc x) :: R) h' → (∀ hp : i - 1 < its.length, 0 < i → lt its[i - 1] x = true) → BTreeG_I_hintsearch.j1 (ptr n 0) (ptr hb 0) (.int .i64 dp) (.int .i64 i) (.bool false) h' Q := fun u h5 => by
        obtain ⟨e1, e2⟩ := notfound_at o (x := x) ha (Nat.le_of_lt hi) (fun _ => hc) h5; exact fin u e1 e2
      refine r_br (fun h0' => ?_) (fun h0' => ?_)
      · have hi0 : 0 < i := by
          have : ¬ ((i : Int) = 0) := by simpa using h0'
          omega
        refine r_nil ?_; refine r_fld ?_; refine u.r_loadB hn ?_; refine r_sub1 (by omega) (by omega) ?_; refine hr.at (n := i - 1) (f := enc) rfl encl rfl rfl (by omega) fun bb ob hbb => ?_; refine (hbb.st u).loadN rfl ?_; refine St.r_loadN0 u 0 rfl (by simp) ?_; refine Less_ok hO (a := its[i - 1]) (b := x) (s.join u) (u.base hlf) fun E2 h2' u2 => ?_
        have u := (u.join u2).perm List.perm_append_comm
        refine r_if (fun h5 => back u fun _ _ => h5) (fun h5 => ?_)
        unfold BTreeG_I_hintsearch.j12; refine r_sub1 (by omega) (by omega) ?_; refine mid (lo := 0) u (by omega) (by omega) (fun i _ hi => absurd hi (Nat.not_lt_zero _)) (fun j hj hl => ?_)
        rcases Nat.lt_or_ge i j with hl2 | hl2
        · exact o.tr _ _ _ hc (hs _ j hi hj hl2)
        · have : j = i := by omega
          subst this; exact hc
      · have hi0 : i = 0 := by
          have : (i : Int) = 0 := by simpa using h0'
          omega
        exact back u fun _ e => by omega
    · refine r_nil ?_
      refine r_fld ?_; refine u.r_loadB hn ?_; refine hr.at (n := i) (f := enc) rfl encl rfl rfl hi fun bb ob hbb => ?_; refine (hbb.st u).loadN rfl ?_; refine St.r_loadN0 u 0 rfl (by simp) ?_; refine Less_ok hO (a := its[i]) (b := x) (s.join u) (u.base hlf) fun E2 h2' u2 => ?_
      have u := (u.join u2).perm List.perm_append_comm
      refine r_if (fun h5 => ?_) (fun h5 => ?_)
      · refine r_add1 (by omega) ?_
        refine mid (lo := i + 1) u (by omega) (by omega) (fun j hj hl => ?_) (fun j hj hl => by omega)
        exact o.asym (o.tr2 (lt := lt) (a := its[j]) (b := its[i]) (c := x) (by
          rcases Nat.lt_or_ge j i with hl2 | hl2
          · exact o.asym (hs j i hj hi hl2)
          · have : j = i := by omega
            subst this; exact o.irr _) h5)
      · obtain ⟨e1, e2⟩ := found_at o ha hi hc h5
        exact fin u e1 e2
  refine r_nil ?_; refine r_fld ?_; refine u.r_loadB hn ?_; refine hr.lenV ?_; refine r_sub1 (by omega) (by omega) ?_; refine r_cmpI ?_; refine r_br (fun hlt => ?_) (fun _ => cold)
  have hlt : dp < 8 := by have := of_decide_eq_true hlt; omega
  obtain ⟨b, hb'⟩ := hh.used hlt; obtain ⟨p, hp, hp0, hp1⟩ := hh.path hlt; obtain ⟨p, rfl⟩ : ∃ k : Nat, p = k := ⟨p.toNat, by omega⟩; refine r_nil ?_; refine r_fld ?_; refine r_idxA dp dp rfl hlt (by omega) ?_; refine St.r_load0 (sj u) 0 rfl hb' ?_; refine r_if (fun _ => ?_) (fun _ => cold)
  refine r_nil ?_; refine r_fld ?_; refine r_idxA dp (8 + dp) rfl hlt (by omega) ?_; refine St.r_load0 (sj u) 0 rfl hp ?_; refine r_cvI (z := (p : Int)) (i64w (by omega) (by omega)) ?_; refine r_nil ?_; refine r_fld ?_; refine u.r_loadB hn ?_; refine hr.lenV ?_; refine r_cmpI ?_; refine r_if (fun hge => ?_) (fun hl2 => ?_)
  · refine r_nil ?_
    refine r_fld ?_; refine u.r_loadB hn ?_; refine r_nil ?_; refine r_fld ?_; refine u.r_loadB hn ?_; refine hr.lenV ?_; refine r_sub1 (by omega) (by omega) ?_; refine hr.at (n := its.length - 1) (f := enc) rfl encl rfl rfl (by omega) fun bb ob hbb => ?_; refine (hbb.st u).loadN rfl ?_; refine St.r_loadN0 u 0 rfl (by simp) ?_; refine Less_ok hO (a := its[its.length - 1]) (b := x) (s.join u) (u.base hlf) fun E2 h2' u2 => ?_
    have u := (u.join u2).perm List.perm_append_comm
    refine r_if (fun h5 => ?_) (fun h5 => ?_)
    · refine r_nil ?_
      refine r_fld ?_; refine u.r_loadB hn ?_; refine hr.lenV ?_; obtain ⟨e1, e2⟩ := notfound_at o (x := x) ha (Nat.le_refl _) (fun hl => absurd hl (Nat.lt_irrefl _)) (fun _ _ => h5); exact fin u e1 e2
    · unfold BTreeG_I_hintsearch.j13
      refine r_nil ?_; refine r_fld ?_; refine u.r_loadB hn ?_; refine hr.lenV ?_; refine r_sub1 (by omega) (by omega) ?_; exact within u (by omega)
  · have : p < its.length := by have := of_decide_eq_false hl2; omega
    exact within u this
end
theorem find_ok (o : Swo lt) (hO : OrdC Z lf lt) {hv : Value} {hb n tb dp : Nat} {hc : List Value} {its : List It} {x : It} {iv : Value} {a : Option Addr} (hh : Hn hv hb hc) (hd : dp ≤ 4611686018427387903) (s : St h0 Z ((hb, 0, hc) :: E) h) (hlf : cl h tb 6 = some lf) {c0 c1 : Value} (hl : (n, 0, [c0, c1, iv, .pointer a]) ∈ E ++ Z) (hr : Rdl 2 h iv its.length (its.flatMap enc)) (ha : Asc lt its) (hb2 : its.length ≤ 4611686018427387903) (hne : 1 ≤ its.length)
    (H : ∀ hc' h', Hn hv hb hc' → St h0 Z ((hb, 0, hc') :: E) h' → Q (.tuple #[.int .i64 (pos lt its x), .bool (lget lt its x).isSome]) h') : BTreeG_I_find.call #[ptr tb 0, ptr n 0, av x, hv, .int .i64 dp] h Q := by
  have hn : cl h n 2 = some iv := by
    have := s.getM (j := 2) (List.mem_cons_of_mem _ hl) (by simp); simpa using this
  refine BTreeG_I_find.body _ _ _ _ _ _ _ ?_; unfold BTreeG_I_find.sh
  have u := St.start h
  refine St.r_box (cs := enc x) u fun t7 h1 u => ?_
  rcases hh with ⟨rfl, rfl⟩ | ⟨rfl, hh⟩
  · refine r_eqNilP ?_
    refine r_if (fun _ => ?_) (fun e => absurd e (by simp))
    refine St.r_loadN0 u 0 rfl (by simp) ?_; refine bsearch_ok o hO (s.join u) (u.base hlf) (u.base hn) (hr.st u) ha hb2 fun E2 h2 u2 => ?_; refine r_ext rfl ?_; refine r_ext rfl ?_; exact H _ _ (.inl ⟨rfl, rfl⟩) (St.dropMid (A := E2 ++ [(t7, 0, enc x)]) ((s.join (u.join u2)).perm (by ((apply perm_rg; intro f; simp only [set_cons_zero, set_cons_succ, eraseIdx_cons_zero, eraseIdx_cons_succ, cons_append, nil_append, map_append, map_cons, map_nil, List.sum_append, List.sum_cons, List.sum_nil, map_flatMap, Nat.add_zero, Nat.zero_add]; ac_rfl)))))
  · refine r_eqNilP ?_
    refine r_if (fun e => absurd e (by simp)) (fun _ => ?_)
    unfold BTreeG_I_find.j1; refine St.r_loadN0 u 0 rfl (by simp) ?_; refine hintsearch_ok o hO hh hd (E := [(t7, 0, enc x)] ++ E) ((s.join u).perm (by ((apply perm_rg; intro f; simp only [set_cons_zero, set_cons_succ, eraseIdx_cons_zero, eraseIdx_cons_succ, cons_append, nil_append, map_append, map_cons, map_nil, List.sum_append, List.sum_cons, List.sum_nil, map_flatMap, Nat.add_zero, Nat.zero_add]; ac_rfl)))) (u.base hlf) (c0 := c0) (c1 := c1) (a := a) (by rw [List.append_assoc]; exact List.mem_append_right _ hl) (hr.st u) ha hb2 hne fun hc' h2 hh' s2 => ?_; refine r_ext rfl ?_; refine r_ext rfl ?_; exact H _ _ (.inr ⟨rfl, hh'⟩) (St.dropMid (A := [(t7, 0, enc x)]) s2)
end Go.Proofs.Ytljecmjdmdjldaa.Gi
end
section
namespace Go.Proofs.Ytljecmjdmdjldaa.Gi
open Go.Hp Go.Proofs.Ytljecmjdmdjldaa
variable {h0 h : Heap} {Z E : List Rg} {Q : Value → Heap → Prop} {lt : It → It → Bool} {lf : Value}
theorem isoLoad_ok {tb pb po n : Nat} {iso : Int} {m : Bool} (hi : cl h tb 0 = some (.int .u64 iso)) (hp : cl h pb po = some (ptr n 0)) (hn : m = true → cl h n 0 = some (.int .u64 iso)) (H : Q (ptr n 0) h) :
    BTreeG_I_isoLoad.call #[ptr tb 0, ptr pb po, .bool m] h Q := by
  refine BTreeG_I_isoLoad.body _ _ _ _ _ ?_; unfold BTreeG_I_isoLoad.sh
  have hj : BTreeG_I_isoLoad.j1 (ptr pb po) h Q := by
    unfold BTreeG_I_isoLoad.j1; refine r_nil ?_; exact r_ld hp H
  refine r_br (fun hm => ?_) (fun _ => hj)
  refine r_nil ?_; refine r_ld hp ?_; refine r_nil ?_; refine r_fld ?_; refine r_ld (hn hm) ?_; refine r_nil ?_; refine r_fld ?_; refine r_ld hi ?_; refine r_cmpI ?_; refine r_if (fun e => absurd e (by simp)) (fun _ => hj)
theorem newNode_leaf {tb : Nat} {iso : Int} (hi : cl h tb 0 = some (.int .u64 iso)) (H : ∀ n h', St h [] [(n, 0, [.int .u64 iso, .int .i64 0, .slice none 0 0, .pointer none])] h' → Q (ptr n 0) h') : BTreeG_I_newNode.call #[ptr tb 0, .bool true] h Q := by
  refine BTreeG_I_newNode.body _ _ _ _ ?_; unfold BTreeG_I_newNode.sh
  have s := St.start h
  refine r_nil ?_; refine r_fld ?_; refine s.r_loadB hi ?_
  ((apply r_build; ((simp only [fillV, fill1, Value.cells, zeros_succ, zeros_zero, size_toArray, length_cons, length_nil, length_append, take_succ_cons, take_zero, take_nil, drop_succ_cons, drop_zero, drop_nil, cons_append, nil_append, append_nil, Nat.reduceAdd, Nat.reduceMul, Nat.reduceLeDiff, Nat.reduceEqDiff, and_self, and_true, true_and, if_true, Nat.le_refl, Nat.zero_add, Nat.add_zero, Nat.zero_mul, reduceIte, if_false] <;> rfl))))
  refine St.r_box (cs := [.int .u64 iso, .int .i64 0, .slice none 0 0, .pointer none]) s fun n h s => ?_; refine r_not ?_; refine r_if (fun e => absurd e (by decide)) (fun _ => ?_)
  unfold BTreeG_I_newNode.j1; exact H n h s
theorem newNode_inner {tb : Nat} {iso : Int} (hi : cl h tb 0 = some (.int .u64 iso)) (H : ∀ n kb h', St h [] [(n, 0, [.int .u64 iso, .int .i64 0, .slice none 0 0, ptr kb 0]), (kb, 0, [.slice none 0 0])] h' → Q (ptr n 0) h') : BTreeG_I_newNode.call #[ptr tb 0, .bool false] h Q := by
  refine BTreeG_I_newNode.body _ _ _ _ ?_; unfold BTreeG_I_newNode.sh
  have s := St.start h
  refine r_nil ?_; refine r_fld ?_; refine s.r_loadB hi ?_
  ((apply r_build; ((simp only [fillV, fill1, Value.cells, zeros_succ, zeros_zero, size_toArray, length_cons, length_nil, length_append, take_succ_cons, take_zero, take_nil, drop_succ_cons, drop_zero, drop_nil, cons_append, nil_append, append_nil, Nat.reduceAdd, Nat.reduceMul, Nat.reduceLeDiff, Nat.reduceEqDiff, and_self, and_true, true_and, if_true, Nat.le_refl, Nat.zero_add, Nat.add_zero, Nat.zero_mul, reduceIte, if_false] <;> rfl))))
  refine St.r_box (cs := [.int .u64 iso, .int .i64 0, .slice none 0 0, .pointer none]) s fun n h s => ?_; refine r_not ?_; refine r_if (fun _ => ?_) (fun e => absurd e (by decide))
  refine s.r_alloc fun kb h s => ?_; refine r_nil ?_; refine r_fld ?_; refine St.r_store0 s 1 rfl (by simp) rfl ?_; intro h s
  unfold BTreeG_I_newNode.j1; exact H n kb h (s.perm (by ((apply perm_rg; intro f; simp only [set_cons_zero, set_cons_succ, eraseIdx_cons_zero, eraseIdx_cons_succ, cons_append, nil_append, map_append, map_cons, map_nil, List.sum_append, List.sum_cons, List.sum_nil, map_flatMap, Nat.add_zero, Nat.zero_add]; ac_rfl))))
theorem updateCount_leaf {n b o len : Nat} {c1 c2 iv : Value} {xs sp : List Value} (s : St h0 Z ((n, 0, [c1, c2, iv, .pointer none]) :: E) h) (w : Own 2 iv len b o xs sp)
    (H : ∀ h', St h0 Z ((n, 0, [c1, .int .i64 len, iv, .pointer none]) :: E) h' → Q (.tuple #[]) h') : node_I_updateCount.call #[ptr n 0] h Q := by
  refine node_I_updateCount.body _ _ _ ?_; unfold node_I_updateCount.sh; refine r_nil ?_; refine r_fld ?_; refine St.r_load0 s 0 rfl rfl ?_; refine w.lenV ?_; refine r_nil ?_; refine r_fld ?_; refine St.r_store0 s 0 rfl (by simp) rfl ?_; intro h s
  try simp only [List.set_cons_zero, List.set_cons_succ] at s
  refine node_leaf_ok (a := none) (s.get (k := 0) (j := 3) rfl (by simp)) ?_; refine r_not ?_; refine r_if (fun e => absurd e (by decide)) (fun _ => ?_)
  exact H _ s
theorem updateCount_inner {n kb b o rb ro len : Nat} {c1 c2 iv kv : Value} {xs sp ksp : List Value} {ids : List Nat} {c : Nat → Int} (s : St h0 Z ((n, 0, [c1, c2, iv, ptr kb 0]) :: (kb, 0, [kv]) :: (rb, ro, (ids.map fun m => ptr m 0) ++ ksp) :: E) h)
    (w : Own 2 iv len b o xs sp) (wkid : Own 1 kv ids.length rb ro (ids.map fun m => ptr m 0) ksp) (hids : ids.length ≤ 4294967296)
    (hc : ∀ j (hj : j < ids.length), ∃ a1 a2 a3, (ids[j], 0, [a1, .int .i64 (c j), a2, a3]) ∈ E ++ Z) (hb : ∀ j, j ≤ ids.length → 0 ≤ (len : Int) + ((List.range j).map c).sum ∧ (len : Int) + ((List.range j).map c).sum ≤ 9223372036854775807)
    (H : ∀ h', St h0 Z ((n, 0, [c1, .int .i64 ((len : Int) + ((List.range ids.length).map c).sum), iv, ptr kb 0]) :: (kb, 0, [kv]) :: (rb, ro, (ids.map fun m => ptr m 0) ++ ksp) :: E) h' → Q (.tuple #[]) h') : node_I_updateCount.call #[ptr n 0] h Q := by
  refine node_I_updateCount.body _ _ _ ?_; unfold node_I_updateCount.sh; refine r_nil ?_; refine r_fld ?_; refine St.r_load0 s 0 rfl rfl ?_; refine w.lenV ?_; refine r_nil ?_; refine r_fld ?_; refine St.r_store0 s 0 rfl (by simp) rfl ?_; intro h s
  try simp only [List.set_cons_zero, List.set_cons_succ] at s
  refine node_leaf_ok (a := some ⟨kb, 0, none⟩) (s.get (k := 0) (j := 3) rfl (by simp)) ?_; refine r_not ?_; refine r_if (fun _ => ?_) (fun e => absurd e (by simp))
  refine loop_intro (fun t h => ∃ j : Nat, t = [.int .i64 j] ∧ j ≤ ids.length ∧ St h0 Z ((n, 0, [c1, .int .i64 ((len : Int) + ((List.range j).map c).sum), iv, ptr kb 0]) :: (kb, 0, [kv]) :: (rb, ro, (ids.map fun m => ptr m 0) ++ ksp) :: E) h)
    (fun t _ => ids.length - (Hp.iv (t.getD 0 undef)).toNat) ⟨0, rfl, by omega, by simpa using s⟩ ?_
  rintro t h ⟨j, rfl, hj, s⟩
  unfold node_I_updateCount.l1.b; refine r_nil ?_; refine r_fld ?_; refine St.r_load0 s 0 rfl rfl ?_; refine r_nil ?_; refine St.r_load0 s 1 rfl rfl ?_; refine wkid.lenV ?_; refine r_cmpI ?_; refine r_if (fun hlt => ?_) (fun hge => ?_)
  · have hlt : j < ids.length := by simpa using hlt
    unfold node_I_updateCount.j2; refine r_nil ?_; refine r_fld ?_; refine St.r_load0 s 0 rfl rfl ?_; refine r_nil ?_; refine r_fld ?_; refine St.r_load0 s 0 rfl rfl ?_; refine r_nil ?_; refine St.r_load0 s 1 rfl rfl ?_; refine wkid.idx (n := j) rfl hlt ?_; refine s.r_load1 2 rfl (v := ptr ids[j] 0) (by rw [Nat.mul_one, List.getElem?_append_left (by simpa using hlt), List.getElem?_map, List.getElem?_eq_getElem hlt]; rfl) ?_; obtain ⟨a1, a2, a3, hm⟩ := hc j hlt; refine r_nil ?_; refine r_fld ?_; refine s.r_loadM (xs := [a1, .int .i64 (c j), a2, a3]) (by simp only [List.cons_append, List.mem_cons]; exact .inr (.inr (.inr hm))) rfl ?_; refine r_add (z := (len : Int) + ((List.range (j + 1)).map c).sum) ?_ ?_
    · have := hb (j + 1) hlt
      rw [List.range_succ, List.map_append, List.sum_append] at this ⊢
      simp only [List.map_cons, List.map_nil, List.sum_cons, List.sum_nil] at this ⊢
      rw [i64w (by omega) (by omega)]; omega
    · refine r_nil ?_
      refine r_fld ?_; refine St.r_store0 s 0 rfl (by simp) rfl ?_; intro h s
      try simp only [List.set_cons_zero, List.set_cons_succ] at s
      unfold node_I_updateCount.j3; refine r_add (z := ((j + 1 : Nat) : Int)) (by rw [i64w (by omega) (by omega)]; omega) ?_; exact ⟨⟨j + 1, rfl, hlt, s⟩, by simp; omega⟩
  · have hge : j = ids.length := by simp at hge; omega
    subst hge; exact H h s
structure Gd (iso : Int) {k : Nat} (t : GT It k) : Prop where
  wf : t.Wf enc 2 iso
  cn : t.Cn
  mine : t.Mine
theorem Gd.kid {iso : Int} {k : Nat} {t : GT It (k + 1)} (g : Gd iso t) {c : GT It k} (hc : c ∈ t.2) : Gd iso c := ⟨(g.wf.2.2.2 c hc).1, g.cn.2 c hc, g.mine.2 c hc⟩
abbrev fp (m : Nat) : List Value := [ptr m 0]
theorem fpl (m : Nat) : (fp m).length = 1 := rfl
theorem mfp (l : List Nat) : (l.map fun m => ptr m 0) = l.flatMap fp := List.map_eq_flatMap
theorem GT.topA : ∀ {k : Nat} {t : GT It k}, ∃ a1 a2 a3, (t.id, 0, [a1, .int .i64 t.nd.cnt, a2, a3]) ∈ t.all enc
  | 0, d => ⟨_, _, _, List.mem_cons_self ..⟩
  | _ + 1, t => ⟨_, _, _, List.mem_append.2 (.inl (List.mem_cons_self ..))⟩
theorem updateCount_kids {k : Nat} {ts : List (GT It k)} {n kb b o rb ro len : Nat} {c1 c2 iv kv : Value} {xs sp ksp : List Value}
    (s : St h0 Z ((n, 0, [c1, c2, iv, ptr kb 0]) :: (kb, 0, [kv]) :: (rb, ro, (ts.map GT.id).flatMap fp ++ ksp) :: E) h)
    (w : Own 2 iv len b o xs sp) (wK : Own 1 kv (ts.map GT.id).length rb ro ((ts.map GT.id).flatMap fp) ksp) (hm : ∀ t ∈ ts, t.Cn) (hE : ∀ t ∈ ts, ∀ r ∈ t.all enc, r ∈ E)
    (hl : ts.length ≤ 4294967296) (hsz : len + (ts.map fun t => t.pt.items.length).sum ≤ 4611686018427387904)
    (H : ∀ h', St h0 Z ((n, 0, [c1, .int .i64 ((len + (ts.map fun t => t.pt.items.length).sum : Nat) : Int), iv, ptr kb 0]) :: (kb, 0, [kv]) :: (rb, ro, (ts.map GT.id).flatMap fp ++ ksp) :: E) h' → Q (.tuple #[]) h') : node_I_updateCount.call #[ptr n 0] h Q := by
  have hmm : (ts.map fun t => t.pt.items).map List.length = ts.map fun t => t.pt.items.length := by rw [List.map_map]; rfl
  have hsum : ∀ i, i ≤ ts.length → ((List.range i).map fun j => (ts.map fun t => t.nd.cnt)[j]?.getD 0).sum = (((ts.map fun t => t.pt.items.length).take i).sum : Nat) := fun i hi => by
    rw [sum_range _ i (by simpa using hi), ← List.map_take, GT.Cn.sum (fun t ht => hm t (List.mem_of_mem_take ht)), List.map_map, ← List.map_take]; rfl
  rw [← mfp] at s wK; refine updateCount_inner (c := fun j => (ts.map fun t => t.nd.cnt)[j]?.getD 0) s w wK (by simp; omega) (fun i hi => ?_) (fun i hi => ?_) fun h s => ?_
  · have hi' : i < ts.length := by simpa using hi
    obtain ⟨a1, a2, a3, hmem⟩ := GT.topA (t := ts[i]); refine ⟨a1, a2, a3, ?_⟩
    simp only [List.getElem_map, List.getElem?_map, List.getElem?_eq_getElem hi', Option.map_some, Option.getD_some]
    exact List.mem_append.2 (.inl (hE _ (List.getElem_mem hi') _ hmem))
  · rw [hsum i (by simpa using hi)]
    have := sum_take_le (ts.map fun t => t.pt.items.length) i
    omega
  · rw [show (ts.map GT.id).length = ts.length by simp, hsum _ (Nat.le_refl _), List.take_of_length_le (by simp)] at s
    rw [mfp] at s; exact H h (by rw [Int.natCast_add]; exact s)
end Go.Proofs.Ytljecmjdmdjldaa.Gi
end
section
namespace Go.Proofs.Ytljecmjdmdjldaa.Gi
open Go.Hp Go.Proofs.Ytljecmjdmdjldaa
variable {h0 h : Heap} {Z E : List Rg} {Q : Value → Heap → Prop} {lt : It → It → Bool} {lf : Value}
abbrev old (r : Option It) : Value := av (r.getD emp)
theorem snoc_enc (l : List It) (e : It) : l.flatMap enc ++ enc e = (l ++ [e]).flatMap enc := by rw [List.flatMap_append, List.flatMap_singleton]
theorem Gd.leaf {iso : Int} {d : Nd It} (w : Own 2 d.iv d.its.length d.ib d.io (d.its.flatMap enc) d.isp) (ho : d.own = true) (hi : d.iso = iso) (hc : d.cnt = d.its.length) : Gd iso (k := 0) d := ⟨⟨w, by simp [ho, hi]⟩, hc, ho⟩
theorem Gd.inner {iso : Int} {k : Nat} {d : Nd It} {ts : List (GT It k)} (w : Own 2 d.iv d.its.length d.ib d.io (d.its.flatMap enc) d.isp) (ho : d.own = true) (hi : d.iso = iso) (wK : Own 1 d.kv ts.length d.krb d.kro ((ts.map GT.id).flatMap fp) d.ksp)
    (hl : ts.length = d.its.length + 1) (hk : ∀ c ∈ ts, Gd iso c) (hc : d.cnt = (GT.pt (h := k + 1) (d, ts)).items.length) : Gd iso (k := k + 1) (d, ts) :=
  ⟨⟨⟨w, by simp [ho, hi]⟩, by rw [mfp]; exact wK, hl, fun c hc => ⟨(hk c hc).wf, fun e => by rw [ho] at e; cases e⟩⟩, ⟨hc, fun c hc => (hk c hc).cn⟩, ⟨ho, fun c hc => (hk c hc).mine⟩⟩
end Go.Proofs.Ytljecmjdmdjldaa.Gi
end
section
namespace Go.Proofs.Ytljecmjdmdjldaa.Gi
open Go.Hp Go.Proofs.Ytljecmjdmdjldaa
variable {h0 h : Heap} {Z E : List Rg} {Q : Value → Heap → Prop} {lt : It → It → Bool} {lf : Value}
theorem flat_at3 {β : Type} (f : β → List Rg) {ts : List β} {i : Nat} {c : β} (hc : ts[i]? = some c) : ts.flatMap f = (ts.take i).flatMap f ++ (f c ++ (ts.drop (i + 1)).flatMap f) := by
  conv => lhs; rw [take_at hc, List.flatMap_append, List.flatMap_cons]
theorem set_ids {k : Nat} {ts : List (GT It k)} {i : Nat} {c c' : GT It k} (hc : ts[i]? = some c) (he : c'.id = c.id) : (ts.set i c').map GT.id = ts.map GT.id := by
  obtain ⟨hi, rfl⟩ := List.getElem?_eq_some_iff.1 hc; rw [List.map_set, he]
  apply List.ext_getElem?
  intro j; rw [List.getElem?_set]
  split
  · rename_i e; subst e
    simp [hi]
  · rfl
theorem lend_kidH {k : Nat} {ts : List (GT It k)} {i kb krb kro : Nat} {kv : Value} {ksp : List Value} {A : List Rg} {c : GT It k} {r : Rg} (hc : ts[i]? = some c)
    (s : St h0 Z (r :: (A ++ ((krb, kro, (ts.map GT.id).flatMap fp ++ ksp) :: (ts.flatMap (GT.all enc) ++ E)))) h) :
    ∃ E', St h0 Z ((krb, kro + i * 1, [ptr c.id 0]) :: r :: (c.all enc ++ E')) h ∧ ∀ (c' : GT It k) (r' : Rg) h', c'.id = c.id → St h0 Z ((krb, kro + i * 1, [ptr c.id 0]) :: r' :: (c'.all enc ++ E')) h' →
      St h0 Z (r' :: (A ++ ((krb, kro, ((ts.set i c').map GT.id).flatMap fp ++ ksp) :: ((ts.set i c').flatMap (GT.all enc) ++ E)))) h' := by
  have hid : (ts.map GT.id)[i]? = some c.id := by rw [List.getElem?_map, hc]; rfl
  have s1 : St h0 Z ((krb, kro, (ts.map GT.id).flatMap fp ++ ksp) :: (r :: (A ++ (ts.flatMap (GT.all enc) ++ E)))) h := s.perm (by ((apply perm_rg; intro f; simp only [set_cons_zero, set_cons_succ, eraseIdx_cons_zero, eraseIdx_cons_succ, cons_append, nil_append, map_append, map_cons, map_nil, List.sum_append, List.sum_cons, List.sum_nil, map_flatMap, Nat.add_zero, Nat.zero_add]; ac_rfl)))
  have s2 := St.cut3 fpl s1 hid
  refine ⟨(krb, kro, ((ts.map GT.id).take i).flatMap fp) :: (krb, kro + (i + 1) * 1, ((ts.map GT.id).drop (i + 1)).flatMap fp ++ ksp) :: (A ++ ((ts.take i).flatMap (GT.all enc) ++ ((ts.drop (i + 1)).flatMap (GT.all enc) ++ E))), s2.perm ?_, fun c' r' h' he s' => ?_⟩
  · rw [flat_at3 (GT.all enc) hc]; ((apply perm_rg; intro f; simp only [set_cons_zero, set_cons_succ, eraseIdx_cons_zero, eraseIdx_cons_succ, cons_append, nil_append, map_append, map_cons, map_nil, List.sum_append, List.sum_cons, List.sum_nil, map_flatMap, Nat.add_zero, Nat.zero_add]; ac_rfl))
  · have hi := (List.getElem?_eq_some_iff.1 hc).1
    have hc' : (ts.set i c')[i]? = some c' := by rw [List.getElem?_set_self hi]
    rw [set_ids hc he, flat_at3 (GT.all enc) hc', List.take_set_of_le (Nat.le_refl _), List.drop_set_of_lt (by omega)]
    have s3 : St h0 Z ((krb, kro, ((ts.map GT.id).take i).flatMap fp) :: (krb, kro + (i + 1) * 1, ((ts.map GT.id).drop (i + 1)).flatMap fp ++ ksp) :: (krb, kro + i * 1, fp c.id) :: (r' :: (A ++ ((ts.take i).flatMap (GT.all enc) ++ (c'.all enc ++ ((ts.drop (i + 1)).flatMap (GT.all enc) ++ E)))))) h' := s'.perm (by ((apply perm_rg; intro f; simp only [set_cons_zero, set_cons_succ, eraseIdx_cons_zero, eraseIdx_cons_succ, cons_append, nil_append, map_append, map_cons, map_nil, List.sum_append, List.sum_cons, List.sum_nil, map_flatMap, Nat.add_zero, Nat.zero_add]; ac_rfl)))
    have s4 := St.glue3 fpl hid s3
    exact s4.perm (by ((apply perm_rg; intro f; simp only [set_cons_zero, set_cons_succ, eraseIdx_cons_zero, eraseIdx_cons_succ, cons_append, nil_append, map_append, map_cons, map_nil, List.sum_append, List.sum_cons, List.sum_nil, map_flatMap, Nat.add_zero, Nat.zero_add]; ac_rfl)))
theorem r_loadM1 {k : Nat} {ts : List (GT It k)} {K : Value → Prop} (s : St h0 Z E h) (j : Nat) {b o i : Nat} {sp : List Value} {c : GT It k} (hk : E[j]? = some (b, o, (ts.map GT.id).flatMap fp ++ sp)) (hc : ts[i]? = some c) (H : K (ptr c.id 0)) : load1 (ptr b (o + i * 1)) h K := by
  have := s.r_load1F (K := K) (r := 0) fpl j hk (show (ts.map GT.id)[i]? = some c.id by rw [List.getElem?_map, hc]; rfl) (v := ptr c.id 0) rfl H
  exact this
theorem Gd.setKid {iso : Int} {k : Nat} {d : Nd It} {ts : List (GT It k)} (g : Gd iso (k := k + 1) (d, ts)) {i : Nat} {c c' : GT It k} (hc : ts[i]? = some c) (he : c'.id = c.id) (g' : Gd iso c') {cnt : Int}
    (hcnt : cnt = (GT.pt (h := k + 1) (d, ts.set i c')).items.length) : Gd iso (k := k + 1) ({ d with cnt := cnt }, ts.set i c') := by
  have wK := g.wf.2.1
  refine Gd.inner g.wf.1.1 g.mine.1 (g.wf.1.2.1 g.mine.1) ?_ (by rw [List.length_set]; exact g.wf.2.2.1) (fun q hq => ?_) hcnt
  · rw [set_ids hc he, List.length_set, ← mfp]; exact wK
  · rcases List.mem_or_eq_of_mem_set hq with e | e
    · exact g.kid e
    · rw [e]; exact g'
end Go.Proofs.Ytljecmjdmdjldaa.Gi
end
section
namespace Go.Proofs.Ytljecmjdmdjldaa.Gi
open Go.Hp Go.Proofs.Ytljecmjdmdjldaa
variable {h0 h : Heap} {Z E : List Rg} {Q : Value → Heap → Prop} {lt : It → It → Bool} {lf : Value}
abbrev pp (m : Nat) : Value := ptr m 0
theorem fpv (l : List Nat) : l.flatMap fp = (l.map pp).flatMap fv := by rw [flat_fv]; exact List.map_eq_flatMap.symm
end Go.Proofs.Ytljecmjdmdjldaa.Gi
end
section
namespace Go.Proofs.Ytljecmjdmdjldaa.Gi
open Go.Hp Go.Proofs.Ytljecmjdmdjldaa
variable {h0 h : Heap} {Z E : List Rg} {Q : Value → Heap → Prop} {lt : It → It → Bool} {lf : Value}
abbrev Rt := Option ((k : Nat) × GT It k)
def rA : Rt → Option Addr
  | none => none
  | some t => some ⟨t.2.id, 0, none⟩
def rAll : Rt → List Rg
  | none => []
  | some t => t.2.all enc
def rPt : Rt → MT It
  | none => none
  | some t => some ⟨t.1, t.2.pt⟩
def rGd (iso : Int) : Rt → Prop
  | none => True
  | some t => Gd iso t.2
theorem PT.height_le {m : Nat} (hm : 3 ≤ m) : ∀ {k lo : Nat} {t : PT It k}, t.Fl m lo → 1 ≤ lo → k < t.items.length
  | 0, lo, t, f, hl => by have f : lo ≤ List.length (α := It) t := f.1; show 0 < List.length (α := It) t; omega
  | k + 1, lo, t, f, hl => by
    have h1 := f.1
    have h2 := f.2.2.1
    obtain ⟨c, r, e⟩ := head_of (l := t.2) (by omega)
    have hc := PT.height_le hm (f.2.2.2 c (by rw [e]; simp)) (by omega)
    have h3 : (inter t.1 (t.2.map PT.items)).length = _ := inter_length _ _
    show k + 1 < (inter t.1 (t.2.map PT.items)).length
    rw [h3, e]
    simp only [List.map_cons, List.sum_cons]
    omega
end Go.Proofs.Ytljecmjdmdjldaa.Gi
end
section
namespace Go.Proofs.Ytljecmjdmdjldaa.Gi
open Go.Hp Go.Proofs.Ytljecmjdmdjldaa
variable {h0 h : Heap} {Z E : List Rg} {Q : Value → Heap → Prop} {lt : It → It → Bool} {lf : Value}
/-! ### orders -/
abbrev fi (k : Int) : List Value := [.int .i64 k]
theorem fil (k : Int) : (fi k).length = 1 := rfl
def rnk (ow : List Int) (k : Int) : Int := if ow = [] then k else ow[(k % ow.length).toNat]?.getD 0
def ltO (ow : List Int) (a b : It) : Bool := decide (rnk ow a.1 < rnk ow b.1)
theorem swoO (ow : List Int) : Swo (ltO ow) where
  irr a := by simp [ltO]
  tr a b c h1 h2 := by simp only [ltO, decide_eq_true_eq] at *; omega
  ntr a b c h1 h2 := by simp only [ltO, decide_eq_false_iff_not, Int.not_lt] at *; omega
def OrdA (A : List Rg) (lf : Value) (lt : It → It → Bool) : Prop := ∀ Z, (∀ r, r ∈ A → r ∈ Z) → OrdC Z lf lt
theorem remainder_ok {k : Int} {n : Nat} (h1 : 1 ≤ n) (h2 : n ≤ 1152921504606846976) (H : Q (.int .i64 (k % n)) h) : i_remainder.call #[.int .i64 k, .int .i64 n] h Q := by
  refine i_remainder.body _ _ _ _ ?_; unfold i_remainder.sh
  have hn0 : (n : Int) ≠ 0 := by omega
  have hb1 : k.tmod n < n := Int.tmod_lt_of_pos k (by omega)
  have hb2 : -(n : Int) < k.tmod n := by
    have := Int.lt_tmod_of_pos k (show (0 : Int) < n by omega)
    omega
  refine ⟨.i64, _, _, rfl, rfl, hn0, ?_⟩
  refine r_add (z := k.tmod n + n) (i64w (by omega) (by omega)) ?_; refine ⟨.i64, _, _, rfl, rfl, hn0, ?_⟩
  have e : (k.tmod n + n).tmod n = k % n := by
    rw [Int.tmod_eq_emod_of_nonneg (by omega), Int.add_emod_right]
    have e1 := Int.mul_tdiv_add_tmod k n
    conv => rhs; rw [← e1, Int.add_comm, Int.add_mul_emod_self_left]
  rw [e]; exact H
theorem rank_ok {v : Value} {ow : List Int} {k : Int} (hr : Rdl 1 h v ow.length (ow.flatMap fi)) (hl : ow.length ≤ 1152921504606846976) (H : Q (.int .i64 (rnk ow k)) h) : i_rank.call #[v, .int .i64 k] h Q := by
  refine i_rank.body _ _ _ _ ?_; unfold i_rank.sh; refine hr.lenV ?_; refine r_cmpI ?_; refine r_if (fun e => ?_) (fun e => ?_)
  · have : ow = [] := by have : ow.length = 0 := by simpa using e
                         exact List.length_eq_zero_iff.1 this
    unfold rnk at H; rw [if_pos this] at H; exact H
  · have hne : ow ≠ [] := fun e2 => by subst e2; simp at e
    have hpos : 1 ≤ ow.length := by have := List.length_pos_iff.2 hne; omega
    unfold i_rank.j1; refine hr.lenV ?_; refine remainder_ok hpos hl ?_
    have hm0 : 0 ≤ k % (ow.length : Int) := Int.emod_nonneg _ (by omega)
    have hm1 : k % (ow.length : Int) < ow.length := Int.emod_lt_of_pos _ (by omega)
    have hlt : (k % (ow.length : Int)).toNat < ow.length := by generalize k % (ow.length : Int) = z at *; omega
    refine hr.at (n := (k % (ow.length : Int)).toNat) (f := fi) rfl fil (Int.toNat_of_nonneg hm0).symm rfl hlt fun b o hb => ?_; refine hb.load0 rfl ?_; unfold rnk at H; rw [if_neg hne, List.getElem?_eq_getElem hlt] at H; exact H
theorem Clone_ok {v : Value} {l : List Int} (hr : Rdl 1 h v l.length (l.flatMap fi)) (hl : l.length ≤ 2147483647)
    (H : ∀ v' b o sp E' h', Own 1 v' l.length b o (l.flatMap fi) sp → St h [] ((b, o, l.flatMap fi ++ sp) :: E') h' → Q v' h') : sl_Clone_inti.call #[v] h Q := by
  refine sl_Clone_inti.body _ _ _ ?_; unfold sl_Clone_inti.sh
  have s := St.start h
  have hr0 := hr
  obtain ⟨a, cap, e, _, hc, _⟩ := hr0; subst e; refine ⟨a, _, _, rfl, ?_⟩
  refine r_if (fun ha => ?_) (fun ha => ?_)
  · have : l = [] := by
      cases l with
      | nil => rfl
      | cons x r =>
        obtain ⟨b, o, e, _⟩ := hc (by simp); subst e; cases ha
    subst this; exact H _ 0 0 [] _ _ (Own.nil 1 0 0) (s.empty 0 0)
  · unfold sl_Clone_inti.j1
    refine St.r_mkSl (sz := 1) (cs := []) s (by ((simp only [fillV, fill1, Value.cells, zeros_succ, zeros_zero, size_toArray, length_cons, length_nil, length_append, take_succ_cons, take_zero, take_nil, drop_succ_cons, drop_zero, drop_nil, cons_append, nil_append, append_nil, Nat.reduceAdd, Nat.reduceMul, Nat.reduceLeDiff, Nat.reduceEqDiff, and_self, and_true, true_and, if_true, Nat.le_refl, Nat.zero_add, Nat.add_zero, Nat.zero_mul, reduceIte, if_false] <;> rfl))) rfl fun q h s wq => ?_; refine s.r_appL (f := fi) (L := []) (M := l) 0 rfl wq rfl (hr.st s) (fun _ _ => by simp [one1]) (by simp; omega) (by simp; omega) fun v' b' o' sp' h s w' => ?_; exact H _ _ _ _ _ _ w' s
theorem less_ok {cb : Nat} {v : Value} {ow : List Int} {a b : It} (s : St h0 Z E h) (hc : cl h cb 0 = some v) (hr : Rdl 1 h v ow.length (ow.flatMap fi)) (hl : ow.length ≤ 1152921504606846976) (H : ∀ E' h', St h [] E' h' → Q (.bool (ltO ow a b)) h') : i_before_c1.call #[av a, av b, ptr cb 0] h Q := by
  refine i_before_c1.body _ _ _ _ _ ?_; unfold i_before_c1.sh
  have u := St.start h
  refine St.r_box (cs := enc a) u fun t3 h1 u => ?_; refine St.r_box (cs := enc b) u fun t4 h1 u => ?_; refine u.r_loadB hc ?_; refine r_fld ?_; refine St.r_load0 u 1 rfl rfl ?_; refine u.r_loadB hc ?_; refine r_fld ?_; refine St.r_load0 u 0 rfl rfl ?_; refine rank_ok (hr.st u) hl ?_; refine ⟨⟨_, rfl, u.base hc⟩, St.r_still0 u 0 rfl rfl, ?_⟩
  refine rank_ok (hr.st u) hl ?_; refine r_cmpI ?_; exact H _ _ u
theorem before_ok {v : Value} {ow : List Int} (hr : Rdl 1 h v ow.length (ow.flatMap fi)) (hl : ow.length ≤ 2147483647)
    (H : ∀ lf A E' h', OrdA A lf (ltO ow) → St h [] (A ++ E') h' → Q lf h') : i_before.call #[v] h Q := by
  refine i_before.body _ _ _ ?_; unfold i_before.sh; refine Clone_ok hr hl fun v' b o sp E' h1 w s => ?_; refine s.r_alloc fun t3 h1 s => ?_; refine St.r_store0 s 0 rfl (by simp) w.one ?_; intro h1 s
  refine H _ [(t3, 0, [v']), (b, o, ow.flatMap fi ++ sp)] E' h1 (fun Z hz => ⟨rfl, rfl, fun {h0} {h} {E} {x} {y} {Q} s H => ?_⟩) s
  refine r_callV ⟨_, Try.func125, rfl, by kernel_rfl⟩ ?_; refine less_ok s (s.clz (hz _ (List.mem_cons_self ..)) 0 rfl rfl) (w.rdlZ s (hz _ (List.mem_cons_of_mem _ (List.mem_cons_self ..)))) (by omega) H
/-! ### trees -/
structure TreeOk (lt : It → It → Bool) (m : Nat) (iso : Int) (g : Rt) : Prop where
  gd : rGd iso g
  fl : (rPt g).Fl m
  asc : Asc lt (rPt g).items
  m3 : 3 ≤ m
  m1 : m ≤ 1024
  odd : m % 2 = 1
theorem TreeOk.none {m : Nat} {iso : Int} (m3 : 3 ≤ m) (m1 : m ≤ 1024) (odd : m % 2 = 1) : TreeOk lt m iso none := ⟨trivial, trivial, List.Pairwise.nil, m3, m1, odd⟩
theorem init_set {tb : Nat} {d a b iso cnt : Int} {ctr root : Option Addr} (s : St h0 Z ((tb, 0, hdr iso ctr root cnt lf 0 0) :: E) h) (hd : ∀ {h : Heap} {Q : Value → Heap → Prop}, Q (.tuple #[.int .i64 a, .int .i64 b]) h → degreeToMinMax.call #[.int .i64 d] h Q)
    (H : ∀ h', St h0 Z ((tb, 0, hdr iso ctr root cnt lf a b) :: E) h' → Q (.tuple #[]) h') : BTreeG_I_init.call #[ptr tb 0, .int .i64 d] h Q := by
  refine BTreeG_I_init.body _ _ _ _ ?_; unfold BTreeG_I_init.sh; refine r_nil ?_; refine r_fld ?_; refine St.r_load0 s 0 rfl rfl ?_; refine r_cmpI ?_; refine r_if (fun e => absurd e (by decide)) (fun _ => ?_)
  unfold BTreeG_I_init.j1; refine hd ?_; refine r_ext rfl ?_; refine r_ext rfl ?_; refine r_nil ?_; refine r_fld ?_
  (refine St.r_store0 s 0 rfl (by simp) rfl ?_; intro h s; try simp only [List.set_cons_zero, List.set_cons_succ] at s)
  refine r_nil ?_; refine r_fld ?_
  (refine St.r_store0 s 0 rfl (by simp) rfl ?_; intro h s; try simp only [List.set_cons_zero, List.set_cons_succ] at s)
  refine r_nil ?_; refine r_fld ?_; refine St.r_loadN0 s 0 rfl (by simp) ?_; refine r_ext rfl ?_; refine r_ext rfl ?_; refine r_nil ?_; refine r_fld ?_
  (refine St.r_store0 s 0 rfl (by simp) rfl ?_; intro h s; try simp only [List.set_cons_zero, List.set_cons_succ] at s)
  refine r_nil ?_; refine r_fld ?_; refine St.r_load0 s 0 rfl rfl ?_; refine r_not ?_; refine r_if (fun _ => ?_) (fun e => absurd e (by decide))
  refine r_nil ?_; refine r_fld ?_; refine St.r_loadN0 s 0 rfl (by simp) ?_; refine r_ext rfl ?_; refine r_ext rfl ?_; refine r_nil ?_; refine r_fld ?_
  (refine St.r_store0 s 0 rfl (by simp) rfl ?_; intro h s; try simp only [List.set_cons_zero, List.set_cons_succ] at s)
  exact H _ s
def dmin (d : Nat) : Nat := if d = 0 then 31 else d - 1
def dmax (d : Nat) : Nat := if d = 0 then 63 else 2 * d - 1
theorem degree_any {d : Nat} (hd : d = 0 ∨ 2 ≤ d) (hd2 : d ≤ 512) {h : Heap} {Q : Value → Heap → Prop} (H : Q (.tuple #[.int .i64 (dmin d : Nat), .int .i64 (dmax d : Nat)]) h) : degreeToMinMax.call #[.int .i64 d] h Q := by
  by_cases e : d = 0
  · subst e; exact degree_zero H
  · unfold dmin dmax at H
    rw [if_neg e, if_neg e] at H; refine degree_ok (d := d) (by omega) (by omega) ?_
    have e1 : (d : Int) - 1 = ((d - 1 : Nat) : Int) := by omega
    have e2 : 2 * (d : Int) - 1 = ((2 * d - 1 : Nat) : Int) := by omega
    rw [e1, e2]; exact H
theorem dmax_ok {d : Nat} (hd : d = 0 ∨ 2 ≤ d) (hd2 : d ≤ 512) : 3 ≤ dmax d ∧ dmax d ≤ 1024 ∧ dmax d % 2 = 1 ∧ dmin d = dmax d / 2 ∧ dmin d ≠ 0 := by
  unfold dmax dmin; split <;> omega
theorem newIsoID_ok {cb : Nat} {c : Int} (hc0 : 0 ≤ c) (hc1 : c ≤ 1073741824) (s : St h0 Z ((cb, 0, [.int .u64 c]) :: E) h) (H : ∀ h', St h0 Z ((cb, 0, [.int .u64 (c + 1)]) :: E) h' → Q (.int .u64 (c + 1)) h') : newIsoID.call #[ptr cb 0] h Q := by
  refine newIsoID.body _ _ _ ?_; unfold newIsoID.sh; refine r_nil ?_; refine St.r_load0 s 0 rfl rfl ?_; refine r_add (z := c + 1) (u64w (by omega) (by omega)) ?_; refine r_nil ?_
  (refine St.r_store0 s 0 rfl (by simp) rfl ?_; intro h s; try simp only [List.set_cons_zero, List.set_cons_succ] at s)
  refine r_nil ?_; refine St.r_load0 s 0 rfl rfl ?_; exact H _ s
theorem New_ok (s : St h0 Z E h) {d : Nat} (hd : d = 0 ∨ 2 ≤ d) (hd2 : d ≤ 512) {nl : Bool} (hlf : one1 lf = true) (H : ∀ b cb h', St h0 Z ((b, 0, hdr 1 (some ⟨cb, 0, none⟩) none 0 lf (dmin d : Nat) (dmax d : Nat)) :: (cb, 0, [.int .u64 1]) :: E) h' → Q (ptr b 0) h') : NewBTreeGOptions_I.call #[lf, .agg #[.int .i64 d, .bool nl]] h Q := by
  refine NewBTreeGOptions_I.body _ _ _ _ ?_; unfold NewBTreeGOptions_I.sh; refine St.r_box (cs := [.int .i64 d, .bool nl]) s fun t3 h s => ?_; refine s.r_alloc fun t6 h s => ?_; refine s.r_alloc fun t8 h s => ?_; refine r_nil ?_; refine r_fld ?_
  (refine St.r_store0 s 1 rfl (by simp) rfl ?_; intro h s; try simp only [List.set_cons_zero, List.set_cons_succ] at s)
  refine r_nil ?_; refine r_fld ?_; refine St.r_load0 s 1 rfl rfl ?_; refine newIsoID_ok (c := 0) (by decide) (by decide) s fun h s => ?_; refine r_nil ?_; refine r_fld ?_
  (refine St.r_store0 s 1 rfl (by simp) rfl ?_; intro h s; try simp only [List.set_cons_zero, List.set_cons_succ] at s)
  refine r_nil ?_; refine r_fld ?_; refine St.r_store0 s 1 rfl (by simp) hlf ?_; intro h s
  refine r_fld ?_; refine St.r_load0 s 2 rfl rfl ?_
  have s : St h0 Z ((t6, 0, hdr 1 (some ⟨t8, 0, none⟩) none 0 lf 0 0) :: (t8, 0, [.int .u64 1]) :: (t3, 0, [.int .i64 d, .bool nl]) :: E) h := s.perm (List.Perm.swap _ _ _)
  refine init_set s (fun K => degree_any hd hd2 K) fun h s => ?_; exact H _ _ _ (s.sub (List.Sublist.cons_cons _ (List.Sublist.cons_cons _ (List.sublist_cons_self _ _))))
theorem hdr_cut {tb : Nat} {iso cnt mn mx : Int} {ctr root : Option Addr} (s : St h0 Z ((tb, 0, hdr iso ctr root cnt lf mn mx) :: E) h) : St h0 Z ((tb, 0, hd0 iso ctr) :: (tb, 4, hd4 lf mn mx) :: (tb, 2, [.pointer root]) :: (tb, 3, [.int .i64 cnt]) :: E) h := by
  have s1 : St h0 Z ((tb, 0, hd0 iso ctr ++ ([.pointer root] ++ ([.int .i64 cnt] ++ hd4 lf mn mx))) :: E) h := s
  have s2 := s1.cut
  have s3 := (s2.front 1 rfl).cut
  have s4 := (s3.front 1 rfl).cut
  exact s4.perm (E' := (tb, 0, hd0 iso ctr) :: (tb, 4, hd4 lf mn mx) :: (tb, 2, [.pointer root]) :: (tb, 3, [.int .i64 cnt]) :: E) (by
    show ((tb, 0, hd0 iso ctr) :: (tb, 4, hd4 lf mn mx) :: (tb, 2, [.pointer root]) :: (tb, 3, [.int .i64 cnt]) :: E).Perm ((tb, 3, [.int .i64 cnt]) :: (tb, 4, hd4 lf mn mx) :: (tb, 2, [.pointer root]) :: (tb, 0, hd0 iso ctr) :: E)
    ((apply perm_rg; intro f; simp only [set_cons_zero, set_cons_succ, eraseIdx_cons_zero, eraseIdx_cons_succ, cons_append, nil_append, map_append, map_cons, map_nil, List.sum_append, List.sum_cons, List.sum_nil, map_flatMap, Nat.add_zero, Nat.zero_add]; ac_rfl)))
theorem hdr_glue {tb : Nat} {iso cnt mn mx : Int} {ctr root : Option Addr} (s : St h0 Z ((tb, 0, hd0 iso ctr) :: (tb, 4, hd4 lf mn mx) :: (tb, 2, [.pointer root]) :: (tb, 3, [.int .i64 cnt]) :: E) h) : St h0 Z ((tb, 0, hdr iso ctr root cnt lf mn mx) :: E) h := by
  have s1 : St h0 Z ((tb, 3, [.int .i64 cnt]) :: (tb, 3 + [Value.int .i64 cnt].length, hd4 lf mn mx) :: (tb, 2, [.pointer root]) :: (tb, 0, hd0 iso ctr) :: E) h := s.perm (by
    show ((tb, 3, [.int .i64 cnt]) :: (tb, 4, hd4 lf mn mx) :: (tb, 2, [.pointer root]) :: (tb, 0, hd0 iso ctr) :: E).Perm ((tb, 0, hd0 iso ctr) :: (tb, 4, hd4 lf mn mx) :: (tb, 2, [.pointer root]) :: (tb, 3, [.int .i64 cnt]) :: E)
    ((apply perm_rg; intro f; simp only [set_cons_zero, set_cons_succ, eraseIdx_cons_zero, eraseIdx_cons_succ, cons_append, nil_append, map_append, map_cons, map_nil, List.sum_append, List.sum_cons, List.sum_nil, map_flatMap, Nat.add_zero, Nat.zero_add]; ac_rfl)))
  have s2 := s1.glue
  have s3 : St h0 Z ((tb, 2, [.pointer root]) :: (tb, 2 + [Value.pointer root].length, [.int .i64 cnt] ++ hd4 lf mn mx) :: (tb, 0, hd0 iso ctr) :: E) h := s2.perm (by
    show ((tb, 2, [.pointer root]) :: (tb, 3, [.int .i64 cnt] ++ hd4 lf mn mx) :: (tb, 0, hd0 iso ctr) :: E).Perm ((tb, 3, [.int .i64 cnt] ++ hd4 lf mn mx) :: (tb, 2, [.pointer root]) :: (tb, 0, hd0 iso ctr) :: E)
    exact List.Perm.swap _ _ _)
  have s4 := s3.glue
  have s5 : St h0 Z ((tb, 0, hd0 iso ctr) :: (tb, 0 + (hd0 iso ctr).length, [.pointer root] ++ ([.int .i64 cnt] ++ hd4 lf mn mx)) :: E) h := s4.perm (by
    show ((tb, 0, hd0 iso ctr) :: (tb, 2, [.pointer root] ++ ([.int .i64 cnt] ++ hd4 lf mn mx)) :: E).Perm ((tb, 2, [.pointer root] ++ ([.int .i64 cnt] ++ hd4 lf mn mx)) :: (tb, 0, hd0 iso ctr) :: E)
    exact List.Perm.swap _ _ _)
  exact s5.glue
end Go.Proofs.Ytljecmjdmdjldaa.Gi
end
section
namespace Go.Proofs.Ytljecmjdmdjldaa.Gi
open Go.Hp Go.Proofs.Ytljecmjdmdjldaa
variable {h0 h : Heap} {Z E : List Rg} {Q : Value → Heap → Prop} {ow : List Int} {ov : Value}
structure OwAt (h : Heap) (ow : List Int) (ov : Value) : Prop where
  rd : Rdl 1 h ov ow.length (ow.flatMap fi)
  le : ow.length ≤ 2147483647
theorem OwAt.st {h' : Heap} {E' : List Rg} (o : OwAt h ow ov) (s : St h [] E' h') : OwAt h' ow ov := ⟨o.rd.st s, o.le⟩
theorem OwAt.fr {h' : Heap} (o : OwAt h ow ov) (s : Fr (fun _ _ => False) h h') : OwAt h' ow ov := ⟨o.rd.fr s (fun _ _ e => e), o.le⟩
theorem OwAt.nil (h : Heap) : OwAt h [] (.slice none 0 0) := ⟨Rdl.nil 1 h, by decide⟩
theorem OwAt.one (o : OwAt h ow ov) : one1 ov = true := o.rd.one
theorem s_Rank_ok {k : Int} (ho : OwAt h ow ov) (H : Q (.int .i64 (rnk ow k)) h) : s_Rank.call #[ov, .int .i64 k] h Q := by
  have hr := ho.rd
  have hl := ho.le
  refine s_Rank.body _ _ _ _ ?_; unfold s_Rank.sh; refine hr.lenV ?_; refine r_cmpI ?_; refine r_if (fun e => ?_) (fun e => ?_)
  · have : ow = [] := by have : ow.length = 0 := by simpa using e
                         exact List.length_eq_zero_iff.1 this
    unfold rnk at H; rw [if_pos this] at H; exact H
  · have hne : ow ≠ [] := fun e2 => by subst e2; simp at e
    have hpos : 1 ≤ ow.length := by have := List.length_pos_iff.2 hne; omega
    unfold s_Rank.j1
    have hn0 : (ow.length : Int) ≠ 0 := by omega
    have hb1 : k.tmod ow.length < ow.length := Int.tmod_lt_of_pos k (by omega)
    have hb2 : -(ow.length : Int) < k.tmod ow.length := by
      have := Int.lt_tmod_of_pos k (show (0 : Int) < ow.length by omega)
      omega
    refine ⟨.i64, _, _, rfl, rfl, hn0, ?_⟩
    refine r_add (z := k.tmod ow.length + ow.length) (i64w (by omega) (by omega)) ?_; refine ⟨.i64, _, _, rfl, rfl, hn0, ?_⟩
    have e3 : (k.tmod ow.length + ow.length).tmod ow.length = k % ow.length := by
      rw [Int.tmod_eq_emod_of_nonneg (by omega), Int.add_emod_right]
      have e1 := Int.mul_tdiv_add_tmod k ow.length
      conv => rhs; rw [← e1, Int.add_comm, Int.add_mul_emod_self_left]
    rw [e3]
    have hm0 : 0 ≤ k % (ow.length : Int) := Int.emod_nonneg _ (by omega)
    have hm1 : k % (ow.length : Int) < ow.length := Int.emod_lt_of_pos _ (by omega)
    have hlt : (k % (ow.length : Int)).toNat < ow.length := by generalize k % (ow.length : Int) = z at *; omega
    refine hr.at (n := (k % (ow.length : Int)).toNat) (f := fi) rfl fil (Int.toNat_of_nonneg hm0).symm rfl hlt fun b o hb => ?_; refine hb.load0 rfl ?_; unfold rnk at H; rw [if_neg hne, List.getElem?_eq_getElem hlt] at H; exact H
theorem s_Before_ok {p q : It} (ho : OwAt h ow ov) (H : ∀ E' h', St h [] E' h' → Q (.bool (ltO ow p q)) h') : s_Before.call #[ov, av p, av q] h Q := by
  refine s_Before.body _ _ _ _ _ ?_; unfold s_Before.sh
  have s := St.start h
  refine St.r_box (cs := enc p) s fun t4 h s => ?_; refine St.r_box (cs := enc q) s fun t5 h s => ?_; refine r_fld ?_; refine St.r_load0 s 1 rfl rfl ?_; refine r_fld ?_; refine St.r_load0 s 0 rfl rfl ?_; refine s_Rank_ok (ho.st s) ?_; refine ⟨St.r_still0 s 0 rfl rfl, ?_⟩
  refine s_Rank_ok (ho.st s) ?_; refine r_cmpI ?_; exact H _ _ s
theorem s_Rising_ok {l : List It} {v : Value} (ho : OwAt h ow ov) (hr : Rdl 2 h v l.length (l.flatMap enc)) (hl : l.length ≤ 4611686018427387903) (H : ∀ (b : Bool) E' h', (b = true ↔ Asc (ltO ow) l) → St h [] E' h' → Q (.bool b) h') : s_Rising.call #[ov, v] h Q := by
  have key : Asc (ltO ow) l ↔ ∀ i (h1 : i + 1 < l.length), ltO ow l[i] l[i + 1] = true := by
    unfold Go.Hp.Asc; rw [List.pairwise_iff_getElem]
    constructor
    · intro k i h1; exact k i (i + 1) (by omega) h1 (by omega)
    · intro k i j h1 h2 h3
      induction j with
      | zero => omega
      | succ j ih =>
        rcases Nat.lt_or_ge i j with h4 | h4
        · exact (swoO ow).tr _ _ _ (ih (by omega) h4) (k j h2)
        · have : i = j := by omega
          subst this; exact k i h2
  refine s_Rising.body _ _ _ _ ?_; unfold s_Rising.sh
  have s := St.start h
  refine loop_intro (fun t h' => ∃ (j : Nat) (E' : List Rg), t = [.int .i64 ((j + 1 : Nat) : Int)] ∧ (j ≤ l.length) ∧ (∀ i (h1 : i + 1 < l.length), i < j → ltO ow l[i] l[i + 1] = true) ∧ St h [] E' h') (fun t _ => l.length + 1 - (Hp.iv (t.getD 0 undef)).toNat) ⟨0, [], rfl, by omega, fun i h1 h2 => by omega, s⟩ ?_
  rintro t h' ⟨j, E', rfl, hj, hlt, s⟩
  unfold s_Rising.l2.b; refine (hr.st s).lenV ?_; refine r_cmpI ?_; refine r_if (fun e => ?_) (fun e => ?_)
  · have e : j + 1 < l.length := by have := of_decide_eq_true e; simp at this; omega
    unfold s_Rising.j3; refine r_sub (z := (j : Int)) (by rw [i64w (by omega) (by omega)]; omega) ?_; refine (hr.st s).at rfl (fun _ => rfl) rfl rfl (show j < l.length by omega) fun b o hb => ?_; refine hb.loadN rfl ?_; refine (hr.st s).at rfl (fun _ => rfl) rfl rfl e fun b o hb => ?_; refine hb.loadN rfl ?_; refine s_Before_ok (p := l[j]) (q := l[j + 1]) (ho.st s) fun E2 h s2 => ?_
    have s := s.join s2
    refine r_not ?_; refine r_if (fun e2 => ?_) (fun e2 => ?_)
    · refine H false _ _ ⟨fun e => (by cases e), fun ha => ?_⟩ s
      have h1 := key.1 ha j e
      rw [h1] at e2; cases e2
    · unfold s_Rising.j4
      refine r_add (z := ((j + 1 + 1 : Nat) : Int)) (by rw [i64w (by omega) (by omega)]; omega) ?_; refine ⟨⟨j + 1, _, rfl, by omega, fun i h1 h2 => ?_, s⟩, by simp; omega⟩
      rcases Nat.lt_or_ge i j with h3 | h3
      · exact hlt i h1 h3
      · have : i = j := by omega
        subst this; simpa using e2
  · have e : ¬ j + 1 < l.length := by have := of_decide_eq_false e; simp at this; omega
    unfold s_Rising.j1; exact H true _ _ ⟨fun _ => key.2 fun i h1 => hlt i h1 (by omega), fun _ => rfl⟩ s
end Go.Proofs.Ytljecmjdmdjldaa.Gi
end
section
namespace Go.Proofs.Ytljecmjdmdjldaa.Gi
open Go.Hp Go.Proofs.Ytljecmjdmdjldaa
variable {h0 h : Heap} {Z E : List Rg} {Q : Value → Heap → Prop}
theorem one_encA : ∀ (l : List It) (y : Value), y ∈ l.flatMap enc → one1 y = true := fun l y hy => by
  obtain ⟨p, _, hp⟩ := List.mem_flatMap.1 hy
  simp only [List.mem_cons, List.not_mem_nil, or_false] at hp
  rcases hp with rfl | rfl <;> rfl
theorem s_NodeItems_own : ∀ {k : Nat} (t : DT k) {h : Heap} {vi vk vc : Value} {Q : Value → Heap → Prop}, ArgD h t vi vk → t.bulk ≤ 1073741824 → one1 vc = true →
    (∀ v b o sp E' h', St h [] ((b, o, t.items.flatMap enc ++ sp) :: E') h' → Own 2 v t.items.length b o (t.items.flatMap enc) sp → Q v h') → s_NodeItems.call #[.agg #[vi, vk, vc]] h Q
  | 0, e, _, _, _, _, _, _, _, _, _ => e.elim
  | k + 1, t, h, vi, vk, vc, Q, ⟨hr, cs, hcl, hrk, hks⟩, hb, hvc, H => by
    have hbulk : 1 + t.1.length + (t.2.map DT.bulk).sum ≤ 1073741824 := hb
    have hkl : t.2.length ≤ (t.2.map DT.bulk).sum := sum_ge_length DT.bulk (fun a => by
      cases k with
      | zero => exact a.elim
      | succ k => show 1 ≤ 1 + _ + _; omega) t.2
    have hit : t.items = inter t.1 (t.2.map DT.items) := rfl
    have hin := inter_pre2 t.1 (t.2.map DT.items)
    have hil := DT.items_le t
    rw [List.length_map] at hin; refine s_NodeItems.body _ _ _ ?_; unfold s_NodeItems.sh
    have s := St.start h
    refine St.r_box (cs := [vi, vk, vc]) s fun b h s => ?_; refine r_fld ?_; refine St.r_load0 s 0 rfl rfl ?_; refine (hrk.st s).lenV ?_; refine r_fld ?_; refine St.r_load0 s 0 rfl rfl ?_; refine (hr.st s).lenV ?_
    have hmax : (if (t.1.length : Int) > (cs.length : Int) then (t.1.length : Int) else (cs.length : Int)) = ((max t.2.length t.1.length : Nat) : Int) := by split <;> omega
    refine ⟨_, _, _, rfl, rfl, ?_⟩
    rw [hmax]
    refine loop_intro (fun l h' => ∃ (j : Nat) (v : Value) (rb ro : Nat) (sp : List Value) (E' : List Rg), j ≤ max t.2.length t.1.length ∧ l = [v, .int .i64 j] ∧ St _ [] ((b, 0, [vi, vk, vc]) :: (rb, ro, (pre2 t.1 (t.2.map DT.items) j).flatMap enc ++ sp) :: E') h' ∧
        Own 2 v (pre2 t.1 (t.2.map DT.items) j).length rb ro ((pre2 t.1 (t.2.map DT.items) j).flatMap enc) sp) (fun l _ => max t.2.length t.1.length - (Hp.iv (l.getD 1 undef)).toNat)
      ⟨0, _, 0, 0, [], [], by omega, rfl, (s.empty 0 0).perm (by simp only [pre2]; ((apply perm_rg; intro f; simp only [set_cons_zero, set_cons_succ, eraseIdx_cons_zero, eraseIdx_cons_succ, cons_append, nil_append, map_append, map_cons, map_nil, List.sum_append, List.sum_cons, List.sum_nil, map_flatMap, Nat.add_zero, Nat.zero_add]; ac_rfl))), Own.nil 2 0 0⟩ ?_
    rintro l h ⟨j, v, rb, ro, sp, E', hj, rfl, s, w⟩
    unfold s_NodeItems.l2.b; refine r_cmpI ?_; refine r_if (fun hlt => ?_) (fun hge => ?_)
    · have hlt : j < max t.2.length t.1.length := by have := of_decide_eq_true hlt; simp at this; omega
      have hps := pre2_succ t.1 (t.2.map DT.items) j
      have hpl := pre2_le (its := t.1) (ks := t.2.map DT.items) (show j + 1 ≤ max t.2.length t.1.length from hlt)
      rw [← hin, ← hit] at hpl
      have hpl' := congrArg List.length hps
      simp only [List.length_append] at hpl'
      -- behind the kid's items
      have step : ∀ (A : List It), A = pre2 t.1 (t.2.map DT.items) j ++ (t.2.map DT.items)[j]?.getD [] → ∀ (v : Value) (rb ro : Nat) (sp : List Value) (E' : List Rg) (h : Heap), St _ [] ((b, 0, [vi, vk, vc]) :: (rb, ro, A.flatMap enc ++ sp) :: E') h →
          Own 2 v A.length rb ro (A.flatMap enc) sp →
          s_NodeItems.j5 (ptr b 0) v (.int .i64 j) (.int .i64 ((max t.2.length t.1.length : Nat) : Int)) (.int .i64 j) h (fun l' h' => (∃ (j : Nat) (v : Value) (rb ro : Nat) (sp : List Value) (E' : List Rg), j ≤ max t.2.length t.1.length ∧ l' = [v, .int .i64 j] ∧ St _ [] ((b, 0, [vi, vk, vc]) :: (rb, ro, (pre2 t.1 (t.2.map DT.items) j).flatMap enc ++ sp) :: E') h' ∧
            Own 2 v (pre2 t.1 (t.2.map DT.items) j).length rb ro ((pre2 t.1 (t.2.map DT.items) j).flatMap enc) sp) ∧ max t.2.length t.1.length - (Hp.iv (l'.getD 1 undef)).toNat < max t.2.length t.1.length - j) Q := fun A hA v rb ro sp E' h s w => by
        have hAl := congrArg List.length hA
        rw [List.length_append] at hAl; unfold s_NodeItems.j5; refine r_fld ?_; refine St.r_load0 s 0 rfl rfl ?_; refine (hr.st s).lenV ?_; refine r_cmpI ?_; refine r_if (fun e => ?_) (fun e => ?_)
        · have e : j < t.1.length := by simpa using e
          refine r_fld ?_; refine St.r_load0 s 0 rfl rfl ?_; refine (hr.st s).at rfl (fun _ => rfl) rfl rfl e fun b' o' hb' => ?_; refine hb'.loadN rfl ?_; refine s.r_mkSl (sz := 2) (cs := enc t.1[j]) (by ((simp only [fillV, fill1, Value.cells, zeros_succ, zeros_zero, size_toArray, length_cons, length_nil, length_append, take_succ_cons, take_zero, take_nil, drop_succ_cons, drop_zero, drop_nil, cons_append, nil_append, append_nil, Nat.reduceAdd, Nat.reduceMul, Nat.reduceLeDiff, Nat.reduceEqDiff, and_self, and_true, true_and, if_true, Nat.le_refl, Nat.zero_add, Nat.add_zero, Nat.zero_mul, reduceIte, if_false] <;> rfl))) rfl fun q h s wq => ?_; refine s.r_app 2 (sz := 2) (n := 1) (new := enc t.1[j]) rfl w rfl (wq.rdl s 0 rfl) (by simp [one1]) (by omega) (by omega) fun v' b' o' sp' h s w' => ?_; unfold s_NodeItems.j4; refine r_add (z := ((j + 1 : Nat) : Int)) (by rw [i64w (by omega) (by omega)]; omega) ?_
          have hx : pre2 t.1 (t.2.map DT.items) (j + 1) = A ++ [t.1[j]] := by rw [hps, hA, List.getElem?_eq_getElem e, List.append_assoc]; rfl
          refine ⟨⟨j + 1, v', b', o', sp', E', hlt, rfl, ?_, ?_⟩, by simp; omega⟩
          · rw [hx, List.flatMap_append]
            have hsing : [t.1[j]].flatMap enc = enc t.1[j] := by simp
            rw [hsing]; exact s.drop 1
          · rw [hx, List.flatMap_append, List.length_append]
            have hsing : [t.1[j]].flatMap enc = enc t.1[j] := by simp
            rw [hsing]; exact w'
        · have e : ¬ j < t.1.length := by simpa using e
          unfold s_NodeItems.j4; refine r_add (z := ((j + 1 : Nat) : Int)) (by rw [i64w (by omega) (by omega)]; omega) ?_
          have hx : pre2 t.1 (t.2.map DT.items) (j + 1) = A := by rw [hps, hA, List.getElem?_eq_none (by omega : t.1.length ≤ j)]; simp
          refine ⟨⟨j + 1, v, rb, ro, sp, E', hlt, rfl, ?_, ?_⟩, by simp; omega⟩
          · rw [hx]; exact s
          · rw [hx]; exact w
      unfold s_NodeItems.j3; refine r_fld ?_; refine St.r_load0 s 0 rfl rfl ?_; refine (hrk.st s).lenV ?_; refine r_cmpI ?_; refine r_if (fun e => ?_) (fun e => ?_)
      · have e : j < t.2.length := by have := of_decide_eq_true e; omega
        refine r_fld ?_; refine St.r_load0 s 0 rfl rfl ?_; refine (hrk.st s).at (n := j) rfl (fun _ => rfl) rfl rfl (by omega) fun b' o' hb' => ?_; refine hb'.loadN rfl ?_
        have hkb : t.2[j].bulk ≤ (t.2.map DT.bulk).sum := mem_le_sum (List.mem_map.2 ⟨_, List.getElem_mem e, rfl⟩)
        refine s_NodeItems_own t.2[j] ((hks j e (by omega)).fr s.fr) (by omega) rfl fun v' bb ob spb E2 h s2 wb => ?_
        have hv := wb.rdl s2 0 rfl
        have s := (s.join s2).perm List.perm_append_comm
        have hg : (t.2.map DT.items)[j]?.getD [] = t.2[j].items := by simp [e]
        refine s.r_app 1 (sz := 2) (n := t.2[j].items.length) (new := t.2[j].items.flatMap enc) rfl w rfl hv (one_encA _) (by rw [hg] at hpl'; omega) (by rw [hg] at hpl'; omega) fun v' b' o' sp' h s w' => ?_; refine step _ rfl v' b' o' sp' (E' ++ (bb, ob, t.2[j].items.flatMap enc ++ spb) :: E2) h ?_ ?_
        · rw [hg, List.flatMap_append]; exact s
        · rw [hg, List.flatMap_append, List.length_append]; exact w'
      · have e : ¬ j < t.2.length := by have := of_decide_eq_false e; omega
        have hg : (t.2.map DT.items)[j]?.getD [] = [] := by simp [List.getElem?_eq_none (show t.2.length ≤ j by omega)]
        refine step _ rfl v rb ro sp E' h ?_ ?_
        · rw [hg, List.append_nil]; exact s
        · rw [hg, List.append_nil]; exact w
    · have hge : j = max t.2.length t.1.length := by have := of_decide_eq_false hge; simp at this; omega
      subst hge; unfold s_NodeItems.j1; rw [← hin, ← hit] at s w; exact H v rb ro sp _ h (s.drop 1) w
theorem s_NodeItems_ok {k : Nat} (t : DT k) {h : Heap} {vi vk vc : Value} {Q : Value → Heap → Prop} (ha : ArgD h t vi vk) (hb : t.bulk ≤ 1073741824) (hvc : one1 vc = true)
    (H : ∀ v E' h', St h [] E' h' → Rdl 2 h' v t.items.length (t.items.flatMap enc) → Q v h') : s_NodeItems.call #[.agg #[vi, vk, vc]] h Q :=
  s_NodeItems_own t ha hb hvc fun v b o sp E' h' s w => H v _ h' s (w.rdl s 0 rfl)
end Go.Proofs.Ytljecmjdmdjldaa.Gi
end
section
namespace Go.Proofs.Ytljecmjdmdjldaa.Gi
open Go.Hp Go.Proofs.Ytljecmjdmdjldaa
variable {h0 h : Heap} {Z E : List Rg} {Q : Value → Heap → Prop}
abbrev encN (c : Value × Value × Int) : List Value := [c.1, c.2.1, .int .i64 c.2.2]
theorem s_Levels_ok : ∀ {k : Nat} (t : DT k) {g : Heap} {vi vk vc : Value} {Q : Value → Heap → Prop}, ArgD g t vi vk → t.bulk ≤ 1073741824 → k ≤ 1099511627776 → one1 vc = true →
    (∀ E' h', St g [] E' h' → Q (.tuple #[.int .i64 t.lv.1, .bool t.lv.2]) h') → s_Levels.call #[.agg #[vi, vk, vc]] g Q
  | 0, e, _, _, _, _, _, _, _, _, _, _ => e.elim
  | k + 1, t, g, vi, vk, vc, Q, ⟨hr, cs, hcl, hrk, hks⟩, hb, hkb, hvc, H => by
    have hbulk := t.kids_le
    refine s_Levels.body _ _ _ ?_; unfold s_Levels.sh
    have s := St.start g
    refine St.r_box (cs := [vi, vk, vc]) s fun b h s => ?_; refine r_fld ?_; refine St.r_load0 s 0 rfl rfl ?_; refine (hrk.st s).lenV ?_; refine r_cmpI ?_
    have hkb2 : ∀ j (hj : j < t.2.length), t.2[j].bulk ≤ 1073741824 := fun j hj => by
      have := t.kid_le (List.getElem_mem hj)
      omega
    match ht : t.2 with
    | [] =>
      have hlv : t.lv = (1, true) := by unfold DT.lv; rw [ht]
      rw [ht] at hcl; refine r_if (fun _ => ?_) (fun e => absurd e (by simp at hcl; simp [hcl]))
      have := H _ _ s
      rw [hlv] at this; exact this
    | q :: qs =>
      have htl : t.2.length = qs.length + 1 := by rw [ht]; rfl
      refine r_if (fun e => absurd (eq_of_beq e) (by omega)) (fun _ => ?_)
      unfold s_Levels.j1; refine r_fld ?_; refine St.r_load0 s 0 rfl rfl ?_; refine (hrk.st s).lenV ?_; refine r_fld ?_; refine St.r_load0 s 0 rfl rfl ?_; refine (hr.st s).lenV ?_; refine r_add (z := ((t.1.length + 1 : Nat) : Int)) (by rw [i64w (by omega) (by omega)]; omega) ?_; refine r_cmpI ?_; refine r_if (fun e => ?_) (fun e => ?_)
      · have e : qs.length ≠ t.1.length := by simp at e; omega
        have hlv : t.lv = (0, false) := by unfold DT.lv; rw [ht]; simp only [if_neg e]
        have := H _ _ s
        rw [hlv] at this; exact this
      · have e : qs.length = t.1.length := by simp at e; omega
        have hlv : t.lv = (q.lv.1 + 1, q.lv.2 && qs.all fun x => x.lv.2 && x.lv.1 == q.lv.1) := by
          conv => lhs; unfold DT.lv
          rw [ht]; simp only [if_pos e]
        unfold s_Levels.j2; refine r_fld ?_; refine St.r_load0 s 0 rfl rfl ?_; refine (hrk.st s).at (n := 0) rfl (fun _ => rfl) rfl rfl (by omega) fun b' o' hb' => ?_; refine hb'.loadN rfl ?_
        have hgg : ∀ j (hj : j < t.2.length), t.2[j] = (q :: qs)[j]'(by rw [← ht]; exact hj) := fun j hj => List.getElem_of_eq ht hj
        have hkq : ArgD g q cs[0].1 cs[0].2.1 := by have := hks 0 (by rw [ht]; simp) (by omega); rw [hgg] at this; exact this
        have hqb : q.bulk ≤ 1073741824 := by have := hkb2 0 (by rw [ht]; simp); rw [hgg] at this; exact this
        have hql := q.lv_le
        refine s_Levels_ok q (hkq.fr s.fr) hqb (by omega) rfl fun E2 h s2 => ?_
        have s := (s.join s2).perm List.perm_append_comm
        refine r_ext rfl ?_; refine r_ext rfl ?_; refine r_fld ?_; refine St.r_load0 s 0 rfl rfl ?_; refine hrk.slc (l := 1) (m := cs.length) ⟨_, _, rfl, by omega, by omega, rfl⟩ rfl (by omega) (Nat.le_refl _) fun vt hvt => ?_; rw [show 1 * 3 = 1 * 3 from rfl, flat_drop (f := encN) (sz := 3) (fun _ => rfl), List.take_of_length_le (by rw [flat_len (f := encN) (sz := 3) (fun _ => rfl)]; simp)] at hvt; refine (hvt.st s).lenV ?_
        refine loop_intro (fun l h' => ∃ (j : Nat) (bb : Bool) (E' : List Rg), j ≤ qs.length ∧ l = [.bool bb, .int .i64 j] ∧ bb = (q.lv.2 && (qs.take j).all fun x => x.lv.2 && x.lv.1 == q.lv.1) ∧ St g [] E' h') (fun l _ => qs.length - (Hp.iv (l.getD 1 undef)).toNat)
          ⟨0, _, _, by omega, rfl, by simp, s⟩ ?_
        rintro l h2 ⟨j, bb, E', hj, rfl, hbb, s⟩
        unfold s_Levels.l4.b; refine r_cmpI ?_; refine r_if (fun hlt => ?_) (fun hge => ?_)
        · have hlt : j < qs.length := by have := of_decide_eq_true hlt; simp at this; omega
          unfold s_Levels.j5
          have hdl : j < (cs.drop 1).length := by simp; omega
          have hvt2 : Rdl 3 h2 vt (cs.drop 1).length ((cs.drop 1).flatMap encN) := by rw [List.length_drop]; exact hvt.st s
          refine hvt2.at (n := j) rfl (fun _ => rfl) rfl rfl hdl fun b' o' hb' => ?_; refine hb'.loadN rfl ?_; refine s.r_alloc fun t7 h s => ?_
          have hkj : ArgD g qs[j] (cs.drop 1)[j].1 (cs.drop 1)[j].2.1 := by
            have := hks (j + 1) (by rw [ht]; simp; omega) (by omega)
            rw [hgg] at this
            simpa [Nat.add_comm] using this
          have hjb : qs[j].bulk ≤ 1073741824 := by have := hkb2 (j + 1) (by rw [ht]; simp; omega); rw [hgg] at this; exact this
          refine St.r_storeN0 s 0 rfl rfl (by simp) (by simp only [List.mem_cons, List.not_mem_nil, or_false]; intro y hy; rcases hy with rfl | rfl | rfl; exact hkj.one.1; exact hkj.one.2; rfl) ?_; intro h s
          refine St.r_loadN0 s 0 rfl (by simp) ?_
          have hjl := qs[j].lv_le
          refine s_Levels_ok qs[j] (hkj.fr s.fr) hjb (by omega) rfl fun E3 h s3 => ?_
          have s := s.join s3
          refine r_ext rfl ?_; refine r_ext rfl ?_
          have fin : ∀ (b2 : Bool), b2 = (bb && (qs[j].lv.2 && qs[j].lv.1 == q.lv.1)) → s_Levels.j6 (.int .i64 q.lv.1) (.bool b2) vt (.int .i64 ((cs.length - 1 : Nat) : Int)) (.int .i64 j) h (fun l' h' => (∃ (j : Nat) (bb : Bool) (E' : List Rg), j ≤ qs.length ∧ l' = [.bool bb, .int .i64 j] ∧ bb = (q.lv.2 && (qs.take j).all fun x => x.lv.2 && x.lv.1 == q.lv.1) ∧ St g [] E' h') ∧
              qs.length - (Hp.iv (l'.getD 1 undef)).toNat < qs.length - j) Q := fun b2 hb2 => by
            unfold s_Levels.j6; refine r_add (z := ((j + 1 : Nat) : Int)) (by rw [i64w (by omega) (by omega)]; omega) ?_; refine ⟨⟨j + 1, b2, _, hlt, rfl, ?_, s⟩, by simp; omega⟩
            rw [hb2, hbb, List.take_succ_eq_append_getElem hlt, List.all_append]
            simp [Bool.and_assoc]
          refine r_br (fun e1 => ?_) (fun e1 => fin _ (by simp at e1; simp [e1]))
          refine r_br (fun e2 => ?_) (fun e2 => fin _ (by simp at e2; simp [e2]))
          refine r_cmpI ?_; exact fin _ (by simp [e1, e2]; rw [Bool.eq_iff_iff]; simp; omega)
        · have hge : j = qs.length := by have := of_decide_eq_false hge; simp at this; omega
          subst hge; unfold s_Levels.j3; refine r_add (z := ((q.lv.1 + 1 : Nat) : Int)) (by rw [i64w (by omega) (by omega)]; omega) ?_
          have := H _ _ s
          rw [hlv] at this; rw [hbb, List.take_length]; exact this
theorem s_Filled_ok : ∀ {k : Nat} (t : DT k) {g : Heap} {vi vk vc : Value} {d least : Int} {Q : Value → Heap → Prop}, ArgD g t vi vk → t.bulk ≤ 1073741824 → 0 ≤ d → d ≤ 1073741824 → one1 vc = true →
    (∀ E' h', St g [] E' h' → Q (.bool (t.fl d least)) h') → s_Filled.call #[.int .i64 d, .int .i64 least, .agg #[vi, vk, vc]] g Q
  | 0, e, _, _, _, _, _, _, _, _, _, _, _, _, _ => e.elim
  | k + 1, t, g, vi, vk, vc, d, least, Q, ⟨hr, cs, hcl, hrk, hks⟩, hb, hd0, hd, hvc, H => by
    have hbulk := t.kids_le
    have hfl : t.fl d least = (decide (least ≤ t.1.length) && decide ((t.1.length : Int) ≤ 2 * d - 1) && t.2.all fun q => q.fl d (d - 1)) := rfl
    have no : ∀ {E' h'}, St g [] E' h' → t.fl d least = false → Q (.bool false) h' := fun s e => by have := H _ _ s; rwa [e] at this
    refine s_Filled.body _ _ _ _ _ ?_; unfold s_Filled.sh
    have s := St.start g
    refine St.r_box (cs := [vi, vk, vc]) s fun b h s => ?_; refine r_fld ?_; refine St.r_load0 s 0 rfl rfl ?_; refine (hr.st s).lenV ?_; refine r_cmpI ?_; refine r_br (fun e1 => ?_) (fun e1 => no s (by have := of_decide_eq_true (show decide ((t.1.length : Int) < least) = true from e1); rw [hfl]; simp; omega))
    have e1 := of_decide_eq_false (show decide ((t.1.length : Int) < least) = false from e1)
    refine r_fld ?_; refine St.r_load0 s 0 rfl rfl ?_; refine (hr.st s).lenV ?_; refine ⟨_, _, _, rfl, rfl, ?_⟩
    rw [i64w (n := 2 * d) (by omega) (by omega)]; refine r_sub (z := 2 * d - 1) (by rw [i64w (by omega) (by omega)]) ?_; refine r_cmpI ?_; refine r_if (fun e2 => no s (by have := of_decide_eq_true e2; rw [hfl]; simp; omega)) (fun e2 => ?_)
    have e2 := of_decide_eq_false e2
    unfold s_Filled.j1; refine r_fld ?_; refine St.r_load0 s 0 rfl rfl ?_; refine (hrk.st s).lenV ?_
    refine loop_intro (fun l h' => ∃ (j : Nat) (E' : List Rg), j ≤ t.2.length ∧ l = [.int .i64 j] ∧ ((t.2.take j).all fun x => x.fl d (d - 1)) = true ∧ St g [] E' h') (fun l _ => t.2.length - (Hp.iv (l.getD 0 undef)).toNat)
      ⟨0, _, by omega, rfl, by simp, s⟩ ?_
    rintro l h2 ⟨j, E', hj, rfl, hall, s⟩
    unfold s_Filled.l3.b; refine r_cmpI ?_; refine r_if (fun hlt => ?_) (fun hge => ?_)
    · have hlt : j < t.2.length := by have := of_decide_eq_true hlt; simp at this; omega
      unfold s_Filled.j4; refine (hrk.st s).at (n := j) rfl (fun _ => rfl) rfl rfl (by omega) fun b' o' hb' => ?_; refine hb'.loadN rfl ?_; refine s.r_alloc fun t8 h s => ?_
      have hkj := hks j hlt (by omega)
      have hjb : t.2[j].bulk ≤ 1073741824 := by have := t.kid_le (List.getElem_mem hlt); omega
      refine St.r_storeN0 s 0 rfl rfl (by simp) (by simp only [List.mem_cons, List.not_mem_nil, or_false]; intro y hy; rcases hy with rfl | rfl | rfl; exact hkj.one.1; exact hkj.one.2; rfl) ?_; intro h s
      refine r_sub (z := d - 1) (by rw [i64w (by omega) (by omega)]) ?_; refine St.r_loadN0 s 0 rfl (by simp) ?_; refine s_Filled_ok t.2[j] (hkj.fr s.fr) hjb hd0 hd rfl fun E3 h s3 => ?_
      have s := s.join s3
      refine r_not ?_; refine r_if (fun e3 => no s ?_) (fun e3 => ?_)
      · have e3 : t.2[j].fl d (d - 1) = false := by simpa using e3
        have : (t.2.all fun q => q.fl d (d - 1)) = false := by
          rw [List.all_eq_false]; exact ⟨_, List.getElem_mem hlt, by rw [e3]; decide⟩
        rw [hfl, this]; simp
      · unfold s_Filled.j5
        refine r_add (z := ((j + 1 : Nat) : Int)) (by rw [i64w (by omega) (by omega)]; omega) ?_; refine ⟨⟨j + 1, _, hlt, rfl, ?_, s⟩, by simp; omega⟩
        have e3 : t.2[j].fl d (d - 1) = true := by simpa using e3
        rw [List.take_succ_eq_append_getElem hlt, List.all_append, hall]
        simp [e3]
    · have hge : j = t.2.length := by have := of_decide_eq_false hge; simp at this; omega
      subst hge; rw [List.take_length] at hall; unfold s_Filled.j2
      have := H _ _ s
      rw [hfl, hall] at this
      have h1 : least ≤ (t.1.length : Int) := by omega
      have h2 : (t.1.length : Int) ≤ 2 * d - 1 := by omega
      simpa [h1, h2] using this
end Go.Proofs.Ytljecmjdmdjldaa.Gi
end
section
namespace Go.Proofs.Ytljecmjdmdjldaa.Gi
open Go.Hp Go.Proofs.Ytljecmjdmdjldaa
set_option maxHeartbeats 4000000
variable {h0 h : Heap} {Z E : List Rg} {Q : Value → Heap → Prop} {lf : Value}
def GT.kp : {k : Nat} → GT It k → Value
  | 0, _ => .pointer none
  | _ + 1, t => ptr t.1.kb 0
def GT.rest : {k : Nat} → GT It k → List Rg
  | 0, _ => []
  | _ + 1, t => (t.1.kb, 0, [t.1.kv]) :: (t.1.krb, t.1.kro, ((t.2.map GT.id).map pp).flatMap fv ++ t.1.ksp) :: t.2.flatMap (GT.all enc)
theorem all_eq : ∀ {k : Nat} (t : GT It k), t.all enc = (t.id, 0, [.int .u64 t.nd.iso, .int .i64 t.nd.cnt, t.nd.iv, GT.kp t]) :: (t.nd.ib, t.nd.io, t.nd.its.flatMap enc ++ t.nd.isp) :: GT.rest t
  | 0, _ => rfl
  | _ + 1, t => by
    have e : GT.rest (k := _ + 1) t = (t.1.kb, 0, [t.1.kv]) :: (t.1.krb, t.1.kro, ((t.2.map GT.id).map pp).flatMap fv ++ t.1.ksp) :: t.2.flatMap (GT.all enc) := rfl
    rw [e, flat_fv]; rfl
theorem Gd.own {iso : Int} : ∀ {k : Nat} {t : GT It k}, Gd iso t → Own 2 t.nd.iv t.nd.its.length t.nd.ib t.nd.io (t.nd.its.flatMap enc) t.nd.isp
  | 0, _, g => g.wf.1
  | _ + 1, _, g => g.wf.1.1
theorem Gd.iso {iso : Int} : ∀ {k : Nat} {t : GT It k}, Gd iso t → t.nd.iso = iso
  | 0, _, g => g.wf.2.1 g.mine
  | _ + 1, _, g => g.wf.1.2.1 g.mine.1
theorem Gd.ownK {iso : Int} {k : Nat} {t : GT It (k + 1)} (g : Gd iso t) : Own 1 t.1.kv ((t.2.map GT.id).map pp).length t.1.krb t.1.kro (((t.2.map GT.id).map pp).flatMap fv) t.1.ksp := by
  have := g.wf.2.1
  rw [flat_fv, List.length_map, List.length_map]; exact this
theorem Gd.cntEq {iso : Int} {k : Nat} {t : GT It k} (g : Gd iso t) : t.nd.cnt = t.pt.items.length := g.cn.cnt
theorem fl_its {m lo : Nat} : ∀ {k : Nat} {t : GT It k}, t.pt.Fl m lo → lo ≤ t.nd.its.length ∧ t.nd.its.length ≤ m
  | 0, _, f => f
  | _ + 1, _, f => ⟨f.1, f.2.1⟩
theorem mk_inner {iso : Int} {k n ib io kb krb kro : Nat} {its : List It} {iv kv : Value} {isp ksp : List Value} {ts : List (GT It k)} (w : Own 2 iv its.length ib io (its.flatMap enc) isp) (wK : Own 1 kv ((ts.map GT.id).map pp).length krb kro (((ts.map GT.id).map pp).flatMap fv) ksp)
    (hl : ts.length = its.length + 1) (hk : ∀ c ∈ ts, Gd iso c) : ∃ t : GT It (k + 1), t.id = n ∧ Gd iso t ∧ t.pt = (its, ts.map GT.pt) ∧ t.nd.its = its ∧
      t.all enc = (n, 0, [.int .u64 iso, .int .i64 (PT.items (h := k + 1) (its, ts.map GT.pt)).length, iv, ptr kb 0]) :: (ib, io, its.flatMap enc ++ isp) :: (kb, 0, [kv]) :: (krb, kro, ((ts.map GT.id).map pp).flatMap fv ++ ksp) :: ts.flatMap (GT.all enc) := by
  refine ⟨((⟨true, n, iso, (PT.items (h := k + 1) (its, ts.map GT.pt)).length, its, iv, ib, io, isp, kb, kv, krb, kro, ksp⟩ : Nd It), ts), rfl, Gd.inner w rfl rfl ?_ hl hk rfl, rfl, rfl, ?_⟩
  · rw [flat_fv, List.length_map, List.length_map] at wK
    rw [← mfp]; exact wK
  · show Nd.inner enc _ (ts.map GT.id) ++ ts.flatMap (GT.all enc) = _
    unfold Nd.inner; rw [flat_fv]; rfl
theorem mk_leaf {iso : Int} {n ib io : Nat} {its : List It} {iv : Value} {isp : List Value} (w : Own 2 iv its.length ib io (its.flatMap enc) isp) : ∃ t : GT It 0, t.id = n ∧ Gd iso t ∧ t.pt = its ∧ t.nd.its = its ∧
      t.all enc = [(n, 0, [.int .u64 iso, .int .i64 its.length, iv, .pointer none]), (ib, io, its.flatMap enc ++ isp)] :=
  ⟨(⟨true, n, iso, its.length, its, iv, ib, io, isp, 0, .pointer none, 0, 0, []⟩ : Nd It), rfl, Gd.leaf w rfl rfl rfl, rfl, rfl, rfl⟩
theorem ids_pp {k : Nat} (A B : List (GT It k)) (l r : GT It k) : (((A ++ l :: r :: B).map GT.id).map pp) = (A.map GT.id).map pp ++ pp l.id :: pp r.id :: (B.map GT.id).map pp := by simp
theorem ids_one {k : Nat} (A B : List (GT It k)) (l : GT It k) : (((A ++ l :: B).map GT.id).map pp) = (A.map GT.id).map pp ++ pp l.id :: (B.map GT.id).map pp := by simp
theorem two_of {β : Type} {ts : List β} {j : Nat} (h : j + 1 < ts.length) : ∃ A l r B, ts = A ++ l :: r :: B ∧ A.length = j :=
  ⟨ts.take j, ts[j], ts[j + 1], ts.drop (j + 2), by
    rw [← List.drop_eq_getElem_cons h, ← List.drop_eq_getElem_cons (by omega), List.take_append_drop], by rw [List.length_take]; omega⟩
theorem one_of {β : Type} {ts : List β} {j : Nat} (h : j < ts.length) : ∃ A l B, ts = A ++ l :: B ∧ A.length = j :=
  ⟨ts.take j, ts[j], ts.drop (j + 1), by rw [← List.drop_eq_getElem_cons h, List.take_append_drop], by rw [List.length_take]; omega⟩
def Mended (iso : Int) (m j : Nat) {k : Nat} (t t' : GT It (k + 1)) : Prop := t'.id = t.id ∧ t'.pt.items = t.pt.items ∧ t'.pt.Fl m (t.pt.1.length - 1) ∧ Gd iso t' ∧ t'.pt = PT.mendAt m t.pt j
theorem mended_two {iso : Int} {m j k : Nat} {A B : List (GT It k)} {l r l' r' : GT It k} {P S : List It} {y z : It} {t t' : GT It (k + 1)} (e : t.pt = (P ++ y :: S, (A ++ l :: r :: B).map GT.pt)) (e' : t'.pt = (P ++ z :: S, (A ++ l' :: r' :: B).map GT.pt)) (hA : A.length = P.length) (hB : B.length = S.length)
    (hi : t'.id = t.id) (g' : Gd iso t') (hab : ∀ c ∈ A ++ B, PT.Fl m (m / 2) c.pt) (hlm : t.pt.1.length ≤ m) (fl : l'.pt.Fl m (m / 2)) (fr : r'.pt.Fl m (m / 2)) (hx : l.pt.items ++ y :: r.pt.items = l'.pt.items ++ z :: r'.pt.items) (hPj : P.length = j)
    (hs : ¬ l.nd.its.length + r.nd.its.length < m ∧ ((r.nd.its.length < l.nd.its.length ∧ PT.shR y l.pt r.pt = (l'.pt, z, r'.pt)) ∨ (¬ r.nd.its.length < l.nd.its.length ∧ PT.shL y l.pt r.pt = (l'.pt, z, r'.pt)))) : Mended iso m j t t' := by
  refine ⟨hi, ?_, ?_, g', ?_⟩
  rotate_right
  · have e1 : t.pt = (P ++ y :: S, A.map GT.pt ++ l.pt :: r.pt :: B.map GT.pt) := e.trans (congrArg (Prod.mk (P ++ y :: S)) (by rw [List.map_append, List.map_cons, List.map_cons]))
    have e2 : t'.pt = (P ++ z :: S, A.map GT.pt ++ l'.pt :: r'.pt :: B.map GT.pt) := e'.trans (congrArg (Prod.mk (P ++ z :: S)) (by rw [List.map_append, List.map_cons, List.map_cons]))
    have key := PT.mendAt_eq (m := m) (S := S) (A := A.map GT.pt) (B := B.map GT.pt) (y := y) (l := l.pt) (r := r.pt) hPj (by rw [List.length_map]; omega)
    rw [GT.pt_its, GT.pt_its, if_neg hs.1] at key; rw [e1, e2]; refine Eq.trans ?_ key.symm
    rcases hs.2 with ⟨h1, h2⟩ | ⟨h1, h2⟩
    · (rw [if_pos h1, h2]) <;> rfl
    · (rw [if_neg h1, h2]) <;> rfl
  · have e1 : t.pt = (P ++ y :: S, A.map GT.pt ++ l.pt :: r.pt :: B.map GT.pt) := e.trans (congrArg (Prod.mk (P ++ y :: S)) (by rw [List.map_append, List.map_cons, List.map_cons]))
    have e2 : t'.pt = (P ++ z :: S, A.map GT.pt ++ l'.pt :: r'.pt :: B.map GT.pt) := e'.trans (congrArg (Prod.mk (P ++ z :: S)) (by rw [List.map_append, List.map_cons, List.map_cons]))
    rw [e1, e2, PT.items_two _ _ _ _ _ _ _ (by rw [List.length_map]; exact hA) (by rw [List.length_map]; exact hB), PT.items_two _ _ _ _ _ _ _ (by rw [List.length_map]; exact hA) (by rw [List.length_map]; exact hB)]
    have h2 := congrArg (fun q => lz P ((A.map GT.pt).map PT.items) ++ (q ++ rz S ((B.map GT.pt).map PT.items))) hx
    simp only [List.append_assoc, List.cons_append] at h2 ⊢
    exact h2.symm
  · rw [e] at hlm ⊢
    rw [e']
    have hl : (P ++ y :: S).length ≤ m := hlm
    simp only [List.length_append, List.length_cons] at hl
    refine ⟨by show (P ++ y :: S).length - 1 ≤ (P ++ z :: S).length; simp, by show (P ++ z :: S).length ≤ m; simp; omega, by show ((A ++ l' :: r' :: B).map GT.pt).length = (P ++ z :: S).length + 1; simp; omega, fun c hc => ?_⟩
    obtain ⟨q, hq, rfl⟩ := List.mem_map.1 hc
    rcases List.mem_append.1 hq with h | h
    · exact hab q (List.mem_append.2 (.inl h))
    · rcases List.mem_cons.1 h with h | h
      · subst h; exact fl
      · rcases List.mem_cons.1 h with h | h
        · subst h; exact fr
        · exact hab q (List.mem_append.2 (.inr h))
theorem mended_one {iso : Int} {m j k : Nat} {A B : List (GT It k)} {l r l' : GT It k} {P S : List It} {y : It} {t t' : GT It (k + 1)} (e : t.pt = (P ++ y :: S, (A ++ l :: r :: B).map GT.pt)) (e' : t'.pt = (P ++ S, (A ++ l' :: B).map GT.pt)) (hA : A.length = P.length) (hB : B.length = S.length)
    (hi : t'.id = t.id) (g' : Gd iso t') (hab : ∀ c ∈ A ++ B, PT.Fl m (m / 2) c.pt) (hlm : t.pt.1.length ≤ m) (fl : l'.pt.Fl m (m / 2)) (hx : l.pt.items ++ y :: r.pt.items = l'.pt.items) (hPj : P.length = j) (hs : l.nd.its.length + r.nd.its.length < m ∧ PT.join2 y l.pt r.pt = l'.pt) : Mended iso m j t t' := by
  refine ⟨hi, ?_, ?_, g', ?_⟩
  rotate_right
  · have e1 : t.pt = (P ++ y :: S, A.map GT.pt ++ l.pt :: r.pt :: B.map GT.pt) := e.trans (congrArg (Prod.mk (P ++ y :: S)) (by rw [List.map_append, List.map_cons, List.map_cons]))
    have e2 : t'.pt = (P ++ S, A.map GT.pt ++ l'.pt :: B.map GT.pt) := e'.trans (congrArg (Prod.mk (P ++ S)) (by rw [List.map_append, List.map_cons]))
    have key := PT.mendAt_eq (m := m) (S := S) (A := A.map GT.pt) (B := B.map GT.pt) (y := y) (l := l.pt) (r := r.pt) hPj (by rw [List.length_map]; omega)
    rw [GT.pt_its, GT.pt_its, if_pos hs.1, hs.2] at key; rw [e1, e2]; exact key.symm
  · have e1 : t.pt = (P ++ y :: S, A.map GT.pt ++ l.pt :: r.pt :: B.map GT.pt) := e.trans (congrArg (Prod.mk (P ++ y :: S)) (by rw [List.map_append, List.map_cons, List.map_cons]))
    have e2 : t'.pt = (P ++ S, A.map GT.pt ++ l'.pt :: B.map GT.pt) := e'.trans (congrArg (Prod.mk (P ++ S)) (by rw [List.map_append, List.map_cons]))
    rw [e1, e2, PT.items_two _ _ _ _ _ _ _ (by rw [List.length_map]; exact hA) (by rw [List.length_map]; exact hB), PT.items_one _ _ _ _ _ (by rw [List.length_map]; exact hA) (by rw [List.length_map]; exact hB), ← hx]
    simp only [List.append_assoc, List.cons_append]
  · rw [e] at hlm ⊢
    rw [e']
    have hl : (P ++ y :: S).length ≤ m := hlm
    simp only [List.length_append, List.length_cons] at hl
    refine ⟨by show (P ++ y :: S).length - 1 ≤ (P ++ S).length; simp, by show (P ++ S).length ≤ m; simp; omega, by show ((A ++ l' :: B).map GT.pt).length = (P ++ S).length + 1; simp; omega, fun c hc => ?_⟩
    obtain ⟨q, hq, rfl⟩ := List.mem_map.1 hc
    rcases List.mem_append.1 hq with h | h
    · exact hab q (List.mem_append.2 (.inl h))
    · rcases List.mem_cons.1 h with h | h
      · subst h; exact fl
      · exact hab q (List.mem_append.2 (.inr h))
end Go.Proofs.Ytljecmjdmdjldaa.Gi
end
