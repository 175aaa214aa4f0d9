/-
  Texts of this claim, laid together: S20 KsIi KtIi S25 S27 Md Me HC S9 S14 S15 Mf S28.
  Conditions: as each of them tells.
-/
import Derived.Test.YtlihjljdndbpdaaRThreeWayB4
import Derived.Laws.Strings
section
namespace Go.Proofs.Ytlihjljdndbpdaa
open Go.Hp
set_option maxRecDepth 100000
set_option maxHeartbeats 8000000
set_option linter.unusedVariables false
set_option linter.unusedSimpArgs false

/-! ### (*pub/tidwallbtree.Map[int, int]).delete -/
def Map_ii_delete.j5 (s8 : Value) (s14 : Value) (h : Heap) (Q : Value → Heap → Prop) : Prop :=
    loadN 2 s14 h fun t204 =>
    storeN 2 s8 t204 h fun h =>
    loadN 2 s8 h fun r8 =>
    Q (.tuple #[r8, (.bool true)]) h
def Map_ii_delete.j4 (s0 : Value) (s8 : Value) (s10 : Value) (s11 : Value) (s14 : Value) (h : Heap) (Q : Value → Heap → Prop) : Prop :=
    nilck s10 fun t176 =>
    fld 1 t176 fun t177 =>
    load1 t177 h fun t178 =>
    arith (· - ·) t178 (.int .i64 1) fun t179 =>
    nilck s10 fun t180 =>
    fld 1 t180 fun t181 =>
    store1 t181 t179 h fun h =>
    nilck s10 fun t183 =>
    fld 3 t183 fun t184 =>
    load1 t184 h fun t185 =>
    nilck t185 fun t186 =>
    load1 t186 h fun t187 =>
    idx 1 t187 s11 fun t189 =>
    load1 t189 h fun t190 =>
    nilck t190 fun t191 =>
    fld 2 t191 fun t192 =>
    load1 t192 h fun t193 =>
    lenV t193 fun t194 =>
    nilck s0 fun t196 =>
    fld 6 t196 fun t197 =>
    load1 t197 h fun t198 =>
    cmpI (fun a b => decide (a < b)) t194 t198 fun t199 =>
    ifV t199
    (Map_ii_nodeRebalance.call #[s0, s10, s11] h fun t203 h =>
    Map_ii_delete.j5 s8 s14 h Q)
    (Map_ii_delete.j5 s8 s14 h Q)
def Map_ii_delete.j3 (s0 : Value) (s8 : Value) (s10 : Value) (s11 : Value) (s14 : Value) (s15 : Value) (h : Heap) (Q : Value → Heap → Prop) : Prop :=
    notV s15 fun t170 =>
    ifV t170
    (nilck s0 fun t172 =>
    fld 4 t172 fun t173 =>
    loadN 2 t173 h fun t174 =>
    storeN 2 s8 t174 h fun h =>
    loadN 2 s8 h fun r8 =>
    Q (.tuple #[r8, (.bool false)]) h)
    (Map_ii_delete.j4 s0 s8 s10 s11 s14 h Q)
def Map_ii_delete.j2 (s0 : Value) (s2 : Value) (s3 : Value) (s8 : Value) (s10 : Value) (s11 : Value) (s12 : Value) (h : Heap) (Q : Value → Heap → Prop) : Prop :=
    alloc [(.int .i64 0), (.int .i64 0)] 178 h fun t14 h =>
    ifV s12
    (ifV s2
    (arith (· + ·) s11 (.int .i64 1) fun t103 =>
    nilck s10 fun t107 =>
    fld 3 t107 fun t108 =>
    load1 t108 h fun t109 =>
    nilck t109 fun t110 =>
    load1 t110 h fun t111 =>
    idx 1 t111 t103 fun t113 =>
    nilck s0 fun t115 =>
    fld 4 t115 fun t116 =>
    fld 1 t116 fun t117 =>
    load1 t117 h fun t118 =>
    Map_ii_delete.call #[s0, t113, (.bool true), t118] h fun t119 h =>
    extr 0 t119 fun t120 =>
    extr 1 t119 fun t121 =>
    storeN 2 t14 t120 h fun h =>
    Map_ii_delete.j3 s0 s8 s10 t103 t14 t121 h Q)
    (nilck s10 fun t123 =>
    fld 2 t123 fun t124 =>
    load1 t124 h fun t125 =>
    idx 2 t125 s11 fun t127 =>
    loadN 2 t127 h fun t128 =>
    storeN 2 t14 t128 h fun h =>
    nilck s10 fun t132 =>
    fld 3 t132 fun t133 =>
    load1 t133 h fun t134 =>
    nilck t134 fun t135 =>
    load1 t135 h fun t136 =>
    idx 1 t136 s11 fun t138 =>
    nilck s0 fun t140 =>
    fld 4 t140 fun t141 =>
    fld 1 t141 fun t142 =>
    load1 t142 h fun t143 =>
    (Map_ii_delete.call #[s0, t138, (.bool true), t143] h fun t144 h =>
    extr 0 t144 fun t145 =>
    extr 1 t144 fun t146 =>
    alloc [(.int .i64 0), (.int .i64 0)] 178 h fun t16 h =>
    storeN 2 t16 t145 h fun h =>
    nilck s10 fun t148 =>
    fld 2 t148 fun t149 =>
    load1 t149 h fun t150 =>
    loadN 2 t16 h fun t152 =>
    idx 2 t150 s11 fun t153 =>
    storeN 2 t153 t152 h fun h =>
    Map_ii_delete.j3 s0 s8 s10 s11 t14 (.bool true) h Q) ∧
    (alloc [(.int .i64 0), (.int .i64 0)] 178 h fun t16_2 h =>
    still1 t133 t134 h ∧ still1 t135 t136 h ∧ still1 t142 t143 h ∧ Map_ii_delete.call #[s0, t138, (.bool true), t143] h fun t144_2 h =>
    extr 0 t144_2 fun t145_2 =>
    extr 1 t144_2 fun t146_2 =>
    storeN 2 t16_2 t145_2 h fun h =>
    nilck s10 fun t148_2 =>
    fld 2 t148_2 fun t149_2 =>
    load1 t149_2 h fun t150_2 =>
    loadN 2 t16_2 h fun t152_2 =>
    idx 2 t150_2 s11 fun t153_2 =>
    storeN 2 t153_2 t152_2 h fun h =>
    Map_ii_delete.j3 s0 s8 s10 s11 t14 (.bool true) h Q)))
    (nilck s10 fun t157 =>
    fld 3 t157 fun t158 =>
    load1 t158 h fun t159 =>
    nilck t159 fun t160 =>
    load1 t160 h fun t161 =>
    idx 1 t161 s11 fun t163 =>
    Map_ii_delete.call #[s0, t163, s2, s3] h fun t166 h =>
    extr 0 t166 fun t167 =>
    extr 1 t166 fun t168 =>
    storeN 2 t14 t167 h fun h =>
    Map_ii_delete.j3 s0 s8 s10 s11 t14 t168 h Q)
def Map_ii_delete.j6 (s0 : Value) (s8 : Value) (h : Heap) (Q : Value → Heap → Prop) : Prop :=
    nilck s0 fun t97 =>
    fld 4 t97 fun t98 =>
    loadN 2 t98 h fun t99 =>
    storeN 2 s8 t99 h fun h =>
    loadN 2 s8 h fun r8 =>
    Q (.tuple #[r8, (.bool false)]) h
def Map_ii_delete.j1 (s0 : Value) (s2 : Value) (s3 : Value) (s8 : Value) (s10 : Value) (s11 : Value) (s12 : Value) (h : Heap) (Q : Value → Heap → Prop) : Prop :=
    mapNode_ii_leaf.call #[s10] h fun t36 h =>
    ifV t36
    (ifV s12
    (nilck s10 fun t39 =>
    fld 2 t39 fun t40 =>
    load1 t40 h fun t41 =>
    idx 2 t41 s11 fun t43 =>
    loadN 2 t43 h fun t44 =>
    alloc [(.int .i64 0), (.int .i64 0)] 178 h fun t13 h =>
    storeN 2 t13 t44 h fun h =>
    nilck s10 fun t46 =>
    fld 2 t46 fun t47 =>
    load1 t47 h fun t48 =>
    slc 2 t48 (some s11) none none fun t50 =>
    nilck s10 fun t52 =>
    fld 2 t52 fun t53 =>
    load1 t53 h fun t54 =>
    arith (· + ·) s11 (.int .i64 1) fun t56 =>
    slc 2 t54 (some t56) none none fun t57 =>
    cpy 2 t50 t57 h fun t58 h =>
    nilck s10 fun t60 =>
    fld 2 t60 fun t61 =>
    load1 t61 h fun t62 =>
    nilck s10 fun t64 =>
    fld 2 t64 fun t65 =>
    load1 t65 h fun t66 =>
    lenV t66 fun t67 =>
    arith (· - ·) t67 (.int .i64 1) fun t68 =>
    nilck s0 fun t70 =>
    fld 4 t70 fun t71 =>
    loadN 2 t71 h fun t72 =>
    idx 2 t62 t68 fun t73 =>
    storeN 2 t73 t72 h fun h =>
    nilck s10 fun t76 =>
    fld 2 t76 fun t77 =>
    load1 t77 h fun t78 =>
    nilck s10 fun t80 =>
    fld 2 t80 fun t81 =>
    load1 t81 h fun t82 =>
    lenV t82 fun t83 =>
    arith (· - ·) t83 (.int .i64 1) fun t84 =>
    slc 2 t78 none (some t84) none fun t85 =>
    nilck s10 fun t86 =>
    fld 2 t86 fun t87 =>
    store1 t87 t85 h fun h =>
    nilck s10 fun t89 =>
    fld 1 t89 fun t90 =>
    load1 t90 h fun t91 =>
    arith (· - ·) t91 (.int .i64 1) fun t92 =>
    nilck s10 fun t93 =>
    fld 1 t93 fun t94 =>
    store1 t94 t92 h fun h =>
    loadN 2 t13 h fun t95 =>
    storeN 2 s8 t95 h fun h =>
    loadN 2 s8 h fun r8 =>
    Q (.tuple #[r8, (.bool true)]) h)
    (Map_ii_delete.j6 s0 s8 h Q))
    (Map_ii_delete.j2 s0 s2 s3 s8 s10 s11 s12 h Q)
def Map_ii_delete.sh (a0 : Value) (a1 : Value) (a2 : Value) (a3 : Value) (h : Heap) (Q : Value → Heap → Prop) : Prop :=
    alloc [(.int .i64 0), (.int .i64 0)] 178 h fun t8 h =>
    Map_ii_isoLoad.call #[a0, a1, (.bool true)] h fun t20 h =>
    ifV a2
    (nilck t20 fun t23 =>
    fld 2 t23 fun t24 =>
    load1 t24 h fun t25 =>
    lenV t25 fun t26 =>
    arith (· - ·) t26 (.int .i64 1) fun t27 =>
    Map_ii_delete.j1 a0 a2 a3 t8 t20 t27 (.bool true) h Q)
    (Map_ii_search.call #[a0, t20, a3] h fun t32 h =>
    extr 0 t32 fun t33 =>
    extr 1 t32 fun t34 =>
    Map_ii_delete.j1 a0 a2 a3 t8 t20 t33 t34 h Q)
theorem Map_ii_delete.body (a0 : Value) (a1 : Value) (a2 : Value) (a3 : Value) (h : Heap) (Q : Value → Heap → Prop) (H : Map_ii_delete.sh a0 a1 a2 a3 h Q) : Map_ii_delete.call #[a0, a1, a2, a3] h Q := by
  refine callsH_of (args := [a0, a1, a2, a3]) Try.func127 rfl rfl ?_
  unfold Map_ii_delete.sh at H
  refine WPc_seq' ?_
  refine W_region (by kernel_rfl) ?_
  refine vl_n ?_
  refine H_alloc TV_178 H fun t8 h H => ?_
  refine vl_n ?_
  refine H_of_R (R_assign (v := (.bool false)) rfl ?_)
  refine vl_e ?_
  refine WPc_seq' ?_
  refine W_region (by kernel_rfl) ?_
  refine vl_n ?_
  refine H_of_R (R_move (v := a0) rfl ?_)
  refine vl_n ?_
  refine H_of_R (R_move (v := a1) rfl ?_)
  refine vl_n ?_
  refine H_call HB_125 H fun t20 h H => ?_
  refine vl_n ?_
  refine H_of_R (R_assign (v := t20) rfl ?_)
  refine vl_e ?_
  refine WPc_seq' ?_
  refine W_region (by kernel_rfl) ?_
  refine vl_n ?_
  refine H_of_R (R_assign (v := (.int .i64 0)) rfl ?_)
  refine vl_e ?_
  refine WPc_seq' ?_
  refine W_region (by kernel_rfl) ?_
  refine vl_n ?_
  refine H_of_R (R_assign (v := (.bool false)) rfl ?_)
  refine vl_e ?_
  refine WPc_seq (fun e h => Map_ii_delete.j1 (e 0) (e 2) (e 3) (e 8) (e 10) (e 11) (e 12) h Q) ?_ (fun e h H => ?_)
  rotate_left
  · unfold Map_ii_delete.j1 at H
    refine WPc_seq (fun e h => Map_ii_delete.j2 (e 0) (e 2) (e 3) (e 8) (e 10) (e 11) (e 12) h Q) ?_ (fun e h H => ?_)
    rotate_left
    · unfold Map_ii_delete.j2 at H
      refine WPc_seq' ?_
      refine W_region (by kernel_rfl) ?_
      refine vl_n ?_
      refine H_alloc TV_178 H fun t14 h H => ?_
      refine vl_e ?_
      refine WPc_seq' ?_
      refine W_region (by kernel_rfl) ?_
      refine vl_n ?_
      refine H_of_R (R_assign (v := (.bool false)) rfl ?_)
      refine vl_e ?_
      refine WPc_seq (fun e h => Map_ii_delete.j3 (e 0) (e 8) (e 10) (e 11) (e 14) (e 15) h Q) ?_ (fun e h H => ?_)
      rotate_left
      · unfold Map_ii_delete.j3 at H
        refine WPc_seq (fun e h => Map_ii_delete.j4 (e 0) (e 8) (e 10) (e 11) (e 14) h Q) ?_ (fun e h H => ?_)
        rotate_left
        · unfold Map_ii_delete.j4 at H
          refine WPc_seq' ?_
          refine W_region (by kernel_rfl) ?_
          refine vl_n ?_
          refine H_of_R (R_move (v := (e 10)) rfl ?_)
          refine vl_n ?_
          refine H_of_R (R_nil H fun t176 H => ?_)
          refine vl_n ?_
          refine H_of_R (R_fld TF_188_1 H fun t177 H => ?_)
          refine vl_n ?_
          refine H_of_R (R_load1 T1_3 H fun _ t178 _ _ H => ?_)
          refine vl_n ?_
          refine H_of_R (R_sub H fun t179 H => ?_)
          refine vl_n ?_
          refine H_of_R (R_nil H fun t180 H => ?_)
          refine vl_n ?_
          refine H_of_R (R_fld TF_188_1 H fun t181 H => ?_)
          refine vl_n ?_
          refine H_store1 TS_3 H fun h H => ?_
          refine vl_e ?_
          refine WPc_seq (fun e h => Map_ii_delete.j5 (e 8) (e 14) h Q) ?_ (fun e h H => ?_)
          rotate_left
          · unfold Map_ii_delete.j5 at H
            refine WPc_seq' ?_
            refine W_region (by kernel_rfl) ?_
            refine vl_n ?_
            refine H_of_R (R_loadN TN_178 H fun _ t204 _ _ H _ _ => ?_)
            refine vl_n ?_
            refine H_storeN TS_178 H fun h H => ?_
            refine vl_n ?_
            refine H_of_R (R_assign (v := (.bool true)) rfl ?_)
            refine vl_e ?_
            refine WPc_ret ?_
            refine resH_of rfl ?_
            refine resL_N TN_178 ?_
            refine loadN_imp H fun r8 H => ?_
            refine resL_t ?_
            exact H
          refine WPc_seq' ?_
          refine W_drawn [0, 1, 3, 7, 15, 31, 0, 127, 255, 511, 1023, 2047, 4095, 0, 8192, 24576, 57344, 131071] (.take 0 (.take 1 (.take 2 (.take 3 (.take 4 (.take 5 (.take 6 (.take 7 (.take 8 (.take 9 (.take 10 (.take 11 (.take 12 (.take 13 (.take 14 (.take 15 (.take 16 (.take 17 .done)))))))))))))))))) mixed (by kernel_rfl) ?_
          refine tkP rfl ?_
          refine R_move (v := (e 10)) rfl ⟨fun _ => trivial, ?_⟩
          refine tkP rfl ?_
          refine R_nil H fun t183 H => ⟨fun _ => trivial, ?_⟩
          refine tkP rfl ?_
          refine R_fld TF_188_3 H fun t184 H => ⟨fun _ => trivial, ?_⟩
          refine tkL rfl ?_
          refine R_load1 T1_186 H fun at185 t185 hat185 _ H => ?_
          refine tkP rfl ?_
          refine R_nil H fun t186 H => ⟨fun _ => trivial, ?_⟩
          refine tkL rfl ?_
          refine R_load1 T1_194 H fun at187 t187 hat187 _ H => ?_
          refine tkP rfl ?_
          refine R_move (v := (e 11)) rfl ⟨fun _ => trivial, ?_⟩
          refine tkP rfl ?_
          refine R_idx TE_194 H fun t189 H => ⟨fun _ => trivial, ?_⟩
          refine tkL rfl ?_
          refine R_load1 T1_173 H fun at190 t190 hat190 _ H => ?_
          refine tkP rfl ?_
          refine R_nil H fun t191 H => ⟨fun _ => trivial, ?_⟩
          refine tkP rfl ?_
          refine R_fld TF_188_2 H fun t192 H => ⟨fun _ => trivial, ?_⟩
          refine tkL rfl ?_
          refine R_load1 T1_185 H fun at193 t193 hat193 _ H => ?_
          refine tkP rfl ?_
          refine R_len Try.underlying185 H fun t194 H => ⟨fun _ => trivial, ?_⟩
          refine tkP rfl ?_
          refine R_move (v := (e 0)) rfl ⟨fun _ => trivial, ?_⟩
          refine tkP rfl ?_
          refine R_nil H fun t196 H => ⟨fun _ => trivial, ?_⟩
          refine tkP rfl ?_
          refine R_fld TF_182_5 H fun t197 H => ⟨fun _ => trivial, ?_⟩
          refine tkL rfl ?_
          refine R_load1 T1_3 H fun at198 t198 hat198 _ H => ?_
          refine tkP rfl ?_
          refine R_lss H fun t199 H => ⟨fun _ => trivial, ?_⟩
          refine vp_done ?_
          obtain ⟨b, hc, H1, H2⟩ := H
          refine WPc_cond hc (fun hh => ?_) (fun hh => ?_)
          · have H := H1 hh; clear H1 H2
            refine W_region (by kernel_rfl) ?_
            refine vl_n ?_
            refine H_of_R (R_move (v := (e 0)) rfl ?_)
            refine vl_n ?_
            refine H_of_R (R_move (v := (e 10)) rfl ?_)
            refine vl_n ?_
            refine H_of_R (R_move (v := (e 11)) rfl ?_)
            refine vl_n ?_
            refine H_call HB_167 H fun t203 h H => ?_
            refine vl_e ?_
            exact H
          · have H := H2 hh; clear H1 H2
            refine WPc_skip ?_
            exact H
        refine WPc_seq' ?_
        refine W_region (by kernel_rfl) ?_
        refine vl_n ?_
        refine H_of_R (R_move (v := (e 15)) rfl ?_)
        refine vl_n ?_
        refine H_of_R (R_not H fun t170 H => ?_)
        refine vl_e ?_
        obtain ⟨b, hc, H1, H2⟩ := H
        refine WPc_cond hc (fun hh => ?_) (fun hh => ?_)
        · have H := H1 hh; clear H1 H2
          refine WPc_seq' ?_
          refine W_region (by kernel_rfl) ?_
          refine vl_n ?_
          refine H_of_R (R_move (v := (e 0)) rfl ?_)
          refine vl_n ?_
          refine H_of_R (R_nil H fun t172 H => ?_)
          refine vl_n ?_
          refine H_of_R (R_fld TF_182_4 H fun t173 H => ?_)
          refine vl_n ?_
          refine H_of_R (R_loadN TN_178 H fun _ t174 _ _ H _ _ => ?_)
          refine vl_n ?_
          refine H_storeN TS_178 H fun h H => ?_
          refine vl_n ?_
          refine H_of_R (R_assign (v := (.bool false)) rfl ?_)
          refine vl_e ?_
          refine WPc_ret ?_
          refine resH_of rfl ?_
          refine resL_N TN_178 ?_
          refine loadN_imp H fun r8 H => ?_
          refine resL_t ?_
          exact H
        · have H := H2 hh; clear H1 H2
          refine WPc_skip ?_
          exact H
      refine WPc_seq' ?_
      refine W_region (by kernel_rfl) ?_
      refine vl_n ?_
      refine H_of_R (R_move (v := (e 12)) rfl ?_)
      refine vl_e ?_
      obtain ⟨b, hc, H1, H2⟩ := H
      refine WPc_cond hc (fun hh => ?_) (fun hh => ?_)
      · have H := H1 hh; clear H1 H2
        refine WPc_seq' ?_
        refine W_region (by kernel_rfl) ?_
        refine vl_n ?_
        refine H_of_R (R_move (v := (e 2)) rfl ?_)
        refine vl_e ?_
        obtain ⟨b_2, hc_2, H1, H2⟩ := H
        refine WPc_cond hc_2 (fun hh => ?_) (fun hh => ?_)
        · have H := H1 hh; clear H1 H2
          refine WPc_seq' ?_
          refine W_region (by kernel_rfl) ?_
          refine vl_n ?_
          refine H_of_R (R_move (v := (e 11)) rfl ?_)
          refine vl_n ?_
          refine H_of_R (R_add H fun t103 H => ?_)
          refine vl_n ?_
          refine H_of_R (R_assign (v := t103) rfl ?_)
          refine vl_e ?_
          refine W_drawn [0, 0, 2, 6, 14, 30, 62, 0, 254, 0, 512, 1536, 3584, 7680, 16383, 32767, 65535, 65535, 131071, 524287] (.take 0 (.take 1 (.take 2 (.take 3 (.take 4 (.take 5 (.take 6 (.take 7 (.take 8 (.take 9 (.take 10 (.take 11 (.take 12 (.take 13 (.alt 14 (.take 15 (.take 16 (.take 17 (.alt 18 (.take 19 .done) .none)))) .none))))))))))))))) mixed (by kernel_rfl) ?_
          refine tkP rfl ?_
          refine R_move (v := (e 0)) rfl ⟨fun _ => trivial, ?_⟩
          refine tkP rfl ?_
          refine R_move (v := (e 10)) rfl ⟨fun _ => trivial, ?_⟩
          refine tkP rfl ?_
          refine R_nil H fun t107 H => ⟨fun _ => trivial, ?_⟩
          refine tkP rfl ?_
          refine R_fld TF_188_3 H fun t108 H => ⟨fun _ => trivial, ?_⟩
          refine tkL rfl ?_
          refine R_load1 T1_186 H fun at109 t109 hat109 _ H => ?_
          refine tkP rfl ?_
          refine R_nil H fun t110 H => ⟨fun _ => trivial, ?_⟩
          refine tkL rfl ?_
          refine R_load1 T1_194 H fun at111 t111 hat111 _ H => ?_
          refine tkP rfl ?_
          refine R_move (v := t103) rfl ⟨fun _ => trivial, ?_⟩
          refine tkP rfl ?_
          refine R_idx TE_194 H fun t113 H => ⟨fun _ => trivial, ?_⟩
          refine tkP rfl ?_
          refine R_move (v := (e 0)) rfl ⟨fun _ => trivial, ?_⟩
          refine tkP rfl ?_
          refine R_nil H fun t115 H => ⟨fun _ => trivial, ?_⟩
          refine tkP rfl ?_
          refine R_fld TF_182_4 H fun t116 H => ⟨fun _ => trivial, ?_⟩
          refine tkP rfl ?_
          refine R_fld TF_178_1 H fun t117 H => ⟨fun _ => trivial, ?_⟩
          refine tkL rfl ?_
          refine R_load1 T1_3 H fun at118 t118 hat118 _ H => ?_
          refine alt_n rfl ?_ vp_none
          refine H_call HB_127 H fun t119 h H => ⟨(hskip rfl (hskip rfl (hskip rfl hnil))), ?_⟩
          refine tkP rfl ?_
          refine R_move (v := t119) rfl ⟨fun _ => trivial, ?_⟩
          refine tkP rfl ?_
          refine R_ext H fun t120 H => ⟨fun _ => trivial, ?_⟩
          refine tkP rfl ?_
          refine R_ext H fun t121 H => ⟨fun _ => trivial, ?_⟩
          refine alt_n rfl ?_ vp_none
          refine H_storeN TS_178 H fun h H => ⟨hnil, ?_⟩
          refine tkP rfl ?_
          refine R_assign (v := t121) rfl ⟨fun _ => trivial, ?_⟩
          refine vp_done ?_
          exact H
        · have H := H2 hh; clear H1 H2
          refine WPc_seq' ?_
          refine W_region (by kernel_rfl) ?_
          refine vl_n ?_
          refine H_of_R (R_move (v := (e 10)) rfl ?_)
          refine vl_n ?_
          refine H_of_R (R_nil H fun t123 H => ?_)
          refine vl_n ?_
          refine H_of_R (R_fld TF_188_2 H fun t124 H => ?_)
          refine vl_n ?_
          refine H_of_R (R_load1 T1_185 H fun _ t125 _ _ H => ?_)
          refine vl_n ?_
          refine H_of_R (R_move (v := (e 11)) rfl ?_)
          refine vl_n ?_
          refine H_of_R (R_idx TE_185 H fun t127 H => ?_)
          refine vl_n ?_
          refine H_of_R (R_loadN TN_178 H fun _ t128 _ _ H _ _ => ?_)
          refine vl_n ?_
          refine H_storeN TS_178 H fun h H => ?_
          refine vl_e ?_
          refine WPc_seq' ?_
          refine W_drawn [0, 0, 2, 6, 14, 30, 62, 0, 254, 0, 512, 1536, 3584, 7680, 16383, 32767, 65535, 65535, 0, 393215, 1048575] (.take 0 (.take 1 (.take 2 (.take 3 (.take 4 (.take 5 (.take 6 (.take 7 (.take 8 (.take 9 (.take 10 (.take 11 (.take 12 (.take 13 (.alt 14 (.take 15 (.take 16 (.take 17 (.alt 18 (.alt 19 (.take 20 .done) .none) .none)))) (.alt 18 (.alt 14 (.take 15 (.take 16 (.take 17 (.alt 19 (.take 20 .done) .none)))) .none) .none)))))))))))))))) mixed (by kernel_rfl) ?_
          refine tkP rfl ?_
          refine R_move (v := (e 0)) rfl ⟨fun _ => trivial, ?_⟩
          refine tkP rfl ?_
          refine R_move (v := (e 10)) rfl ⟨fun _ => trivial, ?_⟩
          refine tkP rfl ?_
          refine R_nil H fun t132 H => ⟨fun _ => trivial, ?_⟩
          refine tkP rfl ?_
          refine R_fld TF_188_3 H fun t133 H => ⟨fun _ => trivial, ?_⟩
          refine tkL rfl ?_
          refine R_load1 T1_186 H fun at134 t134 hat134 _ H => ?_
          refine tkP rfl ?_
          refine R_nil H fun t135 H => ⟨fun _ => trivial, ?_⟩
          refine tkL rfl ?_
          refine R_load1 T1_194 H fun at136 t136 hat136 _ H => ?_
          refine tkP rfl ?_
          refine R_move (v := (e 11)) rfl ⟨fun _ => trivial, ?_⟩
          refine tkP rfl ?_
          refine R_idx TE_194 H fun t138 H => ⟨fun _ => trivial, ?_⟩
          refine tkP rfl ?_
          refine R_move (v := (e 0)) rfl ⟨fun _ => trivial, ?_⟩
          refine tkP rfl ?_
          refine R_nil H fun t140 H => ⟨fun _ => trivial, ?_⟩
          refine tkP rfl ?_
          refine R_fld TF_182_4 H fun t141 H => ⟨fun _ => trivial, ?_⟩
          refine tkP rfl ?_
          refine R_fld TF_178_1 H fun t142 H => ⟨fun _ => trivial, ?_⟩
          refine tkL rfl ?_
          refine R_load1 T1_3 H fun at143 t143 hat143 _ H => ?_
          obtain ⟨HA0, HA1⟩ := H
          refine alt_n rfl ?_ ?_
          · have H := HA0; clear HA0 HA1
            refine H_call HB_127 H fun t144 h H => ⟨(hskip rfl (hskip rfl (hskip rfl hnil))), ?_⟩
            refine tkP rfl ?_
            refine R_move (v := t144) rfl ⟨fun _ => trivial, ?_⟩
            refine tkP rfl ?_
            refine R_ext H fun t145 H => ⟨fun _ => trivial, ?_⟩
            refine tkP rfl ?_
            refine R_ext H fun t146 H => ⟨fun _ => trivial, ?_⟩
            refine alt_n rfl ?_ vp_none
            refine H_alloc TV_178 H fun t16 h H => ⟨hnil, ?_⟩
            refine alt_n rfl ?_ vp_none
            refine H_storeN TS_178 H fun h H => ⟨hnil, ?_⟩
            refine tkP rfl ?_
            refine R_assign (v := t146) rfl ⟨fun _ => trivial, ?_⟩
            refine vp_done ?_
            refine WPc_seq' ?_
            refine W_region (by kernel_rfl) ?_
            refine vl_n ?_
            refine H_of_R (R_assign (v := (.bool true)) rfl ?_)
            refine vl_e ?_
            refine W_drawn [0, 1, 3, 7, 0, 0, 63, 127] (.take 0 (.take 1 (.take 2 (.take 3 (.take 4 (.take 5 (.take 6 (.alt 7 .done .none)))))))) mixed (by kernel_rfl) ?_
            refine tkP rfl ?_
            refine R_move (v := (e 10)) rfl ⟨fun _ => trivial, ?_⟩
            refine tkP rfl ?_
            refine R_nil H fun t148 H => ⟨fun _ => trivial, ?_⟩
            refine tkP rfl ?_
            refine R_fld TF_188_2 H fun t149 H => ⟨fun _ => trivial, ?_⟩
            refine tkL rfl ?_
            refine R_load1 T1_185 H fun at150 t150 hat150 _ H => ?_
            refine tkP rfl ?_
            refine R_move (v := (e 11)) rfl ⟨fun _ => trivial, ?_⟩
            refine tkL rfl ?_
            refine R_loadN TN_178 H fun at152 xt152 hat152 _ H St152 hSt152 => ?_
            refine tkP rfl ?_
            refine R_idx TE_185 H fun t153 H => ⟨fun _ => trivial, ?_⟩
            refine alt_n rfl ?_ vp_none
            refine H_storeN TS_178 H fun h H => ⟨(hskip rfl (hskip rfl hnil)), ?_⟩
            refine vp_done ?_
            exact H
          refine alt_n rfl ?_ vp_none
          have H := HA1; clear HA0 HA1
          refine H_alloc TV_178 H fun t16_2 h ⟨S, S_2, S_3, H⟩ => ⟨(hcons rfl (still_1 S_3 hat143) (hcons rfl (still_1 S_2 hat136) (hcons rfl (still_1 S hat134) hnil))), ?_⟩
          refine alt_n rfl ?_ vp_none
          refine H_call HB_127 H fun t144_2 h H => ⟨(hskip rfl (hskip rfl (hskip rfl hnil))), ?_⟩
          refine tkP rfl ?_
          refine R_move (v := t144_2) rfl ⟨fun _ => trivial, ?_⟩
          refine tkP rfl ?_
          refine R_ext H fun t145_2 H => ⟨fun _ => trivial, ?_⟩
          refine tkP rfl ?_
          refine R_ext H fun t146_2 H => ⟨fun _ => trivial, ?_⟩
          refine alt_n rfl ?_ vp_none
          refine H_storeN TS_178 H fun h H => ⟨hnil, ?_⟩
          refine tkP rfl ?_
          refine R_assign (v := t146_2) rfl ⟨fun _ => trivial, ?_⟩
          refine vp_done ?_
          refine WPc_seq' ?_
          refine W_region (by kernel_rfl) ?_
          refine vl_n ?_
          refine H_of_R (R_assign (v := (.bool true)) rfl ?_)
          refine vl_e ?_
          refine W_drawn [0, 1, 3, 7, 0, 0, 63, 127] (.take 0 (.take 1 (.take 2 (.take 3 (.take 4 (.take 5 (.take 6 (.alt 7 .done .none)))))))) mixed (by kernel_rfl) ?_
          refine tkP rfl ?_
          refine R_move (v := (e 10)) rfl ⟨fun _ => trivial, ?_⟩
          refine tkP rfl ?_
          refine R_nil H fun t148_2 H => ⟨fun _ => trivial, ?_⟩
          refine tkP rfl ?_
          refine R_fld TF_188_2 H fun t149_2 H => ⟨fun _ => trivial, ?_⟩
          refine tkL rfl ?_
          refine R_load1 T1_185 H fun at150_2 t150_2 hat150_2 _ H => ?_
          refine tkP rfl ?_
          refine R_move (v := (e 11)) rfl ⟨fun _ => trivial, ?_⟩
          refine tkL rfl ?_
          refine R_loadN TN_178 H fun at152_2 xt152_2 hat152_2 _ H St152_2 hSt152_2 => ?_
          refine tkP rfl ?_
          refine R_idx TE_185 H fun t153_2 H => ⟨fun _ => trivial, ?_⟩
          refine alt_n rfl ?_ vp_none
          refine H_storeN TS_178 H fun h H => ⟨(hskip rfl (hskip rfl hnil)), ?_⟩
          refine vp_done ?_
          exact H
      · have H := H2 hh; clear H1 H2
        refine W_region (by kernel_rfl) ?_
        refine vl_n ?_
        refine H_of_R (R_move (v := (e 0)) rfl ?_)
        refine vl_n ?_
        refine H_of_R (R_move (v := (e 10)) rfl ?_)
        refine vl_n ?_
        refine H_of_R (R_nil H fun t157 H => ?_)
        refine vl_n ?_
        refine H_of_R (R_fld TF_188_3 H fun t158 H => ?_)
        refine vl_n ?_
        refine H_of_R (R_load1 T1_186 H fun _ t159 _ _ H => ?_)
        refine vl_n ?_
        refine H_of_R (R_nil H fun t160 H => ?_)
        refine vl_n ?_
        refine H_of_R (R_load1 T1_194 H fun _ t161 _ _ H => ?_)
        refine vl_n ?_
        refine H_of_R (R_move (v := (e 11)) rfl ?_)
        refine vl_n ?_
        refine H_of_R (R_idx TE_194 H fun t163 H => ?_)
        refine vl_n ?_
        refine H_of_R (R_move (v := (e 2)) rfl ?_)
        refine vl_n ?_
        refine H_of_R (R_move (v := (e 3)) rfl ?_)
        refine vl_n ?_
        refine H_call HB_127 H fun t166 h H => ?_
        refine vl_n ?_
        refine H_of_R (R_move (v := t166) rfl ?_)
        refine vl_n ?_
        refine H_of_R (R_ext H fun t167 H => ?_)
        refine vl_n ?_
        refine H_of_R (R_ext H fun t168 H => ?_)
        refine vl_n ?_
        refine H_storeN TS_178 H fun h H => ?_
        refine vl_n ?_
        refine H_of_R (R_assign (v := t168) rfl ?_)
        refine vl_e ?_
        exact H
    refine WPc_seq' ?_
    refine W_region (by kernel_rfl) ?_
    refine vl_n ?_
    refine H_of_R (R_move (v := (e 10)) rfl ?_)
    refine vl_n ?_
    refine H_call HB_126 H fun t36 h H => ?_
    refine vl_e ?_
    obtain ⟨b, hc, H1, H2⟩ := H
    refine WPc_cond hc (fun hh => ?_) (fun hh => ?_)
    · have H := H1 hh; clear H1 H2
      refine WPc_seq (fun e h => Map_ii_delete.j6 (e 0) (e 8) h Q) ?_ (fun e h H => ?_)
      rotate_left
      · unfold Map_ii_delete.j6 at H
        refine WPc_seq' ?_
        refine W_region (by kernel_rfl) ?_
        refine vl_n ?_
        refine H_of_R (R_move (v := (e 0)) rfl ?_)
        refine vl_n ?_
        refine H_of_R (R_nil H fun t97 H => ?_)
        refine vl_n ?_
        refine H_of_R (R_fld TF_182_4 H fun t98 H => ?_)
        refine vl_n ?_
        refine H_of_R (R_loadN TN_178 H fun _ t99 _ _ H _ _ => ?_)
        refine vl_n ?_
        refine H_storeN TS_178 H fun h H => ?_
        refine vl_n ?_
        refine H_of_R (R_assign (v := (.bool false)) rfl ?_)
        refine vl_e ?_
        refine WPc_ret ?_
        refine resH_of rfl ?_
        refine resL_N TN_178 ?_
        refine loadN_imp H fun r8 H => ?_
        refine resL_t ?_
        exact H
      refine WPc_seq' ?_
      refine W_region (by kernel_rfl) ?_
      refine vl_n ?_
      refine H_of_R (R_move (v := (e 12)) rfl ?_)
      refine vl_e ?_
      obtain ⟨b_2, hc_2, H1, H2⟩ := H
      refine WPc_cond hc_2 (fun hh => ?_) (fun hh => ?_)
      · have H := H1 hh; clear H1 H2
        refine WPc_seq' ?_
        refine W_region (by kernel_rfl) ?_
        refine vl_n ?_
        refine H_of_R (R_move (v := (e 10)) rfl ?_)
        refine vl_n ?_
        refine H_of_R (R_nil H fun t39 H => ?_)
        refine vl_n ?_
        refine H_of_R (R_fld TF_188_2 H fun t40 H => ?_)
        refine vl_n ?_
        refine H_of_R (R_load1 T1_185 H fun _ t41 _ _ H => ?_)
        refine vl_n ?_
        refine H_of_R (R_move (v := (e 11)) rfl ?_)
        refine vl_n ?_
        refine H_of_R (R_idx TE_185 H fun t43 H => ?_)
        refine vl_n ?_
        refine H_of_R (R_loadN TN_178 H fun _ t44 _ _ H _ _ => ?_)
        refine vl_n ?_
        refine H_alloc TV_178 H fun t13 h H => ?_
        refine vl_n ?_
        refine H_storeN TS_178 H fun h H => ?_
        refine vl_e ?_
        refine WPc_seq' ?_
        refine W_drawn [0, 1, 3, 7, 0, 31, 0, 64, 192, 448, 0, 1024, 4032, 8191] (.take 0 (.take 1 (.take 2 (.take 3 (.take 4 (.take 5 (.take 6 (.take 7 (.take 8 (.take 9 (.take 10 (.take 11 (.take 12 (.alt 13 .done .none)))))))))))))) mixed (by kernel_rfl) ?_
        refine tkP rfl ?_
        refine R_move (v := (e 10)) rfl ⟨fun _ => trivial, ?_⟩
        refine tkP rfl ?_
        refine R_nil H fun t46 H => ⟨fun _ => trivial, ?_⟩
        refine tkP rfl ?_
        refine R_fld TF_188_2 H fun t47 H => ⟨fun _ => trivial, ?_⟩
        refine tkL rfl ?_
        refine R_load1 T1_185 H fun at48 t48 hat48 _ H => ?_
        refine tkP rfl ?_
        refine R_move (v := (e 11)) rfl ⟨fun _ => trivial, ?_⟩
        refine tkP rfl ?_
        refine R_slice TE_185 (by decide) H fun t50 H => ⟨fun _ => trivial, ?_⟩
        refine tkP rfl ?_
        refine R_move (v := (e 10)) rfl ⟨fun _ => trivial, ?_⟩
        refine tkP rfl ?_
        refine R_nil H fun t52 H => ⟨fun _ => trivial, ?_⟩
        refine tkP rfl ?_
        refine R_fld TF_188_2 H fun t53 H => ⟨fun _ => trivial, ?_⟩
        refine tkL rfl ?_
        refine R_load1 T1_185 H fun at54 t54 hat54 _ H => ?_
        refine tkP rfl ?_
        refine R_move (v := (e 11)) rfl ⟨fun _ => trivial, ?_⟩
        refine tkP rfl ?_
        refine R_add H fun t56 H => ⟨fun _ => trivial, ?_⟩
        refine tkP rfl ?_
        refine R_slice TE_185 (by decide) H fun t57 H => ⟨fun _ => trivial, ?_⟩
        refine alt_n rfl ?_ vp_none
        refine H_cpy TE_185 H fun t58 h H => ⟨(hskip rfl (hskip rfl hnil)), ?_⟩
        refine vp_done ?_
        refine WPc_seq' ?_
        refine W_drawn [0, 1, 3, 7, 0, 16, 48, 112, 240, 496, 0, 1024, 3072, 7168, 16383, 32767] (.take 0 (.take 1 (.take 2 (.take 3 (.take 4 (.take 5 (.take 6 (.take 7 (.take 8 (.take 9 (.take 10 (.take 11 (.take 12 (.take 13 (.take 14 (.alt 15 .done .none)))))))))))))))) mixed (by kernel_rfl) ?_
        refine tkP rfl ?_
        refine R_move (v := (e 10)) rfl ⟨fun _ => trivial, ?_⟩
        refine tkP rfl ?_
        refine R_nil H fun t60 H => ⟨fun _ => trivial, ?_⟩
        refine tkP rfl ?_
        refine R_fld TF_188_2 H fun t61 H => ⟨fun _ => trivial, ?_⟩
        refine tkL rfl ?_
        refine R_load1 T1_185 H fun at62 t62 hat62 _ H => ?_
        refine tkP rfl ?_
        refine R_move (v := (e 10)) rfl ⟨fun _ => trivial, ?_⟩
        refine tkP rfl ?_
        refine R_nil H fun t64 H => ⟨fun _ => trivial, ?_⟩
        refine tkP rfl ?_
        refine R_fld TF_188_2 H fun t65 H => ⟨fun _ => trivial, ?_⟩
        refine tkL rfl ?_
        refine R_load1 T1_185 H fun at66 t66 hat66 _ H => ?_
        refine tkP rfl ?_
        refine R_len Try.underlying185 H fun t67 H => ⟨fun _ => trivial, ?_⟩
        refine tkP rfl ?_
        refine R_sub H fun t68 H => ⟨fun _ => trivial, ?_⟩
        refine tkP rfl ?_
        refine R_move (v := (e 0)) rfl ⟨fun _ => trivial, ?_⟩
        refine tkP rfl ?_
        refine R_nil H fun t70 H => ⟨fun _ => trivial, ?_⟩
        refine tkP rfl ?_
        refine R_fld TF_182_4 H fun t71 H => ⟨fun _ => trivial, ?_⟩
        refine tkL rfl ?_
        refine R_loadN TN_178 H fun at72 xt72 hat72 _ H St72 hSt72 => ?_
        refine tkP rfl ?_
        refine R_idx TE_185 H fun t73 H => ⟨fun _ => trivial, ?_⟩
        refine alt_n rfl ?_ vp_none
        refine H_storeN TS_178 H fun h H => ⟨(hskip rfl (hskip rfl (hskip rfl hnil))), ?_⟩
        refine vp_done ?_
        refine WPc_seq' ?_
        refine W_drawn [0, 0, 2, 6, 14, 0, 32, 96, 224, 480, 992, 2046, 4095, 8191, 16383] (.take 0 (.take 1 (.take 2 (.take 3 (.take 4 (.take 5 (.take 6 (.take 7 (.take 8 (.take 9 (.take 10 (.take 11 (.take 12 (.take 13 (.alt 14 .done .none))))))))))))))) mixed (by kernel_rfl) ?_
        refine tkP rfl ?_
        refine R_move (v := (e 10)) rfl ⟨fun _ => trivial, ?_⟩
        refine tkP rfl ?_
        refine R_move (v := (e 10)) rfl ⟨fun _ => trivial, ?_⟩
        refine tkP rfl ?_
        refine R_nil H fun t76 H => ⟨fun _ => trivial, ?_⟩
        refine tkP rfl ?_
        refine R_fld TF_188_2 H fun t77 H => ⟨fun _ => trivial, ?_⟩
        refine tkL rfl ?_
        refine R_load1 T1_185 H fun at78 t78 hat78 _ H => ?_
        refine tkP rfl ?_
        refine R_move (v := (e 10)) rfl ⟨fun _ => trivial, ?_⟩
        refine tkP rfl ?_
        refine R_nil H fun t80 H => ⟨fun _ => trivial, ?_⟩
        refine tkP rfl ?_
        refine R_fld TF_188_2 H fun t81 H => ⟨fun _ => trivial, ?_⟩
        refine tkL rfl ?_
        refine R_load1 T1_185 H fun at82 t82 hat82 _ H => ?_
        refine tkP rfl ?_
        refine R_len Try.underlying185 H fun t83 H => ⟨fun _ => trivial, ?_⟩
        refine tkP rfl ?_
        refine R_sub H fun t84 H => ⟨fun _ => trivial, ?_⟩
        refine tkP rfl ?_
        refine R_slice TE_185 (by decide) H fun t85 H => ⟨fun _ => trivial, ?_⟩
        refine tkP rfl ?_
        refine R_nil H fun t86 H => ⟨fun _ => trivial, ?_⟩
        refine tkP rfl ?_
        refine R_fld TF_188_2 H fun t87 H => ⟨fun _ => trivial, ?_⟩
        refine alt_n rfl ?_ vp_none
        refine H_store1 TS_185 H fun h H => ⟨(hskip rfl (hskip rfl hnil)), ?_⟩
        refine vp_done ?_
        refine WPc_seq' ?_
        refine W_region (by kernel_rfl) ?_
        refine vl_n ?_
        refine H_of_R (R_move (v := (e 10)) rfl ?_)
        refine vl_n ?_
        refine H_of_R (R_nil H fun t89 H => ?_)
        refine vl_n ?_
        refine H_of_R (R_fld TF_188_1 H fun t90 H => ?_)
        refine vl_n ?_
        refine H_of_R (R_load1 T1_3 H fun _ t91 _ _ H => ?_)
        refine vl_n ?_
        refine H_of_R (R_sub H fun t92 H => ?_)
        refine vl_n ?_
        refine H_of_R (R_nil H fun t93 H => ?_)
        refine vl_n ?_
        refine H_of_R (R_fld TF_188_1 H fun t94 H => ?_)
        refine vl_n ?_
        refine H_store1 TS_3 H fun h H => ?_
        refine vl_e ?_
        refine WPc_seq' ?_
        refine W_region (by kernel_rfl) ?_
        refine vl_n ?_
        refine H_of_R (R_loadN TN_178 H fun _ t95 _ _ H _ _ => ?_)
        refine vl_n ?_
        refine H_storeN TS_178 H fun h H => ?_
        refine vl_n ?_
        refine H_of_R (R_assign (v := (.bool true)) rfl ?_)
        refine vl_e ?_
        refine WPc_ret ?_
        refine resH_of rfl ?_
        refine resL_N TN_178 ?_
        refine loadN_imp H fun r8 H => ?_
        refine resL_t ?_
        exact H
      · have H := H2 hh; clear H1 H2
        refine WPc_skip ?_
        exact H
    · have H := H2 hh; clear H1 H2
      refine WPc_skip ?_
      exact H
  refine WPc_seq' ?_
  refine W_region (by kernel_rfl) ?_
  refine vl_n ?_
  refine H_of_R (R_move (v := a2) rfl ?_)
  refine vl_e ?_
  obtain ⟨b, hc, H1, H2⟩ := H
  refine WPc_cond hc (fun hh => ?_) (fun hh => ?_)
  · have H := H1 hh; clear H1 H2
    refine W_region (by kernel_rfl) ?_
    refine vl_n ?_
    refine H_of_R (R_move (v := t20) rfl ?_)
    refine vl_n ?_
    refine H_of_R (R_nil H fun t23 H => ?_)
    refine vl_n ?_
    refine H_of_R (R_fld TF_188_2 H fun t24 H => ?_)
    refine vl_n ?_
    refine H_of_R (R_load1 T1_185 H fun _ t25 _ _ H => ?_)
    refine vl_n ?_
    refine H_of_R (R_len Try.underlying185 H fun t26 H => ?_)
    refine vl_n ?_
    refine H_of_R (R_sub H fun t27 H => ?_)
    refine vl_n ?_
    refine H_of_R (R_assign (v := t27) rfl ?_)
    refine vl_n ?_
    refine H_of_R (R_assign (v := (.bool true)) rfl ?_)
    refine vl_e ?_
    exact H
  · have H := H2 hh; clear H1 H2
    refine W_region (by kernel_rfl) ?_
    refine vl_n ?_
    refine H_of_R (R_move (v := a0) rfl ?_)
    refine vl_n ?_
    refine H_of_R (R_move (v := t20) rfl ?_)
    refine vl_n ?_
    refine H_of_R (R_move (v := a3) rfl ?_)
    refine vl_n ?_
    refine H_call HB_156 H fun t32 h H => ?_
    refine vl_n ?_
    refine H_of_R (R_move (v := t32) rfl ?_)
    refine vl_n ?_
    refine H_of_R (R_ext H fun t33 H => ?_)
    refine vl_n ?_
    refine H_of_R (R_ext H fun t34 H => ?_)
    refine vl_n ?_
    refine H_of_R (R_assign (v := t33) rfl ?_)
    refine vl_n ?_
    refine H_of_R (R_assign (v := t34) rfl ?_)
    refine vl_e ?_
    exact H

end Go.Proofs.Ytlihjljdndbpdaa
end
section
namespace Go.Proofs.Ytlihjljdndbpdaa.Ii
open Go.Hp Go.Proofs.Ytlihjljdndbpdaa
set_option linter.unusedVariables false
set_option linter.unusedSimpArgs false
set_option maxHeartbeats 4000000
variable {h0 h : Heap} {Z E : List Rg} {Q : Value → Heap → Prop}
attribute [local irreducible] load1 loadN store1 storeN fld nilck lenV idx arith cmpI notV extr mkSl app cpy slc ifV

theorem fl_any {m lo lo' : Nat} : ∀ {k : Nat} {t : PT It k}, t.Fl m lo → lo' ≤ t.its.length → t.Fl m lo'
  | 0, _, f, h => ⟨h, f.2⟩
  | _ + 1, _, f, h => ⟨h, f.2⟩
theorem fx_set {m lo i k : Nat} {its : List It} {ks : List (PT It k)} {c : PT It k} (f : PT.Fl m lo (h := k + 1) (its, ks)) (fc : c.Fl m (m / 2 - 1)) (its' : List It) (hl : its'.length = its.length) : PT.Fx m lo i ((its', ks.set i c) : PT It (k + 1)) := by
  obtain ⟨f1, f2, f3, f4⟩ := f
  refine ⟨by show lo ≤ its'.length; rw [hl]; exact f1, by show its'.length ≤ m; rw [hl]; exact f2, by show (ks.set i c).length = its'.length + 1; rw [hl, List.length_set]; exact f3, fun j q hq => ?_⟩
  have hq : (ks.set i c)[j]? = some q := hq
  rw [List.getElem?_set] at hq
  by_cases e : i = j
  · subst e
    rw [if_pos rfl] at hq ⊢
    split at hq
    · cases hq; exact fc
    · cases hq
  · rw [if_neg e] at hq
    rw [if_neg (fun h => e h.symm)]
    exact f4 q (List.mem_of_getElem? hq)
theorem topI : ∀ {k : Nat} {t : GT It k}, ∃ a1 a2 a3, (t.id, 0, [a1, a2, t.nd.iv, a3]) ∈ t.all enc
  | 0, d => ⟨_, _, _, List.mem_cons_self ..⟩
  | _ + 1, t => ⟨_, _, _, List.mem_append.2 (.inl (List.mem_cons_self ..))⟩

theorem rebalance_ok {tb m i lo : Nat} {iso mn : Int} {ctr : Option Addr} (hT0 : (tb, 0, hd0 iso ctr) ∈ Z) (hT4 : (tb, 4, hd4 mn m) ∈ Z) (hm3 : 3 ≤ m) (hm1 : m ≤ 1024) (ho : m % 2 = 1) {k : Nat} (t : GT It (k + 1))
    (fx : t.pt.Fx m lo i) (h1 : 1 ≤ t.pt.1.length) (hi : i ≤ t.pt.1.length) (hdef : ∀ c, t.pt.2[i]? = some c → c.its.length + 1 = m / 2)
    (hsz : t.pt.items.length ≤ 4611686018427387903) (g : Gd iso t) (s : St h0 Z (t.all enc ++ E) h)
    (H : ∀ (t' : GT It (k + 1)) h', Mended iso m t t' → St h0 Z (t'.all enc ++ E) h' → Q (.tuple #[]) h') : Map_ii_nodeRebalance.call #[ptr tb 0, ptr t.id 0, .int .i64 i] h Q := by
  obtain ⟨f1, f2, f3, f4⟩ := fx
  have hall : ∀ c ∈ t.pt.2, PT.Fl m (m / 2 - 1) c := fun c hc => by
    obtain ⟨j, hj⟩ := List.getElem?_of_mem hc
    have := f4 j c hj
    split at this
    · exact this
    · exact this.mono (by omega)
  refine Map_ii_nodeRebalance.body _ _ _ _ _ ?_
  unfold Map_ii_nodeRebalance.sh
  have main : ∀ j, j < t.pt.1.length → (j = i ∨ j + 1 = i) → Map_ii_nodeRebalance.j1 (ptr tb 0) (ptr t.id 0) (.int .i64 j) h Q := fun j hj hij => by
    refine rebalance_j hT0 hT4 hm3 hm1 ho t f2 hj hall (fun c c' hc hc' => ?_) (fun q c hc n1 n2 => ?_) hsz g s H
    · rcases hij with e | e
      · subst e
        refine .inl ⟨hdef c hc, ?_⟩
        have := f4 (j + 1) c' hc'
        rw [if_neg (by omega)] at this; exact this
      · refine .inr ⟨?_, hdef c' (e ▸ hc')⟩
        have := f4 j c hc
        rw [if_neg (by omega)] at this; exact this
    · have := f4 q c hc
      rw [if_neg (by omega)] at this; exact this
  have w : Own 2 t.nd.iv t.nd.its.length t.nd.ib t.nd.io (t.nd.its.flatMap enc) t.nd.isp := g.own
  have hil : t.pt.1.length = t.nd.its.length := rfl
  have s2 := s
  rw [all_eq] at s2
  have s := s2
  have s : St h0 Z ((t.id, 0, [.int .u64 t.nd.iso, .int .i64 t.nd.cnt, t.nd.iv, GT.kp t]) :: (t.nd.ib, t.nd.io, t.nd.its.flatMap enc ++ t.nd.isp) :: (GT.rest t ++ E)) h := s
  refine r_nil ?_
  refine r_fld ?_
  refine St.r_load0 s 0 rfl rfl ?_
  refine Own.lenV (by assumption) ?_
  refine r_cmpI ?_
  refine r_if (fun he => ?_) (fun hn => ?_)
  · have he : i = t.nd.its.length := by simp at he; omega
    refine r_sub1 (by omega) (by omega) ?_
    refine main (i - 1) (by omega) (.inr (by omega))
  · have hn : i ≠ t.nd.its.length := by simp at hn; omega
    exact main i (by omega) (.inl rfl)

theorem del_after {tb m i lo n ib io kb krb kro t8 t14 pb po : Nat} {iso mn : Int} {ctr : Option Addr} {its : List It} {iv kv : Value} {isp ksp : List Value} {y z8 : It} (hT0 : (tb, 0, hd0 iso ctr) ∈ Z) (hT4 : (tb, 4, hd4 mn m) ∈ Z) (hmn : mn = ((m / 2 : Nat) : Int)) (hm3 : 3 ≤ m) (hm1 : m ≤ 1024) (ho : m % 2 = 1) {k : Nat} {ts : List (GT It k)}
    (w : Own 2 iv its.length ib io (its.flatMap enc) isp) (wK : Own 1 kv ((ts.map GT.id).map pp).length krb kro (((ts.map GT.id).map pp).flatMap fv) ksp) (gk : ∀ c ∈ ts, Gd iso c)
    (fx : PT.Fx m lo i ((its, ts.map GT.pt) : PT It (k + 1))) (h1 : 1 ≤ its.length) (hi : i ≤ its.length) (hsz : (PT.items (h := k + 1) (its, ts.map GT.pt)).length ≤ 4611686018427387903)
    (s : St h0 Z ((t14, 0, enc y) :: (t8, 0, enc z8) :: (pb, po, [ptr n 0]) :: (n, 0, [.int .u64 iso, .int .i64 (((PT.items (h := k + 1) (its, ts.map GT.pt)).length + 1 : Nat) : Int), iv, ptr kb 0]) :: (ib, io, its.flatMap enc ++ isp) :: (kb, 0, [kv]) :: (krb, kro, ((ts.map GT.id).map pp).flatMap fv ++ ksp) :: (ts.flatMap (GT.all enc) ++ E)) h)
    (H : ∀ (t' : GT It (k + 1)) h', t'.id = n → t'.pt.items = PT.items (h := k + 1) (its, ts.map GT.pt) → t'.pt.Fl m (its.length - 1) → Gd iso t' → St h0 Z ((pb, po, [ptr n 0]) :: (t'.all enc ++ E)) h' → Q (.tuple #[.agg (enc y).toArray, .bool true]) h') :
    Map_ii_delete.j4 (ptr tb 0) (ptr t8 0) (ptr n 0) (.int .i64 i) (ptr t14 0) h Q := by
  have hkl : ts.length = its.length + 1 := by have := fx.2.2.1; simpa using this
  have hlm : its.length ≤ m := fx.2.1
  have hKl : ((ts.map GT.id).map pp).length = ts.length := by rw [List.length_map, List.length_map]
  obtain ⟨c, hc⟩ : ∃ c, ts[i]? = some c := ⟨ts[i]'(by omega), List.getElem?_eq_getElem (by omega)⟩
  have hcm := List.mem_of_getElem? hc
  have gc := gk c hcm
  have hck : ((ts.map GT.id).map pp)[i]? = some (ptr c.id 0) := by rw [List.getElem?_map, List.getElem?_map, hc]; rfl
  have hcp : (ts.map GT.pt)[i]? = some c.pt := by rw [List.getElem?_map, hc]; rfl
  have fc : PT.Fl m (m / 2 - 1) c.pt := by have := fx.2.2.2 i c.pt hcp; rw [if_pos rfl] at this; exact this
  have hcl : c.nd.its.length ≤ m := (fl_its fc).2
  have hcl1 : m / 2 - 1 ≤ c.nd.its.length := (fl_its fc).1
  obtain ⟨a1, a2, a3, hct⟩ := topI (t := c)
  have wc := gc.own
  have hct' : (c.id, 0, [a1, a2, c.nd.iv, a3]) ∈ ts.flatMap (GT.all enc) := List.mem_flatMap.2 ⟨c, hcm, hct⟩
  obtain ⟨t0, ht1, gt, ht2, ht3, ht4⟩ := mk_inner (n := n) (kb := kb) (iso := iso) w wK hkl gk
  subst hmn
  unfold Map_ii_delete.j4
  refine r_nil ?_
  refine r_fld ?_
  refine St.r_load0 s 3 rfl rfl ?_
  refine r_sub1 (by omega) (by omega) ?_
  refine r_nil ?_
  refine r_fld ?_
  (refine St.r_store0 s 3 rfl (by simp) rfl ?_; intro h s; try simp only [List.set_cons_zero, List.set_cons_succ] at s)
  refine r_nil ?_
  refine r_fld ?_
  refine St.r_load0 s 3 rfl rfl ?_
  refine r_nil ?_
  refine St.r_load0 s 5 rfl rfl ?_
  (refine Own.idx (by assumption) rfl (by first | omega | (simp; done) | (simp; omega)) ?_)
  refine s.r_loadV 6 rfl (by assumption) ?_
  refine r_nil ?_
  refine r_fld ?_
  refine s.r_loadD 7 (List.mem_append.2 (.inl hct')) rfl ?_
  refine Own.lenV (by assumption) ?_
  refine r_nil ?_
  refine r_fld ?_
  refine s.r_lz hT4 2 rfl rfl ?_
  refine r_cmpI ?_
  refine r_if (fun hlt => ?_) (fun hge => ?_)
  · have hlt : c.nd.its.length < m / 2 := by have := of_decide_eq_true hlt; omega
    have s0 : St h0 Z (t0.all enc ++ ((t14, 0, enc y) :: (t8, 0, enc z8) :: (pb, po, [ptr n 0]) :: E)) h := s.perm (by rw [ht4]; simp only [Nat.add_sub_cancel]; ((apply perm_rg; intro f; simp only [List.set_cons_zero, List.set_cons_succ, List.eraseIdx_cons_zero, List.eraseIdx_cons_succ, List.cons_append, List.nil_append, List.map_append, List.map_cons, List.map_nil, List.sum_append, List.sum_cons, List.sum_nil, List.map_flatMap, Nat.add_zero, Nat.zero_add]; ac_rfl)))
    rw [← ht1]
    refine rebalance_ok hT0 hT4 hm3 hm1 ho t0 (by rw [ht2]; exact fx) (by rw [ht2]; exact h1) (by rw [ht2]; exact hi) (fun q hq => ?_) (by rw [ht2]; exact hsz) gt s0 fun t' h M s => ?_
    · rw [ht2] at hq
      have : q = c.pt := Option.some.inj (hq.symm.trans hcp)
      rw [this, GT.pt_its]; omega
    · obtain ⟨M1, M2, M3, M4⟩ := M
      have s : St h0 Z ((t14, 0, enc y) :: (t8, 0, enc z8) :: (pb, po, [ptr n 0]) :: (t'.all enc ++ E)) h := s.perm (by ((apply perm_rg; intro f; simp only [List.set_cons_zero, List.set_cons_succ, List.eraseIdx_cons_zero, List.eraseIdx_cons_succ, List.cons_append, List.nil_append, List.map_append, List.map_cons, List.map_nil, List.sum_append, List.sum_cons, List.sum_nil, List.map_flatMap, Nat.add_zero, Nat.zero_add]; ac_rfl)))
      unfold Map_ii_delete.j5
      refine St.r_loadN0 s 0 rfl (by simp) ?_
      (refine St.r_storeN0 s 1 rfl rfl (by simp) (enc1 _) ?_; intro h s; try simp only [List.set_cons_zero, List.set_cons_succ] at s)
      refine St.r_loadN0 s 1 rfl (by simp) ?_
      rw [ht2] at M2 M3
      exact H t' h (M1.trans ht1) M2 M3 M4 (s.drop 2)
  · have hge : m / 2 ≤ c.nd.its.length := by have := of_decide_eq_false hge; omega
    unfold Map_ii_delete.j5
    refine St.r_loadN0 s 0 rfl (by simp) ?_
    (refine St.r_storeN0 s 1 rfl rfl (by simp) (enc1 _) ?_; intro h s; try simp only [List.set_cons_zero, List.set_cons_succ] at s)
    refine St.r_loadN0 s 1 rfl (by simp) ?_
    refine H t0 h ht1 (by rw [ht2]) ?_ gt ((s.perm (E' := (t14, 0, enc y) :: (t8, 0, enc y) :: ((pb, po, [ptr n 0]) :: (t0.all enc ++ E))) ?_).drop 2)
    · rw [ht2]
      refine fl_inner (by omega) hlm (by rw [List.length_map]; exact hkl) fun q hq => ?_
      obtain ⟨j, hj⟩ := List.getElem?_of_mem hq
      have := fx.2.2.2 j q hj
      split at this
      · rename_i e; subst e
        have : q = c.pt := Option.some.inj (hj.symm.trans hcp)
        rw [this]; exact fl_any fc (by rw [GT.pt_its]; exact hge)
      · exact this
    · rw [ht4]; simp only [Nat.add_sub_cancel]; ((apply perm_rg; intro f; simp only [List.set_cons_zero, List.set_cons_succ, List.eraseIdx_cons_zero, List.eraseIdx_cons_succ, List.cons_append, List.nil_append, List.map_append, List.map_cons, List.map_nil, List.sum_append, List.sum_cons, List.sum_nil, List.map_flatMap, Nat.add_zero, Nat.zero_add]; ac_rfl))
end Go.Proofs.Ytlihjljdndbpdaa.Ii
end
section
namespace Go.Proofs.Ytlihjljdndbpdaa.Ii
open Go.Hp Go.Proofs.Ytlihjljdndbpdaa
set_option linter.unusedVariables false
set_option linter.unusedSimpArgs false
set_option maxHeartbeats 4000000
variable {h0 h : Heap} {Z E : List Rg} {Q : Value → Heap → Prop}
attribute [local irreducible] load1 loadN store1 storeN fld nilck lenV idx arith cmpI notV extr mkSl app cpy slc ifV

/-- What is taken out: the last item, or the one that is as x. -/
def Taken (mx : Bool) (x : It) (l l' : List It) (y : It) (ok : Bool) : Prop :=
  if mx then ok = true ∧ l = l' ++ [y] else match lget lt l x with
    | none => ok = false ∧ y = emp ∧ l' = l
    | some z => ok = true ∧ y = z ∧ l' = ldel lt l x
def DelOk (h0 : Heap) (Z : List Rg) (tb m : Nat) (iso : Int) (k : Nat) : Prop := ∀ (t : GT It k) {h : Heap} {E : List Rg} {Q : Value → Heap → Prop} {pb po lo : Nat} (mx : Bool) (x : It), t.pt.Fl m lo → Asc lt t.pt.items → t.pt.items.length ≤ 4611686018427387903 → Gd iso t → 1 ≤ t.nd.its.length →
  St h0 Z ((pb, po, [ptr t.id 0]) :: (t.all enc ++ E)) h →
  (∀ (t' : GT It k) h' y ok, t'.id = t.id → Gd iso t' → t'.pt.Fl m (t.nd.its.length - if ok then 1 else 0) → Taken mx x t.pt.items t'.pt.items y ok → St h0 Z ((pb, po, [ptr t.id 0]) :: (t'.all enc ++ E)) h' → Q (.tuple #[.agg (enc y).toArray, .bool ok]) h') →
  Map_ii_delete.call #[ptr tb 0, ptr pb po, .bool mx, kv x.1] h Q

theorem del_leaf {tb m : Nat} {iso mn : Int} {ctr : Option Addr} (hT0 : (tb, 0, hd0 iso ctr) ∈ Z) (hT4 : (tb, 4, hd4 mn m) ∈ Z) (hm1 : m ≤ 1024) : DelOk h0 Z tb m iso 0 := by
  intro (d : Nd It) h E Q pb po lo mx x fl ha hsz g h1 s H
  obtain ⟨own, n, is', cnt, its, iv, ib, io, isp, kb, kv', krb, kro, ksp⟩ := d
  have w : Own 2 iv its.length ib io (its.flatMap enc) isp := g.wf.1
  have hiso : is' = iso := g.iso
  have hcn : cnt = its.length := g.cn
  subst hiso; subst hcn
  have hl : its.length ≤ m := fl.2
  have h1 : 1 ≤ its.length := h1
  have ha : Asc lt its := ha
  have hi : ∀ {E h}, St h0 Z E h → cl h tb 0 = some (.int .u64 is') := fun s => by have := s.getZ hT0 (j := 0) (by simp); simpa using this
  have s : St h0 Z ((pb, po, [ptr n 0]) :: (n, 0, [.int .u64 is', .int .i64 its.length, iv, .pointer none]) :: (ib, io, its.flatMap enc ++ isp) :: E) h := s
  show Map_ii_delete.call #[ptr tb 0, ptr pb po, .bool mx, kv x.1] h Q
  refine Map_ii_delete.body _ _ _ _ _ _ ?_
  unfold Map_ii_delete.sh
  refine s.r_alloc fun t8 h s => ?_
  refine isoLoad_ok (hi s) (by have := s.get (k := 1) (j := 0) rfl (by simp); simpa using this) (fun _ => s.cl0 2 rfl rfl) ?_
  have s : St h0 Z ((t8, 0, enc emp) :: (pb, po, [ptr n 0]) :: (n, 0, [.int .u64 is', .int .i64 its.length, iv, .pointer none]) :: (ib, io, its.flatMap enc ++ isp) :: E) h := s
  have fin : ∀ (i : Nat) (hi : i < its.length) (kk : Value), Taken mx x its (its.eraseIdx i) its[i] true → Map_ii_delete.j1 (ptr tb 0) (.bool mx) kk (ptr t8 0) (ptr n 0) (.int .i64 i) (.bool true) h Q := by
    intro i hi kk hT
    unfold Map_ii_delete.j1
    refine leaf_ok (a := none) (s.cl0 2 rfl rfl) ?_
    refine r_if (fun _ => ?_) (fun e => absurd e (by simp))
    refine r_if (fun _ => ?_) (fun e => absurd e (by simp))
    refine r_nil ?_
    refine r_fld ?_
    refine St.r_load0 s 2 rfl rfl ?_
    (refine Own.idx (by assumption) rfl (by first | omega | (simp; done) | (simp; omega)) ?_)
    (refine s.r_loadF encl 3 rfl (List.getElem?_eq_getElem (by first | omega | (simp; done) | (simp; omega))) ?_)
    refine s.r_alloc fun t13 h s => ?_
    (refine St.r_storeN0 s 0 rfl rfl (by simp) (enc1 _) ?_; intro h s; try simp only [List.set_cons_zero, List.set_cons_succ] at s)
    refine r_nil ?_
    refine r_fld ?_
    refine St.r_load0 s 3 rfl rfl ?_
    refine w.slcLo encl (i := i) rfl (by omega) fun dd wd => ?_
    refine r_nil ?_
    refine r_fld ?_
    refine St.r_load0 s 3 rfl rfl ?_
    refine r_add1 (by omega) ?_
    refine (w.rdl s 4 rfl).slcLo encl (i := i + 1) rfl (by omega) fun src rs => ?_
    refine s.r_cpyF encl 4 (L := its) (M := its.drop (i + 1)) rfl wd (by simp; omega) rs rfl (fun y _ => enc1 y) fun h s => ?_
    refine r_nil ?_
    refine r_fld ?_
    refine St.r_load0 s 3 rfl rfl ?_
    refine r_nil ?_
    refine r_fld ?_
    refine St.r_load0 s 3 rfl rfl ?_
    refine Own.lenV (by assumption) ?_
    refine r_sub1 (by omega) (by omega) ?_
    refine r_nil ?_
    refine r_fld ?_
    refine s.r_lzE hT4 0 (enc emp) rfl (by simp) rfl ?_
    (refine Own.idx (by assumption) rfl (by first | omega | (simp; done) | (simp; omega)) ?_)
    (refine s.r_storeF encl 4 rfl (by first | omega | (simp; done) | (simp; omega)) (enc1 _) ?_; intro h s; try simp only [List.set_cons_zero, List.set_cons_succ] at s)
    refine r_nil ?_
    refine r_fld ?_
    refine St.r_load0 s 3 rfl rfl ?_
    refine r_nil ?_
    refine r_fld ?_
    refine St.r_load0 s 3 rfl rfl ?_
    refine Own.lenV (by assumption) ?_
    refine r_sub1 (by omega) (by omega) ?_
    refine (w.list encl (del_len its emp hi)).slcHi encl rfl (by rw [del_len _ _ hi]; omega) fun iv2 w2 => ?_
    have s := s.del (f := enc) 4 rfl _ (del_erase its emp hi)
    rw [del_erase its emp hi] at w2
    refine r_nil ?_
    refine r_fld ?_
    (refine St.r_store0 s 3 rfl (by simp) (Own.one (by assumption)) ?_; intro h s; try simp only [List.set_cons_zero, List.set_cons_succ] at s)
    refine r_nil ?_
    refine r_fld ?_
    refine St.r_load0 s 3 rfl rfl ?_
    refine r_sub1 (by omega) (by omega) ?_
    refine r_nil ?_
    refine r_fld ?_
    (refine St.r_store0 s 3 rfl (by simp) rfl ?_; intro h s; try simp only [List.set_cons_zero, List.set_cons_succ] at s)
    refine St.r_loadN0 s 0 rfl (by simp) ?_
    (refine St.r_storeN0 s 1 rfl rfl (by simp) (enc1 _) ?_; intro h s; try simp only [List.set_cons_zero, List.set_cons_succ] at s)
    refine St.r_loadN0 s 1 rfl (by simp) ?_
    have hel : (its.eraseIdx i).length = its.length - 1 := by rw [List.length_eraseIdx, if_pos hi]
    obtain ⟨t', ht1, gt, ht2, ht3, ht4⟩ := mk_leaf (iso := is') (n := n) w2
    refine H t' h its[i] true ht1 gt ?_ ?_ ((s.perm (E' := (t13, 0, enc its[i]) :: (t8, 0, enc its[i]) :: ((pb, po, [ptr n 0]) :: (t'.all enc ++ E))) ?_).drop 2)
    · rw [ht2]; exact fl_leaf (Nat.le_of_eq hel.symm) (by omega)
    · rw [ht2]; exact hT
    · rw [ht4]
      rw [hel]
      ((apply perm_rg; intro f; simp only [List.set_cons_zero, List.set_cons_succ, List.eraseIdx_cons_zero, List.eraseIdx_cons_succ, List.cons_append, List.nil_append, List.map_append, List.map_cons, List.map_nil, List.sum_append, List.sum_cons, List.sum_nil, List.map_flatMap, Nat.add_zero, Nat.zero_add]; ac_rfl))
  refine r_if (fun hmx => ?_) (fun hmx => ?_)
  · subst hmx
    refine r_nil ?_
    refine r_fld ?_
    refine St.r_load0 s 2 rfl rfl ?_
    refine Own.lenV (by assumption) ?_
    refine r_sub1 (by omega) (by omega) ?_
    refine fin (its.length - 1) (by omega) _ ?_
    obtain ⟨R, z, e⟩ := last_of h1
    subst e
    show _ ∧ _
    refine ⟨rfl, ?_⟩
    have := eraseIdx_at (P := R) (S := []) (y := z) rfl
    simp only [List.length_append, List.length_singleton, Nat.add_sub_cancel, this]
    simp
  · subst hmx
    refine search_ok (x := x) ha (by omega) (s.cl0 2 rfl rfl) (w.rdl s 3 rfl) ?_
    refine r_ext rfl ?_
    refine r_ext rfl ?_
    cases hg : lget lt its x with
    | some z =>
      obtain ⟨hp, hz, h3, h4⟩ := lget_some hg
      refine fin (pos lt its x) hp _ ?_
      show (match lget lt its x with | none => _ | some z => _ : Prop)
      rw [hg]
      exact ⟨rfl, hz, by rw [ldel_some hg, List.eraseIdx_eq_take_drop_succ]⟩
    | none =>
      unfold Map_ii_delete.j1
      refine leaf_ok (a := none) (s.cl0 2 rfl rfl) ?_
      refine r_if (fun _ => ?_) (fun e => absurd e (by simp))
      refine r_if (fun e => absurd e (by simp)) (fun _ => ?_)
      unfold Map_ii_delete.j6
      refine r_nil ?_
      refine r_fld ?_
      refine s.r_lzE hT4 0 (enc emp) rfl (by simp) rfl ?_
      (refine St.r_storeN0 s 0 rfl rfl (by simp) (enc1 _) ?_; intro h s; try simp only [List.set_cons_zero, List.set_cons_succ] at s)
      refine St.r_loadN0 s 0 rfl (by simp) ?_
      refine H _ h emp false rfl g (fl_any fl (Nat.le_refl its.length)) ?_ (s.drop 1)
      show (match lget lt its x with | none => _ | some z => _ : Prop)
      rw [hg]
      exact ⟨rfl, rfl, rfl⟩

theorem DelOk.succ {tb m : Nat} {iso mn : Int} {ctr : Option Addr} (hT0 : (tb, 0, hd0 iso ctr) ∈ Z) (hT4 : (tb, 4, hd4 mn m) ∈ Z) (hmn : mn = ((m / 2 : Nat) : Int)) (hm3 : 3 ≤ m) (hm1 : m ≤ 1024) (ho : m % 2 = 1) {k : Nat} (ih : DelOk h0 Z tb m iso k) : DelOk h0 Z tb m iso (k + 1) := by
  intro t h E Q pb po lo mx x fl ha hsz g h1 s H
  obtain ⟨d, ts⟩ := t
  obtain ⟨own, n, is', cnt, its, iv, ib, io, isp, kb, kv', krb, kro, ksp⟩ := d
  have w : Own 2 iv its.length ib io (its.flatMap enc) isp := g.own
  have wK : Own 1 kv' ((ts.map GT.id).map pp).length krb kro (((ts.map GT.id).map pp).flatMap fv) ksp := g.ownK
  have hiso : is' = iso := g.iso
  have hcn : cnt = (PT.items (h := k + 1) (its, ts.map GT.pt)).length := g.cn.1
  subst hiso
  have hl : its.length ≤ m := fl.2.1
  have h1 : 1 ≤ its.length := h1
  have hkl : ts.length = its.length + 1 := g.wf.2.2.1
  have hKl : ((ts.map GT.id).map pp).length = ts.length := by rw [List.length_map, List.length_map]
  have fl : PT.Fl m lo (h := k + 1) (its, ts.map GT.pt) := fl
  have ha : Asc lt (PT.items (h := k + 1) (its, ts.map GT.pt)) := ha
  have ha1 : Asc lt its := asc_of_sub ha (PT.its_sub1 ((its, ts.map GT.pt) : PT It (k + 1)))
  have hsz : (PT.items (h := k + 1) (its, ts.map GT.pt)).length ≤ 4611686018427387903 := hsz
  have hi : ∀ {E h}, St h0 Z E h → cl h tb 0 = some (.int .u64 is') := fun s => by have := s.getZ hT0 (j := 0) (by simp); simpa using this
  have s : St h0 Z ((pb, po, [ptr n 0]) :: (((n, 0, [.int .u64 is', .int .i64 cnt, iv, ptr kb 0]) :: (ib, io, its.flatMap enc ++ isp) :: (kb, 0, [kv']) :: (krb, kro, ((ts.map GT.id).map pp).flatMap fv ++ ksp) :: ts.flatMap (GT.all enc)) ++ E)) h := by
    have e := all_eq (k := k + 1) ((⟨own, n, is', cnt, its, iv, ib, io, isp, kb, kv', krb, kro, ksp⟩ : Nd It), ts)
    rw [e] at s; exact s
  subst hcn
  have s : St h0 Z ((pb, po, [ptr n 0]) :: (n, 0, [.int .u64 is', .int .i64 (PT.items (h := k + 1) (its, ts.map GT.pt)).length, iv, ptr kb 0]) :: (ib, io, its.flatMap enc ++ isp) :: (kb, 0, [kv']) :: (krb, kro, ((ts.map GT.id).map pp).flatMap fv ++ ksp) :: (ts.flatMap (GT.all enc) ++ E)) h := s
  have hkid : ∀ {i : Nat} {c : GT It k}, ts[i]? = some c → PT.Fl m (m / 2) c.pt ∧ Gd is' c ∧ 1 ≤ c.nd.its.length ∧ c.pt.items.length ≤ 4611686018427387903 ∧ Asc lt c.pt.items := fun {i c} hc => by
    have hcm := List.mem_of_getElem? hc
    have fc : PT.Fl m (m / 2) c.pt := fl.2.2.2 _ (List.mem_map.2 ⟨c, hcm, rfl⟩)
    refine ⟨fc, g.kid hcm, by have := (fl_its fc).1; omega, ?_, ?_⟩
    rotate_left
    · have hil := (List.getElem?_eq_some_iff.1 hc).1
      obtain ⟨q, hq, _, e⟩ := PT.around fl (i := i) (by show i ≤ its.length; omega)
      have hq : (ts.map GT.pt)[i]? = some q := hq
      rw [List.getElem?_map, hc] at hq
      have := Option.some.inj hq
      subst this
      have ha2 := ha
      rw [e] at ha2
      exact (asc_app (asc_app ha2).2.1).1
    have e1 : (inter its ((ts.map GT.pt).map PT.items)).length = _ := inter_length _ _
    have e2 : (inter its ((ts.map GT.pt).map PT.items)).length ≤ 4611686018427387903 := hsz
    have e3 : c.pt.items.length ≤ (((ts.map GT.pt).map PT.items).map List.length).sum := mem_le_sum (by
      rw [List.map_map, List.map_map]; exact List.mem_map.2 ⟨c, hcm, rfl⟩)
    omega
  show Map_ii_delete.call #[ptr tb 0, ptr pb po, .bool mx, kv x.1] h Q
  refine Map_ii_delete.body _ _ _ _ _ _ ?_
  unfold Map_ii_delete.sh
  refine s.r_alloc fun t8 h s => ?_
  refine isoLoad_ok (hi s) (by have := s.get (k := 1) (j := 0) rfl (by simp); simpa using this) (fun _ => s.cl0 2 rfl rfl) ?_
  -- behind the call below the kid
  have fin : ∀ {i : Nat} {c c' : GT It k} {y : It} {ok : Bool} {its' : List It} {t8' t14 : Nat} {h : Heap}, ts[i]? = some c → c'.id = c.id → Gd is' c' → c'.pt.Fl m (c.nd.its.length - if ok then 1 else 0) → its'.length = its.length →
      Taken mx x (PT.items (h := k + 1) (its, ts.map GT.pt)) (PT.items (h := k + 1) (its', (ts.map GT.pt).set i c'.pt)) y ok →
      St h0 Z ((t14, 0, enc y) :: (t8', 0, enc emp) :: (pb, po, [ptr n 0]) :: (n, 0, [.int .u64 is', .int .i64 (PT.items (h := k + 1) (its, ts.map GT.pt)).length, iv, ptr kb 0]) :: (ib, io, its'.flatMap enc ++ isp) :: (kb, 0, [kv']) :: (krb, kro, (((ts.set i c').map GT.id).map pp).flatMap fv ++ ksp) :: ((ts.set i c').flatMap (GT.all enc) ++ E)) h →
      Map_ii_delete.j3 (ptr tb 0) (ptr t8' 0) (ptr n 0) (.int .i64 i) (ptr t14 0) (.bool ok) h Q := by
    intro i c c' y ok its' t8' t14 h hc hid gc' fc' hil hT s
    obtain ⟨fc, gc, hc1, _, _⟩ := hkid hc
    have hils : i < ts.length := (List.getElem?_eq_some_iff.1 hc).1
    have w' : Own 2 iv its'.length ib io (its'.flatMap enc) isp := w.list encl hil
    have wK' : Own 1 kv' (((ts.set i c').map GT.id).map pp).length krb kro ((((ts.set i c').map GT.id).map pp).flatMap fv) ksp := by rw [set_ids hc hid]; exact wK
    have gk' : ∀ q ∈ ts.set i c', Gd is' q := fun q hq => by
      rcases List.mem_or_eq_of_mem_set hq with e | e
      · exact g.kid e
      · rw [e]; exact gc'
    have ept : (ts.set i c').map GT.pt = (ts.map GT.pt).set i c'.pt := List.map_set ..
    rw [← ept] at hT
    have hcl := (fl_its fc).1
    unfold Map_ii_delete.j3
    refine r_not ?_
    refine r_if (fun hn => ?_) (fun hn => ?_)
    · have hn : ok = false := by simpa using hn
      subst hn
      refine r_nil ?_
      refine r_fld ?_
      refine s.r_lzE hT4 0 (enc emp) rfl (by simp) rfl ?_
      (refine St.r_storeN0 s 1 rfl rfl (by simp) (enc1 _) ?_; intro h s; try simp only [List.set_cons_zero, List.set_cons_succ] at s)
      refine St.r_loadN0 s 1 rfl (by simp) ?_
      cases mx with
      | true => exact absurd hT.1 (by decide)
      | false =>
        have hT0' : (match lget lt (PT.items (h := k + 1) (its, ts.map GT.pt)) x with | none => _ | some z => _ : Prop) := hT
        cases hg : lget lt (PT.items (h := k + 1) (its, ts.map GT.pt)) x with
        | some z => rw [hg] at hT0'; exact absurd hT0'.1 (by decide)
        | none =>
          rw [hg] at hT0'
          obtain ⟨t', ht1, gt, ht2, ht3, ht4⟩ := mk_inner (n := n) (kb := kb) (iso := is') w' wK' (by rw [List.length_set]; omega) gk'
          have e4 : (PT.items (h := k + 1) (its', (ts.set i c').map GT.pt)).length = (PT.items (h := k + 1) (its, ts.map GT.pt)).length := congrArg List.length hT0'.2.2
          refine H t' h emp false ht1 gt ?_ (by rw [ht2]; show (match lget lt (PT.items (h := k + 1) (its, ts.map GT.pt)) x with | none => _ | some z => _ : Prop); rw [hg]; exact ⟨rfl, rfl, hT0'.2.2⟩)
            ((s.perm (E' := (t14, 0, enc y) :: (t8', 0, enc emp) :: ((pb, po, [ptr n 0]) :: (t'.all enc ++ E))) (by rw [ht4, e4]; ((apply perm_rg; intro f; simp only [List.set_cons_zero, List.set_cons_succ, List.eraseIdx_cons_zero, List.eraseIdx_cons_succ, List.cons_append, List.nil_append, List.map_append, List.map_cons, List.map_nil, List.sum_append, List.sum_cons, List.sum_nil, List.map_flatMap, Nat.add_zero, Nat.zero_add]; ac_rfl)))).drop 2)
          rw [ht2]
          refine fl_inner (by rw [hil]; exact Nat.le_refl _) (by omega) (by rw [List.length_map, List.length_set]; omega) fun q hq => ?_
          rw [ept] at hq
          rcases List.mem_or_eq_of_mem_set hq with e | e
          · exact fl.2.2.2 q e
          · rw [e]; exact fc'.mono (by simp; omega)
    · have hn : ok = true := by simpa using hn
      subst hn
      have hcnt : (PT.items (h := k + 1) (its, ts.map GT.pt)).length = (PT.items (h := k + 1) (its', (ts.set i c').map GT.pt)).length + 1 := by
        cases mx with
        | true => have := congrArg List.length hT.2; rw [List.length_append] at this; exact this
        | false =>
          have hT0' : (match lget lt (PT.items (h := k + 1) (its, ts.map GT.pt)) x with | none => _ | some z => _ : Prop) := hT
          have hd := ldel_len (lt := lt) (PT.items (h := k + 1) (its, ts.map GT.pt)) x
          cases hg : lget lt (PT.items (h := k + 1) (its, ts.map GT.pt)) x with
          | none => rw [hg] at hT0'; exact absurd hT0'.1 (by decide)
          | some z =>
            rw [hg] at hT0' hd
            rw [hT0'.2.2]
            simpa using hd.symm
      rw [hcnt] at s
      refine del_after (i := i) hT0 hT4 hmn hm3 hm1 ho w' wK' gk' (lo := lo) (by rw [ept]; exact fx_set fl (fc'.mono (by simp; omega)) its' hil) (by omega) (by omega) (by omega) s fun t' h' e1 e2 e3 g' s => ?_
      refine H t' h' y true e1 g' (by rw [hil] at e3; exact e3) ?_ s
      rw [e2]; exact hT
  have s : St h0 Z ((t8, 0, enc emp) :: (pb, po, [ptr n 0]) :: (n, 0, [.int .u64 is', .int .i64 (PT.items (h := k + 1) (its, ts.map GT.pt)).length, iv, ptr kb 0]) :: (ib, io, its.flatMap enc ++ isp) :: (kb, 0, [kv']) :: (krb, kro, ((ts.map GT.id).map pp).flatMap fv ++ ksp) :: (ts.flatMap (GT.all enc) ++ E)) h := s
  refine r_if (fun hmx => ?_) (fun hmx => ?_)
  · subst hmx
    refine r_nil ?_
    refine r_fld ?_
    refine St.r_load0 s 2 rfl rfl ?_
    refine Own.lenV (by assumption) ?_
    refine r_sub1 (by omega) (by omega) ?_
    unfold Map_ii_delete.j1
    refine leaf_ok (a := some ⟨kb, 0, none⟩) (s.cl0 2 rfl rfl) ?_
    refine r_if (fun e => absurd e (by simp)) (fun _ => ?_)
    unfold Map_ii_delete.j2
    refine s.r_alloc fun t14 h s => ?_
    refine r_if (fun _ => ?_) (fun e => absurd e (by simp))
    refine r_if (fun _ => ?_) (fun e => absurd e (by simp))
    refine r_add (z := ((its.length : Nat) : Int)) (by rw [i64w (by omega) (by omega)]; omega) ?_
    obtain ⟨cp, hcp, _, hdel⟩ := PT.del_last fl
    obtain ⟨c, hc⟩ : ∃ c, ts[its.length]? = some c := ⟨ts[its.length]'(by omega), List.getElem?_eq_getElem (by omega)⟩
    have : cp = c.pt := by
      have hcp : (ts.map GT.pt)[its.length]? = some cp := hcp
      rw [List.getElem?_map, hc] at hcp; exact (Option.some.inj hcp).symm
    subst this
    obtain ⟨fc, gc, hc1, hcsz, hac⟩ := hkid hc
    refine r_nil ?_
    refine r_fld ?_
    refine St.r_load0 s 3 rfl rfl ?_
    refine r_nil ?_
    refine St.r_load0 s 5 rfl rfl ?_
    (refine Own.idx (by assumption) rfl (by first | omega | (simp; done) | (simp; omega)) ?_)
    refine r_nil ?_
    refine r_fld ?_
    refine r_fld ?_
    refine s.r_lz hT4 1 rfl rfl ?_
    rw [← fpv] at s
    obtain ⟨E', sk, back⟩ := lend_kid (A := (t14, 0, enc emp) :: (t8, 0, enc emp) :: (pb, po, [ptr n 0]) :: (n, 0, [.int .u64 is', .int .i64 (PT.items (h := k + 1) (its, ts.map GT.pt)).length, iv, ptr kb 0]) :: (ib, io, its.flatMap enc ++ isp) :: (kb, 0, [kv']) :: []) (E := E) (kb := kb) (kv := kv') hc s
    refine ih c true emp fc hac hcsz gc hc1 sk fun c' h' y ok hid gc' fc' hT s => ?_
    have s := back c' h' hid s
    rw [fpv] at s
    have s : St h0 Z ((t14, 0, enc emp) :: (t8, 0, enc emp) :: (pb, po, [ptr n 0]) :: (n, 0, [.int .u64 is', .int .i64 (PT.items (h := k + 1) (its, ts.map GT.pt)).length, iv, ptr kb 0]) :: (ib, io, its.flatMap enc ++ isp) :: (kb, 0, [kv']) :: (krb, kro, (((ts.set its.length c').map GT.id).map pp).flatMap fv ++ ksp) :: ((ts.set its.length c').flatMap (GT.all enc) ++ E)) h' := s
    refine r_ext rfl ?_
    refine r_ext rfl ?_
    (refine St.r_storeN0 s 0 rfl rfl (by simp) (enc1 _) ?_; intro h s; try simp only [List.set_cons_zero, List.set_cons_succ] at s)
    obtain ⟨rfl, hT2⟩ : ok = true ∧ c.pt.items = c'.pt.items ++ [y] := hT
    refine fin hc hid gc' fc' rfl ⟨rfl, ?_⟩ s
    exact hdel c'.pt y hT2
  · subst hmx
    refine search_ok (x := x) ha1 (by omega) (s.cl0 2 rfl rfl) (w.rdl s 3 rfl) ?_
    refine r_ext rfl ?_
    refine r_ext rfl ?_
    unfold Map_ii_delete.j1
    refine leaf_ok (a := some ⟨kb, 0, none⟩) (s.cl0 2 rfl rfl) ?_
    refine r_if (fun e => absurd e (by simp)) (fun _ => ?_)
    unfold Map_ii_delete.j2
    refine s.r_alloc fun t14 h s => ?_
    have hple := pos_le (lt := lt) its x
    have s : St h0 Z ((t14, 0, enc emp) :: (t8, 0, enc emp) :: (pb, po, [ptr n 0]) :: (n, 0, [.int .u64 is', .int .i64 (PT.items (h := k + 1) (its, ts.map GT.pt)).length, iv, ptr kb 0]) :: (ib, io, its.flatMap enc ++ isp) :: (kb, 0, [kv']) :: (krb, kro, ((ts.map GT.id).map pp).flatMap fv ++ ksp) :: (ts.flatMap (GT.all enc) ++ E)) h := s
    obtain ⟨c, hc⟩ : ∃ c, ts[pos lt its x]? = some c := ⟨ts[pos lt its x]'(by omega), List.getElem?_eq_getElem (by omega)⟩
    have hcp : (ts.map GT.pt)[pos lt its x]? = some c.pt := by rw [List.getElem?_map, hc]; rfl
    obtain ⟨fc, gc, hc1, hcsz, hac⟩ := hkid hc
    cases hg : lget lt its x with
    | some z =>
      obtain ⟨hp, hz, h3, h4⟩ := lget_some hg
      obtain ⟨cp, hcp2, _, _, hgt, hdel⟩ := PT.del_own swo fl ha hg
      have hgt : lget lt (PT.items (h := k + 1) (its, ts.map GT.pt)) x = some z := hgt
      have : cp = c.pt := Option.some.inj (hcp2.symm.trans hcp)
      subst this
      have hpz : its[pos lt its x]? = some z := by rw [List.getElem?_eq_getElem hp, hz]
      have hT2 : ∀ (c' : GT It k) y, c.pt.items = c'.pt.items ++ [y] → Taken false x (PT.items (h := k + 1) (its, ts.map GT.pt)) (PT.items (h := k + 1) (its.set (pos lt its x) y, (ts.map GT.pt).set (pos lt its x) c'.pt)) z true := fun c' y e => by
        show (match lget lt (PT.items (h := k + 1) (its, ts.map GT.pt)) x with | none => _ | some z => _ : Prop)
        rw [hgt]
        exact ⟨rfl, rfl, hdel c'.pt y e⟩
      refine r_if (fun _ => ?_) (fun e => absurd e (by simp))
      refine r_if (fun e => absurd e (by simp)) (fun _ => ?_)
      refine r_nil ?_
      refine r_fld ?_
      refine St.r_load0 s 3 rfl rfl ?_
      (refine Own.idx (by assumption) rfl (by first | omega | (simp; done) | (simp; omega)) ?_)
      refine s.r_loadF encl 4 rfl (by assumption) ?_
      (refine St.r_storeN0 s 0 rfl rfl (by simp) (enc1 _) ?_; intro h s; try simp only [List.set_cons_zero, List.set_cons_succ] at s)
      refine r_nil ?_
      refine r_fld ?_
      refine St.r_load0 s 3 rfl rfl ?_
      refine r_nil ?_
      refine St.r_load0 s 5 rfl rfl ?_
      (refine Own.idx (by assumption) rfl (by first | omega | (simp; done) | (simp; omega)) ?_)
      refine r_nil ?_
      refine r_fld ?_
      refine r_fld ?_
      refine s.r_lz hT4 1 rfl rfl ?_
      constructor
      · rw [← fpv] at s
        obtain ⟨E', sk, back⟩ := lend_kid (A := (t14, 0, enc z) :: (t8, 0, enc emp) :: (pb, po, [ptr n 0]) :: (n, 0, [.int .u64 is', .int .i64 (PT.items (h := k + 1) (its, ts.map GT.pt)).length, iv, ptr kb 0]) :: (ib, io, its.flatMap enc ++ isp) :: (kb, 0, [kv']) :: []) (E := E) (kb := kb) (kv := kv') hc s
        refine ih c true emp fc hac hcsz gc hc1 sk fun c' h' y ok hid gc' fc' hT s => ?_
        have s := back c' h' hid s
        rw [fpv] at s
        have s : St h0 Z ((t14, 0, enc z) :: (t8, 0, enc emp) :: (pb, po, [ptr n 0]) :: (n, 0, [.int .u64 is', .int .i64 (PT.items (h := k + 1) (its, ts.map GT.pt)).length, iv, ptr kb 0]) :: (ib, io, its.flatMap enc ++ isp) :: (kb, 0, [kv']) :: (krb, kro, (((ts.set (pos lt its x) c').map GT.id).map pp).flatMap fv ++ ksp) :: ((ts.set (pos lt its x) c').flatMap (GT.all enc) ++ E)) h' := s
        obtain ⟨rfl, hT3⟩ : ok = true ∧ c.pt.items = c'.pt.items ++ [y] := hT
        refine r_ext rfl ?_
        refine r_ext rfl ?_
        refine s.r_alloc fun t16 h s => ?_
        (refine St.r_storeN0 s 0 rfl rfl (by simp) (enc1 _) ?_; intro h s; try simp only [List.set_cons_zero, List.set_cons_succ] at s)
        refine r_nil ?_
        refine r_fld ?_
        refine St.r_load0 s 4 rfl rfl ?_
        refine St.r_loadN0 s 0 rfl (by simp) ?_
        (refine Own.idx (by assumption) rfl (by first | omega | (simp; done) | (simp; omega)) ?_)
        (refine s.r_storeF encl 5 rfl (by first | omega | (simp; done) | (simp; omega)) (enc1 _) ?_; intro h s; try simp only [List.set_cons_zero, List.set_cons_succ] at s)
        exact fin hc hid gc' fc' (List.length_set ..) (hT2 c' y hT3) (s.drop 1)
      · refine s.r_alloc fun t16 h s => ?_
        refine ⟨by exact St.r_still0 s 4 rfl rfl, by exact St.r_still0 s 6 rfl rfl, s.r_stillZ hT4 1 rfl rfl, ?_⟩
        rw [← fpv] at s
        obtain ⟨E', sk, back⟩ := lend_kid (A := (t16, 0, enc emp) :: (t14, 0, enc z) :: (t8, 0, enc emp) :: (pb, po, [ptr n 0]) :: (n, 0, [.int .u64 is', .int .i64 (PT.items (h := k + 1) (its, ts.map GT.pt)).length, iv, ptr kb 0]) :: (ib, io, its.flatMap enc ++ isp) :: (kb, 0, [kv']) :: []) (E := E) (kb := kb) (kv := kv') hc s
        refine ih c true emp fc hac hcsz gc hc1 sk fun c' h' y ok hid gc' fc' hT s => ?_
        have s := back c' h' hid s
        rw [fpv] at s
        have s : St h0 Z ((t16, 0, enc emp) :: (t14, 0, enc z) :: (t8, 0, enc emp) :: (pb, po, [ptr n 0]) :: (n, 0, [.int .u64 is', .int .i64 (PT.items (h := k + 1) (its, ts.map GT.pt)).length, iv, ptr kb 0]) :: (ib, io, its.flatMap enc ++ isp) :: (kb, 0, [kv']) :: (krb, kro, (((ts.set (pos lt its x) c').map GT.id).map pp).flatMap fv ++ ksp) :: ((ts.set (pos lt its x) c').flatMap (GT.all enc) ++ E)) h' := s
        obtain ⟨rfl, hT3⟩ : ok = true ∧ c.pt.items = c'.pt.items ++ [y] := hT
        refine r_ext rfl ?_
        refine r_ext rfl ?_
        (refine St.r_storeN0 s 0 rfl rfl (by simp) (enc1 _) ?_; intro h s; try simp only [List.set_cons_zero, List.set_cons_succ] at s)
        refine r_nil ?_
        refine r_fld ?_
        refine St.r_load0 s 4 rfl rfl ?_
        refine St.r_loadN0 s 0 rfl (by simp) ?_
        (refine Own.idx (by assumption) rfl (by first | omega | (simp; done) | (simp; omega)) ?_)
        (refine s.r_storeF encl 5 rfl (by first | omega | (simp; done) | (simp; omega)) (enc1 _) ?_; intro h s; try simp only [List.set_cons_zero, List.set_cons_succ] at s)
        exact fin hc hid gc' fc' (List.length_set ..) (hT2 c' y hT3) (s.drop 1)
    | none =>
      obtain ⟨cp, hcp2, _, _, hgt, hdel⟩ := PT.del_kid swo fl ha hg
      have hgt : lget lt (PT.items (h := k + 1) (its, ts.map GT.pt)) x = lget lt cp.items x := hgt
      have : cp = c.pt := Option.some.inj (hcp2.symm.trans hcp)
      subst this
      refine r_if (fun e => absurd e (by simp)) (fun _ => ?_)
      refine r_nil ?_
      refine r_fld ?_
      refine St.r_load0 s 3 rfl rfl ?_
      refine r_nil ?_
      refine St.r_load0 s 5 rfl rfl ?_
      (refine Own.idx (by assumption) rfl (by first | omega | (simp; done) | (simp; omega)) ?_)
      rw [← fpv] at s
      obtain ⟨E', sk, back⟩ := lend_kid (A := (t14, 0, enc emp) :: (t8, 0, enc emp) :: (pb, po, [ptr n 0]) :: (n, 0, [.int .u64 is', .int .i64 (PT.items (h := k + 1) (its, ts.map GT.pt)).length, iv, ptr kb 0]) :: (ib, io, its.flatMap enc ++ isp) :: (kb, 0, [kv']) :: []) (E := E) (kb := kb) (kv := kv') hc s
      refine ih c false x fc hac hcsz gc hc1 sk fun c' h' y ok hid gc' fc' hT s => ?_
      have s := back c' h' hid s
      rw [fpv] at s
      have s : St h0 Z ((t14, 0, enc emp) :: (t8, 0, enc emp) :: (pb, po, [ptr n 0]) :: (n, 0, [.int .u64 is', .int .i64 (PT.items (h := k + 1) (its, ts.map GT.pt)).length, iv, ptr kb 0]) :: (ib, io, its.flatMap enc ++ isp) :: (kb, 0, [kv']) :: (krb, kro, (((ts.set (pos lt its x) c').map GT.id).map pp).flatMap fv ++ ksp) :: ((ts.set (pos lt its x) c').flatMap (GT.all enc) ++ E)) h' := s
      refine r_ext rfl ?_
      refine r_ext rfl ?_
      (refine St.r_storeN0 s 0 rfl rfl (by simp) (enc1 _) ?_; intro h s; try simp only [List.set_cons_zero, List.set_cons_succ] at s)
      refine fin hc hid gc' fc' rfl ?_ s
      have hT : (match lget lt c.pt.items x with | none => _ | some z => _ : Prop) := hT
      show (match lget lt (PT.items (h := k + 1) (its, ts.map GT.pt)) x with | none => _ | some z => _ : Prop)
      rw [hgt]
      cases hg2 : lget lt c.pt.items x with
      | none =>
        rw [hg2] at hT
        refine ⟨hT.1, hT.2.1, ?_⟩
        exact (hdel c'.pt (by rw [hT.2.2, ldel_none hg2])).trans (ldel_none (hgt.trans hg2))
      | some z =>
        rw [hg2] at hT
        exact ⟨hT.1, hT.2.1, hdel c'.pt hT.2.2⟩
theorem DelOk.all {tb m : Nat} {iso mn : Int} {ctr : Option Addr} (hT0 : (tb, 0, hd0 iso ctr) ∈ Z) (hT4 : (tb, 4, hd4 mn m) ∈ Z) (hmn : mn = ((m / 2 : Nat) : Int)) (hm3 : 3 ≤ m) (hm1 : m ≤ 1024) (ho : m % 2 = 1) : ∀ k, DelOk h0 Z tb m iso k
  | 0 => del_leaf hT0 hT4 hm1
  | k + 1 => DelOk.succ hT0 hT4 hmn hm3 hm1 ho (DelOk.all hT0 hT4 hmn hm3 hm1 ho k)

/-- A tree without an item at its top has one kid. -/
theorem rt_of {iso : Int} {m k : Nat} {t : GT It (k + 1)} (f : t.pt.Fl m 0) (h0 : t.nd.its.length = 0) : ∃ c, t.2 = [c] ∧ t.pt.items = c.pt.items := by
  obtain ⟨d, ts⟩ := t
  have hl : ts.length = d.its.length + 1 := by have := f.2.2.1; simpa [GT.pt] using this
  have h0 : d.its.length = 0 := h0
  have hts : ts.length = 1 := by omega
  obtain ⟨c, e⟩ : ∃ c, ts = [c] := by
    cases ts with
    | nil => simp at hts
    | cons c r => cases r with
      | nil => exact ⟨c, rfl⟩
      | cons _ _ => simp at hts
  subst e
  refine ⟨c, rfl, ?_⟩
  have h0 : d.its.length = 0 := h0
  show inter d.its ([c.pt.items]) = c.pt.items
  rw [List.length_eq_zero_iff.1 h0]
  simp [inter]

theorem Delete_ok {tb m : Nat} {iso : Int} {ctr : Option Addr} {g : Rt} {x : It} (M : MapOk m iso g) (hsz : (rPt g).items.length ≤ 4611686018427387903) (s : St h0 Z ((tb, 0, hdr iso ctr (rA g) (rPt g).items.length ((m / 2 : Nat) : Int) m) :: (rAll g ++ E)) h)
    (H : ∀ (g' : Rt) h', (rPt g').items = ldel lt (rPt g).items x → MapOk m iso g' → St h0 Z ((tb, 0, hdr iso ctr (rA g') (rPt g').items.length ((m / 2 : Nat) : Int) m) :: (rAll g' ++ E)) h' → Q (.tuple #[old (lget lt (rPt g).items x), .bool (lget lt (rPt g).items x).isSome]) h') :
    Map_ii_Delete.call #[ptr tb 0, kv x.1] h Q := by
  have key : ∀ g' : Rt, (rPt g').items = ldel lt (rPt g).items x → rGd iso g' → (rPt g').Fl m → MapOk m iso g' := fun g' e gd f => ⟨gd, f, by rw [e]; exact asc_of_sub M.asc (ldel_sub _ _), M.m3, M.m1, M.odd⟩
  refine Map_ii_Delete.body _ _ _ _ ?_
  unfold Map_ii_Delete.sh
  cases g with
  | none =>
    refine r_nil ?_
    refine r_fld ?_
    refine St.r_load0 s 0 rfl rfl ?_
    refine r_eqNilP ?_
    refine r_if (fun _ => ?_) (fun e => absurd e (by simp [rA]))
    refine r_nil ?_
    refine r_fld ?_
    refine r_fld ?_
    refine St.r_load0 s 0 rfl rfl ?_
    exact H none h rfl (key none rfl trivial trivial) s
  | some t =>
    obtain ⟨k, t⟩ := t
    have s := hdr_cut s
    obtain ⟨s1, back⟩ := St.borrow (A := [(tb, 0, hd0 iso ctr), (tb, 4, hd4 ((m / 2 : Nat) : Int) m)]) (E := (tb, 2, [ptr t.id 0]) :: (tb, 3, [.int .i64 t.pt.items.length]) :: (t.all enc ++ E)) s
    have hT0 : (tb, 0, hd0 iso ctr) ∈ [(tb, 0, hd0 iso ctr), (tb, 4, hd4 ((m / 2 : Nat) : Int) m)] ++ Z := List.mem_cons_self ..
    have hT4 : (tb, 4, hd4 ((m / 2 : Nat) : Int) m) ∈ [(tb, 0, hd0 iso ctr), (tb, 4, hd4 ((m / 2 : Nat) : Int) m)] ++ Z := List.mem_cons_of_mem _ (List.mem_cons_self ..)
    have s := s1
    refine r_nil ?_
    refine r_fld ?_
    refine s.r_loadI 0 0 rfl rfl rfl ?_
    refine r_eqNilP ?_
    refine r_if (fun e => absurd e (by simp)) (fun _ => ?_)
    unfold Map_ii_Delete.j1
    refine r_nil ?_
    refine r_fld ?_
    have h1 : 1 ≤ t.nd.its.length := (fl_its M.fl).1
    have s2 : St h0 ([(tb, 0, hd0 iso ctr), (tb, 4, hd4 ((m / 2 : Nat) : Int) m)] ++ Z) ((tb, 0 + 2, [ptr t.id 0]) :: (t.all enc ++ ((tb, 3, [.int .i64 t.pt.items.length]) :: E))) h := s.perm (by ((apply perm_rg; intro f; simp only [List.set_cons_zero, List.set_cons_succ, List.eraseIdx_cons_zero, List.eraseIdx_cons_succ, List.cons_append, List.nil_append, List.map_append, List.map_cons, List.map_nil, List.sum_append, List.sum_cons, List.sum_nil, List.map_flatMap, Nat.add_zero, Nat.zero_add]; ac_rfl)))
    refine DelOk.all hT0 hT4 rfl M.m3 M.m1 M.odd k t false x M.fl M.asc hsz M.gd h1 s2 fun t' h' y ok e1 g' f' hT s => ?_
    have s : St h0 ([(tb, 0, hd0 iso ctr), (tb, 4, hd4 ((m / 2 : Nat) : Int) m)] ++ Z) ((tb, 2, [ptr t.id 0]) :: (tb, 3, [.int .i64 t.pt.items.length]) :: (t'.all enc ++ E)) h' := s.perm (by ((apply perm_rg; intro f; simp only [List.set_cons_zero, List.set_cons_succ, List.eraseIdx_cons_zero, List.eraseIdx_cons_succ, List.cons_append, List.nil_append, List.map_append, List.map_cons, List.map_nil, List.sum_append, List.sum_cons, List.sum_nil, List.map_flatMap, Nat.add_zero, Nat.zero_add]; ac_rfl)))
    have hT : (match lget lt t.pt.items x with | none => _ | some z => _ : Prop) := hT
    have H : ∀ (g' : Rt) h', (rPt g').items = ldel lt t.pt.items x → MapOk m iso g' → St h0 Z ((tb, 0, hdr iso ctr (rA g') (rPt g').items.length ((m / 2 : Nat) : Int) m) :: (rAll g' ++ E)) h' → Q (.tuple #[old (lget lt t.pt.items x), .bool (lget lt t.pt.items x).isSome]) h' := H
    have key : ∀ g' : Rt, (rPt g').items = ldel lt t.pt.items x → rGd iso g' → (rPt g').Fl m → MapOk m iso g' := key
    have hdl := ldel_len (lt := lt) t.pt.items x
    have hsz : t.pt.items.length ≤ 4611686018427387903 := hsz
    refine r_ext rfl ?_
    refine r_ext rfl ?_
    refine s.r_alloc fun t6 h s => ?_
    (refine St.r_storeN0 s 0 rfl rfl (by simp) (enc1 _) ?_; intro h s; try simp only [List.set_cons_zero, List.set_cons_succ] at s)
    refine r_not ?_
    cases hg : lget lt t.pt.items x with
    | none =>
      rw [hg] at hT H
      obtain ⟨rfl, rfl, e3⟩ := hT
      refine r_if (fun _ => ?_) (fun e => absurd e (by simp))
      refine r_nil ?_
      refine r_fld ?_
      refine r_fld ?_
      refine s.r_lz hT4 0 rfl rfl ?_
      have e4 : t'.pt.items = ldel lt t.pt.items x := by rw [ldel_none hg]; exact e3
      refine H (some ⟨k, t'⟩) h e4 (key (some ⟨k, t'⟩) e4 g' (f'.mono (by simp; omega))) ?_
      have s := hdr_glue (back _ h (s.drop 1))
      show St h0 Z ((tb, 0, hdr iso ctr (some ⟨t'.id, 0, none⟩) t'.pt.items.length ((m / 2 : Nat) : Int) m) :: (t'.all enc ++ E)) h
      rw [e1, e3]; exact s
    | some z =>
      rw [hg] at hT H hdl
      obtain ⟨rfl, rfl, e3⟩ := hT
      refine r_if (fun e => absurd e (by simp)) (fun _ => ?_)
      have fin : ∀ (g2 : Rt) h, (rPt g2).items = ldel lt t.pt.items x → rGd iso g2 → ((rPt g2).items ≠ [] → (rPt g2).Fl m) →
          St h0 ([(tb, 0, hd0 iso ctr), (tb, 4, hd4 ((m / 2 : Nat) : Int) m)] ++ Z) ((t6, 0, enc y) :: (tb, 2, [.pointer (rA g2)]) :: (tb, 3, [.int .i64 t.pt.items.length]) :: (rAll g2 ++ E)) h → Map_ii_Delete.j3 (ptr tb 0) (ptr t6 0) h Q := by
        intro g2 h e4 gd2 f2 s
        have hl1 : t.pt.items.length = (rPt g2).items.length + 1 := by rw [e4]; simpa using hdl.symm
        unfold Map_ii_Delete.j3
        refine r_nil ?_
        refine r_fld ?_
        refine s.r_loadI 2 0 rfl rfl rfl ?_
        refine r_sub1 (by omega) (by omega) ?_
        refine r_nil ?_
        refine r_fld ?_
        (refine s.r_storeI 2 0 rfl rfl (by simp) rfl ?_; intro h s; try simp only [List.set_cons_zero, List.set_cons_succ] at s)
        refine r_nil ?_
        refine r_fld ?_
        refine s.r_loadI 2 0 rfl rfl rfl ?_
        refine r_cmpI ?_
        refine r_if (fun hz => ?_) (fun hz => ?_)
        · have hz : (rPt g2).items.length = 0 := by simp at hz; omega
          have e5 : ldel lt t.pt.items x = [] := by rw [← e4]; exact List.length_eq_zero_iff.1 hz
          refine r_nil ?_
          refine r_fld ?_
          (refine s.r_storeI 1 0 rfl rfl (by simp) rfl ?_; intro h s; try simp only [List.set_cons_zero, List.set_cons_succ] at s)
          unfold Map_ii_Delete.j4
          refine r_fld ?_
          refine St.r_load0 s 0 rfl rfl ?_
          refine H none h (by rw [e5]; rfl) (key none (by rw [e5]; rfl) trivial trivial) ?_
          rw [show t.pt.items.length - 1 = 0 by omega] at s
          have s2 : St h0 _ ((tb, 2, [.pointer none]) :: (tb, 3, [.int .i64 ((0 : Nat) : Int)]) :: E) h := (s.drop 1).sub (List.Sublist.cons_cons _ (List.Sublist.cons_cons _ (List.sublist_append_right _ _)))
          exact hdr_glue (back _ h s2)
        · have hz : (rPt g2).items.length ≠ 0 := by intro e; simp at hz; omega
          unfold Map_ii_Delete.j4
          refine r_fld ?_
          refine St.r_load0 s 0 rfl rfl ?_
          refine H g2 h e4 (key g2 e4 gd2 (f2 (fun e => hz (by rw [e]; rfl)))) ?_
          have s := hdr_glue (back _ h (s.drop 1))
          rw [hl1, Nat.add_sub_cancel] at s
          exact s
      unfold Map_ii_Delete.j2
      have s : St h0 ([(tb, 0, hd0 iso ctr), (tb, 4, hd4 ((m / 2 : Nat) : Int) m)] ++ Z) ((t6, 0, enc y) :: (tb, 2, [ptr t.id 0]) :: (tb, 3, [.int .i64 t.pt.items.length]) :: (t'.all enc ++ E)) h := s
      have wt := g'.own
      rw [all_eq t', e1] at s
      have s : St h0 ([(tb, 0, hd0 iso ctr), (tb, 4, hd4 ((m / 2 : Nat) : Int) m)] ++ Z) ((t6, 0, enc y) :: (tb, 2, [ptr t.id 0]) :: (tb, 3, [.int .i64 t.pt.items.length]) :: (t.id, 0, [.int .u64 t'.nd.iso, .int .i64 t'.nd.cnt, t'.nd.iv, GT.kp t']) :: (t'.nd.ib, t'.nd.io, t'.nd.its.flatMap enc ++ t'.nd.isp) :: (GT.rest t' ++ E)) h := s
      have base : t'.nd.its.length ≠ 0 ∨ t'.pt.items = [] → Map_ii_Delete.j3 (ptr tb 0) (ptr t6 0) h Q := fun hb => by
        refine fin (some ⟨k, t'⟩) h e3 g' (fun hne => ?_) ?_
        · rcases hb with hb | hb
          · exact (fl_any (lo' := 1) f' (by rw [GT.pt_its]; omega) : t'.pt.Fl m 1)
          · exact absurd hb hne
        · show St h0 _ ((t6, 0, enc y) :: (tb, 2, [ptr t'.id 0]) :: (tb, 3, [.int .i64 t.pt.items.length]) :: (t'.all enc ++ E)) h
          rw [all_eq t', e1]; exact s
      refine r_nil ?_
      refine r_fld ?_
      refine s.r_loadI 1 0 rfl rfl rfl ?_
      refine r_nil ?_
      refine r_fld ?_
      refine St.r_load0 s 3 rfl rfl ?_
      refine Own.lenV (by assumption) ?_
      refine r_cmpI ?_
      refine r_br (fun hz => ?_) (fun hz => ?_)
      · have hz : t'.nd.its.length = 0 := by have := eq_of_beq hz; omega
        refine r_nil ?_
        refine r_fld ?_
        refine s.r_loadI 1 0 rfl rfl rfl ?_
        cases k with
        | zero =>
          refine leaf_ok (a := none) (s.cl0 3 rfl rfl) ?_
          refine r_not ?_
          refine r_if (fun e => absurd e (by simp)) (fun _ => ?_)
          exact base (.inr (List.length_eq_zero_iff.1 hz))
        | succ k =>
          refine leaf_ok (a := some ⟨t'.1.kb, 0, none⟩) (s.cl0 3 rfl rfl) ?_
          refine r_not ?_
          refine r_if (fun _ => ?_) (fun e => absurd e (by simp))
          obtain ⟨c, ec, eit⟩ := rt_of (iso := iso) (f'.mono (Nat.zero_le _)) hz
          have wK := g'.ownK
          have s : St h0 ([(tb, 0, hd0 iso ctr), (tb, 4, hd4 ((m / 2 : Nat) : Int) m)] ++ Z) ((t6, 0, enc y) :: (tb, 2, [ptr t.id 0]) :: (tb, 3, [.int .i64 t.pt.items.length]) :: (t.id, 0, [.int .u64 t'.nd.iso, .int .i64 t'.nd.cnt, t'.nd.iv, ptr t'.1.kb 0]) :: (t'.nd.ib, t'.nd.io, t'.nd.its.flatMap enc ++ t'.nd.isp) ::
            (t'.1.kb, 0, [t'.1.kv]) :: (t'.1.krb, t'.1.kro, ((t'.2.map GT.id).map pp).flatMap fv ++ t'.1.ksp) :: (t'.2.flatMap (GT.all enc) ++ E)) h := s
          have hc0 : ((t'.2.map GT.id).map pp)[0]? = some (ptr c.id 0) := by rw [ec]; rfl
          have hkl0 : 0 < ((t'.2.map GT.id).map pp).length := by rw [ec]; simp
          refine r_nil ?_
          refine r_fld ?_
          refine s.r_loadI 1 0 rfl rfl rfl ?_
          refine r_nil ?_
          refine r_fld ?_
          refine St.r_load0 s 3 rfl rfl ?_
          refine r_nil ?_
          refine St.r_load0 s 5 rfl rfl ?_
          (refine Own.idx (by assumption) rfl (by first | omega | (simp; done) | (simp; omega)) ?_)
          refine s.r_loadV 6 rfl (by assumption) ?_
          refine r_nil ?_
          refine r_fld ?_
          (refine s.r_storeI 1 0 rfl rfl (by simp) rfl ?_; intro h s; try simp only [List.set_cons_zero, List.set_cons_succ] at s)
          refine fin (some ⟨k, c⟩) h (by rw [← e3, eit]; rfl) (g'.kid (by rw [ec]; simp)) (fun _ => ?_) ((s.perm (E' := (t.id, 0, [.int .u64 t'.nd.iso, .int .i64 t'.nd.cnt, t'.nd.iv, ptr t'.1.kb 0]) :: (t'.nd.ib, t'.nd.io, t'.nd.its.flatMap enc ++ t'.nd.isp) :: (t'.1.kb, 0, [t'.1.kv]) :: (t'.1.krb, t'.1.kro, ((t'.2.map GT.id).map pp).flatMap fv ++ t'.1.ksp) :: ((t6, 0, enc y) :: (tb, 2, [ptr c.id 0]) :: (tb, 3, [.int .i64 t.pt.items.length]) :: (c.all enc ++ E))) ?_).drop 4)
          · have m3 := M.m3
            have := f'.2.2.2 c.pt (List.mem_map.2 ⟨c, by rw [ec]; simp, rfl⟩)
            exact this.mono (by omega)
          · have e6 : t'.2.flatMap (GT.all enc) = c.all enc := by rw [ec]; simp
            rw [e6]
            ((apply perm_rg; intro f; simp only [List.set_cons_zero, List.set_cons_succ, List.eraseIdx_cons_zero, List.eraseIdx_cons_succ, List.cons_append, List.nil_append, List.map_append, List.map_cons, List.map_nil, List.sum_append, List.sum_cons, List.sum_nil, List.map_flatMap, Nat.add_zero, Nat.zero_add]; ac_rfl))
      · have hz : t'.nd.its.length ≠ 0 := by intro e; simp [e] at hz
        exact base (.inl hz)
end Go.Proofs.Ytlihjljdndbpdaa.Ii
end
section
namespace Go.Proofs.Ytlihjljdndbpdaa
open Go.Hp
set_option maxRecDepth 100000
set_option maxHeartbeats 8000000
set_option linter.unusedVariables false
set_option linter.unusedSimpArgs false

/-! ### impl.entries -/
def i_entries.sh (a0 : Value) (h : Heap) (Q : Value → Heap → Prop) : Prop :=
    alloc [(.slice none 0 0)] 22 h fun t3 h =>
    i_pairs.call #[t3, (.int .i64 0)] h fun t5 h =>
    Map_ii_Scan.call #[a0, t5] h fun t6 h =>
    load1 t3 h fun t7 =>
    Q t7 h
theorem i_entries.body (a0 : Value) (h : Heap) (Q : Value → Heap → Prop) (H : i_entries.sh a0 h Q) : i_entries.call #[a0] h Q := by
  refine callsH_of (args := [a0]) Try.func92 rfl rfl ?_
  unfold i_entries.sh at H
  refine WPc_seq' ?_
  refine W_region (by kernel_rfl) ?_
  refine vl_n ?_
  refine H_of_R (R_assign (v := (.slice none 0 0)) rfl ?_)
  refine vl_e ?_
  refine WPc_seq' ?_
  refine W_region (by kernel_rfl) ?_
  refine vl_n ?_
  refine H_alloc TV_22 H fun t3 h H => ?_
  refine vl_e ?_
  refine WPc_seq' ?_
  refine W_region (by kernel_rfl) ?_
  refine vl_n ?_
  refine H_of_R (R_move (v := a0) rfl ?_)
  refine vl_n ?_
  refine H_call HB_78 H fun t5 h H => ?_
  refine vl_n ?_
  refine H_call HB_77 H fun t6 h H => ?_
  refine vl_e ?_
  refine WPc_seq' ?_
  refine W_region (by kernel_rfl) ?_
  refine vl_n ?_
  refine H_of_R (R_load1 T1_22 H fun _ t7 _ _ H => ?_)
  refine vl_n ?_
  refine H_of_R (R_assign (v := t7) rfl ?_)
  refine vl_e ?_
  refine WPc_ret ?_
  refine resH_of rfl ?_
  exact H

end Go.Proofs.Ytlihjljdndbpdaa
end
section
namespace Go.Proofs.Ytlihjljdndbpdaa
open Go.Hp
set_option maxRecDepth 100000
set_option maxHeartbeats 8000000
set_option linter.unusedVariables false
set_option linter.unusedSimpArgs false

/-! ### laws.turnedInto -/
def l_turnedInto.j2 (s7 : Value) (h : Heap) (Q : Value → Heap → Prop) : Prop :=
    Q s7 h
def l_turnedInto.j5 (s0 : Value) (s1 : Value) (s7 : Value) (s44 : Value) (s45 : Value) (s46 : Value) (h : Heap) (K1 : List Value → Heap → Prop) (Q : Value → Heap → Prop) : Prop :=
    arith (· + ·) s46 (.int .i64 1) fun t81 =>
    K1 [s7, t81] h
def l_turnedInto.j4 (s0 : Value) (s1 : Value) (s7 : Value) (s44 : Value) (s45 : Value) (s46 : Value) (h : Heap) (K1 : List Value → Heap → Prop) (Q : Value → Heap → Prop) : Prop :=
    idx 2 s44 s46 fun t48 =>
    loadN 2 t48 h fun t49 =>
    alloc [(.int .i64 0), (.int .i64 0)] 27 h fun t12 h =>
    storeN 2 t12 t49 h fun h =>
    fld 0 t12 fun t52 =>
    load1 t52 h fun t53 =>
    mkSl (if 1 * 1 = 0 then [] else zeros [(.int .i64 0)] 1) 1 [(0 * 1, 1, t53)] 3 h fun t54 h =>
    i_MGet.call #[s0, s1, t54] h fun t55 h =>
    lenV t55 fun t57 =>
    cmpI (fun a b => a == b) t57 (.int .i64 1) fun t58 =>
    br t58 true (idx 3 t55 (.int .i64 0) fun t61 =>
    fld 2 t61 fun t62 =>
    load1 t62 h fun t63 =>
    notV t63 fun t64 =>
    br t64 false (idx 3 t55 (.int .i64 0) fun t67 =>
    fld 0 t67 fun t68 =>
    fld 1 t68 fun t69 =>
    load1 t69 h fun t70 =>
    fld 1 t12 fun t71 =>
    load1 t71 h fun t72 =>
    cmpI (fun a b => a != b) t70 t72 fun t73 =>
    ifV t73
    (loadN 2 t12 h fun t77 =>
    buildV [(.bool false), (.int .i64 0), (.int .i64 0)] [(1, 2, t77)] fun t78 =>
    mkSl (if 1 * 3 = 0 then [] else zeros [(.bool false), (.int .i64 0), (.int .i64 0)] 1) 1 [(0 * 3, 3, t78)] 72 h fun t79 h =>
    app 72 3 24 [(.bool false), (.int .i64 0), (.int .i64 0)] s7 t79 h fun t80 h =>
    l_turnedInto.j5 s0 s1 t80 s44 s45 s46 h K1 Q)
    (l_turnedInto.j5 s0 s1 s7 s44 s45 s46 h K1 Q)) (loadN 2 t12 h fun t77_2 =>
    buildV [(.bool false), (.int .i64 0), (.int .i64 0)] [(1, 2, t77_2)] fun t78_2 =>
    mkSl (if 1 * 3 = 0 then [] else zeros [(.bool false), (.int .i64 0), (.int .i64 0)] 1) 1 [(0 * 3, 3, t78_2)] 72 h fun t79_2 h =>
    app 72 3 24 [(.bool false), (.int .i64 0), (.int .i64 0)] s7 t79_2 h fun t80_2 h =>
    l_turnedInto.j5 s0 s1 t80_2 s44 s45 s46 h K1 Q)) (l_turnedInto.j5 s0 s1 s7 s44 s45 s46 h K1 Q)
def l_turnedInto.l3.b (c0 : Value) (c1 : Value) (c44 : Value) (c45 : Value) (s7 : Value) (s46 : Value) (h : Heap) (K1 : List Value → Heap → Prop) (Q : Value → Heap → Prop) : Prop :=
    cmpI (fun a b => decide (a < b)) s46 c45 fun t47 =>
    ifV t47
    (l_turnedInto.j4 c0 c1 s7 c44 c45 s46 h K1 Q)
    (l_turnedInto.j2 s7 h Q)
def l_turnedInto.j1 (s0 : Value) (s1 : Value) (s2 : Value) (s7 : Value) (h : Heap) (Q : Value → Heap → Prop) : Prop :=
    lenV s2 fun t45 =>
    loopC (fun c s h K1 => l_turnedInto.l3.b (c.getD 0 undef) (c.getD 1 undef) (c.getD 2 undef) (c.getD 3 undef) (s.getD 0 undef) (s.getD 1 undef) h K1 Q) [s0, s1, s2, t45] [s7, (.int .i64 0)] h
def l_turnedInto.j8 (s0 : Value) (s1 : Value) (s2 : Value) (s7 : Value) (s14 : Value) (s15 : Value) (s16 : Value) (h : Heap) (K1 : List Value → Heap → Prop) (Q : Value → Heap → Prop) : Prop :=
    arith (· + ·) s16 (.int .i64 1) fun t43 =>
    K1 [s7, t43] h
def l_turnedInto.j7 (s0 : Value) (s1 : Value) (s2 : Value) (s7 : Value) (s14 : Value) (s15 : Value) (s16 : Value) (h : Heap) (K1 : List Value → Heap → Prop) (Q : Value → Heap → Prop) : Prop :=
    idx 2 s14 s16 fun t18 =>
    loadN 2 t18 h fun t19 =>
    alloc [(.int .i64 0), (.int .i64 0)] 27 h fun t9 h =>
    storeN 2 t9 t19 h fun h =>
    fld 0 t9 fun t22 =>
    load1 t22 h fun t23 =>
    mkSl (if 1 * 1 = 0 then [] else zeros [(.int .i64 0)] 1) 1 [(0 * 1, 1, t23)] 3 h fun t24 h =>
    i_MGet.call #[s0, s2, t24] h fun t25 h =>
    lenV t25 fun t27 =>
    cmpI (fun a b => a == b) t27 (.int .i64 1) fun t28 =>
    br t28 true (idx 3 t25 (.int .i64 0) fun t31 =>
    fld 2 t31 fun t32 =>
    load1 t32 h fun t33 =>
    notV t33 fun t34 =>
    ifV t34
    (fld 0 t9 fun t37 =>
    load1 t37 h fun t38 =>
    buildV [(.int .i64 0), (.int .i64 0)] [(0, 1, t38)] fun t39 =>
    buildV [(.bool false), (.int .i64 0), (.int .i64 0)] [(0, 1, (.bool true)), (1, 2, t39)] fun t40 =>
    mkSl (if 1 * 3 = 0 then [] else zeros [(.bool false), (.int .i64 0), (.int .i64 0)] 1) 1 [(0 * 3, 3, t40)] 72 h fun t41 h =>
    app 72 3 24 [(.bool false), (.int .i64 0), (.int .i64 0)] s7 t41 h fun t42 h =>
    l_turnedInto.j8 s0 s1 s2 t42 s14 s15 s16 h K1 Q)
    (l_turnedInto.j8 s0 s1 s2 s7 s14 s15 s16 h K1 Q)) (l_turnedInto.j8 s0 s1 s2 s7 s14 s15 s16 h K1 Q)
def l_turnedInto.l6.b (c0 : Value) (c1 : Value) (c2 : Value) (c14 : Value) (c15 : Value) (s7 : Value) (s16 : Value) (h : Heap) (K1 : List Value → Heap → Prop) (Q : Value → Heap → Prop) : Prop :=
    cmpI (fun a b => decide (a < b)) s16 c15 fun t17 =>
    ifV t17
    (l_turnedInto.j7 c0 c1 c2 s7 c14 c15 s16 h K1 Q)
    (l_turnedInto.j1 c0 c1 c2 s7 h Q)
def l_turnedInto.sh (a0 : Value) (a1 : Value) (a2 : Value) (h : Heap) (Q : Value → Heap → Prop) : Prop :=
    lenV a1 fun t15 =>
    loopC (fun c s h K1 => l_turnedInto.l6.b (c.getD 0 undef) (c.getD 1 undef) (c.getD 2 undef) (c.getD 3 undef) (c.getD 4 undef) (s.getD 0 undef) (s.getD 1 undef) h K1 Q) [a0, a1, a2, a1, t15] [(.slice none 0 0), (.int .i64 0)] h
theorem l_turnedInto.body (a0 : Value) (a1 : Value) (a2 : Value) (h : Heap) (Q : Value → Heap → Prop) (H : l_turnedInto.sh a0 a1 a2 h Q) : l_turnedInto.call #[a0, a1, a2] h Q := by
  refine callsH_of (args := [a0, a1, a2]) Try.func38 rfl rfl ?_
  unfold l_turnedInto.sh at H
  refine WPc_seq' ?_
  refine W_region (by kernel_rfl) ?_
  refine vl_n ?_
  refine H_of_R (R_assign (v := (.slice none 0 0)) rfl ?_)
  refine vl_e ?_
  refine WPc_seq' ?_
  refine W_region (by kernel_rfl) ?_
  refine vl_n ?_
  refine H_of_R (R_assign (v := (.slice none 0 0)) rfl ?_)
  refine vl_e ?_
  refine WPc_seq (fun e h => l_turnedInto.j1 (e 0) (e 1) (e 2) (e 7) h Q) ?_ (fun e h H => ?_)
  rotate_left
  · unfold l_turnedInto.j1 at H
    refine WPc_seq (fun e h => l_turnedInto.j2 (e 7) h Q) ?_ (fun e h H => ?_)
    rotate_left
    · unfold l_turnedInto.j2 at H
      refine WPc_seq' ?_
      refine W_region (by kernel_rfl) ?_
      refine vl_n ?_
      refine H_of_R (R_move (v := (e 7)) rfl ?_)
      refine vl_n ?_
      refine H_of_R (R_assign (v := (e 7)) rfl ?_)
      refine vl_e ?_
      refine WPc_ret ?_
      refine resH_of rfl ?_
      exact H
    refine WPc_seq' ?_
    refine W_region (by kernel_rfl) ?_
    refine vl_n ?_
    refine H_of_R (R_move (v := (e 2)) rfl ?_)
    refine vl_n ?_
    refine H_of_R (R_len Try.underlying22 H fun t45 H => ?_)
    refine vl_n ?_
    refine H_of_R (R_move (v := (.int .i64 0)) rfl ?_)
    refine vl_e ?_
    refine WPc_block ?_
    refine loop_at (fun e => [e 7, e 46]) (fun e => [e 0, e 1, e 44, e 45]) H rfl rfl ?_
    intro K1 e1 h H hin1
    replace H : l_turnedInto.l3.b (e1 0) (e1 1) (e1 44) (e1 45) (e1 7) (e1 46) h K1 Q := H
    unfold l_turnedInto.l3.b at H
    clear hin1
    refine WPc_seq' ?_
    refine W_region (by kernel_rfl) ?_
    refine vl_n ?_
    refine H_of_R (R_lss H fun t47 H => ?_)
    refine vl_e ?_
    refine WPc_seq (fun e h => l_turnedInto.j4 (e 0) (e 1) (e 7) (e 44) (e 45) (e 46) h K1 Q ∧ [e1 0, e1 1, e1 44, e1 45] = [e 0, e 1, e 44, e 45]) ?_ (fun e h ⟨H, hq1⟩ => ?_)
    rotate_left
    · unfold l_turnedInto.j4 at H
      refine WPc_seq (fun e h => l_turnedInto.j5 (e 0) (e 1) (e 7) (e 44) (e 45) (e 46) h K1 Q ∧ [e1 0, e1 1, e1 44, e1 45] = [e 0, e 1, e 44, e 45]) ?_ (fun e h ⟨H, hq1⟩ => ?_)
      rotate_left
      · unfold l_turnedInto.j5 at H
        refine W_region (by kernel_rfl) ?_
        refine vl_n ?_
        refine H_of_R (R_add H fun t81 H => ?_)
        refine vl_n ?_
        refine H_of_R (R_move (v := t81) rfl ?_)
        refine vl_e ?_
        exact ⟨H, hq1⟩
      refine WPc_block ?_
      refine WPc_seq' ?_
      refine W_region (by kernel_rfl) ?_
      refine vl_n ?_
      refine H_of_R (R_idx TE_22 H fun t48 H => ?_)
      refine vl_n ?_
      refine H_of_R (R_loadN TN_27 H fun _ t49 _ _ H _ _ => ?_)
      refine vl_n ?_
      refine H_alloc TV_27 H fun t12 h H => ?_
      refine vl_n ?_
      refine H_storeN TS_27 H fun h H => ?_
      refine vl_e ?_
      refine WPc_seq' ?_
      refine W_region (by kernel_rfl) ?_
      refine vl_n ?_
      refine H_of_R (R_move (v := (e 0)) rfl ?_)
      refine vl_n ?_
      refine H_of_R (R_move (v := (e 1)) rfl ?_)
      refine vl_n ?_
      refine H_of_R (R_fld TF_27_0 H fun t52 H => ?_)
      refine vl_n ?_
      refine H_of_R (R_load1 T1_3 H fun _ t53 _ _ H => ?_)
      refine vl_n ?_
      refine H_mkSl TZ_37 (by decide) rfl H rfl fun t54 h H => ?_
      refine vl_n ?_
      refine H_call HB_43 H fun t55 h H => ?_
      refine vl_n ?_
      refine H_of_R (R_assign (v := t55) rfl ?_)
      refine vl_e ?_
      refine WPc_seq' ?_
      refine W_drawn [0, 1, 3, 7, 15, 31, 63, 127, 255, 511, 1023, 2047, 4095, 8191, 16383, 1023, 33791, 131071, 262143, 524287] (.take 0 (.take 1 (.take 2 (.take 3 (.take 4 (.take 5 (.take 6 (.take 7 (.take 8 (.take 9 (.take 10 (.take 11 (.take 12 (.take 13 (.take 14 (.take 15 (.take 16 (.take 17 (.take 18 (.take 19 .done)))))))))))))))))))) mixed (by kernel_rfl) ?_
      refine tkP rfl ?_
      refine R_move (v := t55) rfl ⟨fun _ => trivial, ?_⟩
      refine tkP rfl ?_
      refine R_len Try.underlying66 H fun t57 H => ⟨fun _ => trivial, ?_⟩
      refine tkP rfl ?_
      refine R_eqI H fun t58 H => ⟨fun _ => trivial, ?_⟩
      refine tkP rfl ?_
      refine R_move (v := t58) rfl ⟨fun _ => trivial, ?_⟩
      obtain ⟨b, hb, H1, H2⟩ := H
      cases b
      · have H := H2 rfl; clear H1 H2
        refine tk_s rfl rfl (nbT hb) ?_
        refine tk_s rfl rfl (nbT hb) ?_
        refine tk_s rfl rfl (nbT hb) ?_
        refine tk_s rfl rfl (nbT hb) ?_
        refine tk_s rfl rfl (nbT hb) ?_
        refine tk_s rfl rfl (nbT hb) ?_
        refine tk_s rfl rfl nbU ?_
        refine tk_s rfl rfl nbU ?_
        refine tk_s rfl rfl nbU ?_
        refine tk_s rfl rfl nbU ?_
        refine tk_s rfl rfl nbU ?_
        refine tk_s rfl rfl nbU ?_
        refine tk_s rfl rfl nbU ?_
        refine tk_s rfl rfl nbU ?_
        refine tk_s rfl rfl (nbT hb) ?_
        refine tkP rfl ?_
        refine R_pickC (v := (.bool false)) false hb rfl ⟨fun _ => trivial, ?_⟩
        refine vp_done ?_
        refine WPc_cond (t := false) rfl (fun hh => by cases hh) (fun _ => ?_)
        refine WPc_skip ?_
        exact ⟨H, hq1⟩
      · have H := H1 rfl; clear H1 H2
        refine tkPy rfl rfl hb ?_
        refine R_move (v := t55) rfl ⟨fun _ => trivial, ?_⟩
        refine tkPy rfl rfl hb ?_
        refine R_idx TE_66 H fun t61 H => ⟨fun _ => trivial, ?_⟩
        refine tkPy rfl rfl hb ?_
        refine R_fld TF_32_1 H fun t62 H => ⟨fun _ => trivial, ?_⟩
        refine tkLy rfl rfl hb ?_
        refine R_load1 T1_4 H fun at63 t63 hat63 _ H => ?_
        refine tkPy rfl rfl hb ?_
        refine R_not H fun t64 H => ⟨fun _ => trivial, ?_⟩
        refine tkPy rfl rfl hb ?_
        refine R_move (v := t64) rfl ⟨fun _ => trivial, ?_⟩
        obtain ⟨b_2, hb_2, H1, H2⟩ := H
        cases b_2
        · have H := H1 rfl; clear H1 H2
          refine tkPy rfl rfl hb_2 ?_
          refine R_move (v := t55) rfl ⟨fun _ => trivial, ?_⟩
          refine tkPy rfl rfl hb_2 ?_
          refine R_idx TE_66 H fun t67 H => ⟨fun _ => trivial, ?_⟩
          refine tkPy rfl rfl hb_2 ?_
          refine R_fld TF_32_0 H fun t68 H => ⟨fun _ => trivial, ?_⟩
          refine tkPy rfl rfl hb_2 ?_
          refine R_fld TF_27_1 H fun t69 H => ⟨fun _ => trivial, ?_⟩
          refine tkLy rfl rfl hb_2 ?_
          refine R_load1 T1_3 H fun at70 t70 hat70 _ H => ?_
          refine tkPy rfl rfl hb_2 ?_
          refine R_fld TF_27_1 H fun t71 H => ⟨fun _ => trivial, ?_⟩
          refine tkLy rfl rfl hb_2 ?_
          refine R_load1 T1_3 H fun at72 t72 hat72 _ H => ?_
          refine tkPy rfl rfl hb_2 ?_
          refine R_neI H fun t73 H => ⟨fun _ => trivial, ?_⟩
          refine tkPy rfl rfl hb ?_
          refine R_pickC (v := t73) false hb_2 rfl ⟨fun _ => trivial, ?_⟩
          refine tkP rfl ?_
          refine R_pickC (v := t73) true hb rfl ⟨fun _ => trivial, ?_⟩
          refine vp_done ?_
          obtain ⟨b_3, hc, H1, H2⟩ := H
          refine WPc_cond hc (fun hh => ?_) (fun hh => ?_)
          · have H := H1 hh; clear H1 H2
            refine W_region (by kernel_rfl) ?_
            refine vl_n ?_
            refine H_of_R (R_move (v := (e 7)) rfl ?_)
            refine vl_n ?_
            refine H_of_R (R_loadN TN_27 H fun _ t77 _ _ H _ _ => ?_)
            refine vl_n ?_
            refine H_of_R (R_build TB_72 rfl (by decide) H fun t78 H => ?_)
            refine vl_n ?_
            refine H_mkSl TZ_69 (by decide) rfl H rfl fun t79 h H => ?_
            refine vl_n ?_
            refine H_app TZ_69 TU_69 H fun t80 h H => ?_
            refine vl_n ?_
            refine H_of_R (R_assign (v := t80) rfl ?_)
            refine vl_e ?_
            exact ⟨H, hq1⟩
          · have H := H2 hh; clear H1 H2
            refine WPc_skip ?_
            exact ⟨H, hq1⟩
        · have H := H2 rfl; clear H1 H2
          refine tk_s rfl rfl (nbF hb_2) ?_
          refine tk_s rfl rfl (nbF hb_2) ?_
          refine tk_s rfl rfl (nbF hb_2) ?_
          refine tk_s rfl rfl (nbF hb_2) ?_
          refine tk_s rfl rfl (nbF hb_2) ?_
          refine tk_s rfl rfl (nbF hb_2) ?_
          refine tk_s rfl rfl (nbF hb_2) ?_
          refine tk_s rfl rfl (nbF hb_2) ?_
          refine tkPy rfl rfl hb ?_
          refine R_pickC (v := (.bool true)) true hb_2 rfl ⟨fun _ => trivial, ?_⟩
          refine tkP rfl ?_
          refine R_pickC (v := (.bool true)) true hb rfl ⟨fun _ => trivial, ?_⟩
          refine vp_done ?_
          refine WPc_cond (t := true) rfl (fun _ => ?_) (fun hh => by cases hh)
          refine W_region (by kernel_rfl) ?_
          refine vl_n ?_
          refine H_of_R (R_move (v := (e 7)) rfl ?_)
          refine vl_n ?_
          refine H_of_R (R_loadN TN_27 H fun _ t77_2 _ _ H _ _ => ?_)
          refine vl_n ?_
          refine H_of_R (R_build TB_72 rfl (by decide) H fun t78_2 H => ?_)
          refine vl_n ?_
          refine H_mkSl TZ_69 (by decide) rfl H rfl fun t79_2 h H => ?_
          refine vl_n ?_
          refine H_app TZ_69 TU_69 H fun t80_2 h H => ?_
          refine vl_n ?_
          refine H_of_R (R_assign (v := t80_2) rfl ?_)
          refine vl_e ?_
          exact ⟨H, hq1⟩
    obtain ⟨b, hc, H1, H2⟩ := H
    refine WPc_cond hc (fun hh => ?_) (fun hh => ?_)
    · have H := H1 hh; clear H1 H2
      refine WPc_skip ?_
      exact ⟨H, rfl⟩
    · have H := H2 hh; clear H1 H2
      refine WPc_exit ?_
      exact H
  refine WPc_seq' ?_
  refine W_region (by kernel_rfl) ?_
  refine vl_n ?_
  refine H_of_R (R_move (v := a1) rfl ?_)
  refine vl_n ?_
  refine H_of_R (R_len Try.underlying22 H fun t15 H => ?_)
  refine vl_n ?_
  refine H_of_R (R_move (v := (.int .i64 0)) rfl ?_)
  refine vl_e ?_
  refine WPc_block ?_
  refine loop_at (fun e => [e 7, e 16]) (fun e => [e 0, e 1, e 2, e 14, e 15]) H rfl rfl ?_
  intro K1 e1 h H hin1
  replace H : l_turnedInto.l6.b (e1 0) (e1 1) (e1 2) (e1 14) (e1 15) (e1 7) (e1 16) h K1 Q := H
  unfold l_turnedInto.l6.b at H
  clear hin1
  refine WPc_seq' ?_
  refine W_region (by kernel_rfl) ?_
  refine vl_n ?_
  refine H_of_R (R_lss H fun t17 H => ?_)
  refine vl_e ?_
  refine WPc_seq (fun e h => l_turnedInto.j7 (e 0) (e 1) (e 2) (e 7) (e 14) (e 15) (e 16) h K1 Q ∧ [e1 0, e1 1, e1 2, e1 14, e1 15] = [e 0, e 1, e 2, e 14, e 15]) ?_ (fun e h ⟨H, hq1⟩ => ?_)
  rotate_left
  · unfold l_turnedInto.j7 at H
    refine WPc_seq (fun e h => l_turnedInto.j8 (e 0) (e 1) (e 2) (e 7) (e 14) (e 15) (e 16) h K1 Q ∧ [e1 0, e1 1, e1 2, e1 14, e1 15] = [e 0, e 1, e 2, e 14, e 15]) ?_ (fun e h ⟨H, hq1⟩ => ?_)
    rotate_left
    · unfold l_turnedInto.j8 at H
      refine W_region (by kernel_rfl) ?_
      refine vl_n ?_
      refine H_of_R (R_add H fun t43 H => ?_)
      refine vl_n ?_
      refine H_of_R (R_move (v := t43) rfl ?_)
      refine vl_e ?_
      exact ⟨H, hq1⟩
    refine WPc_block ?_
    refine WPc_seq' ?_
    refine W_region (by kernel_rfl) ?_
    refine vl_n ?_
    refine H_of_R (R_idx TE_22 H fun t18 H => ?_)
    refine vl_n ?_
    refine H_of_R (R_loadN TN_27 H fun _ t19 _ _ H _ _ => ?_)
    refine vl_n ?_
    refine H_alloc TV_27 H fun t9 h H => ?_
    refine vl_n ?_
    refine H_storeN TS_27 H fun h H => ?_
    refine vl_e ?_
    refine WPc_seq' ?_
    refine W_region (by kernel_rfl) ?_
    refine vl_n ?_
    refine H_of_R (R_move (v := (e 0)) rfl ?_)
    refine vl_n ?_
    refine H_of_R (R_move (v := (e 2)) rfl ?_)
    refine vl_n ?_
    refine H_of_R (R_fld TF_27_0 H fun t22 H => ?_)
    refine vl_n ?_
    refine H_of_R (R_load1 T1_3 H fun _ t23 _ _ H => ?_)
    refine vl_n ?_
    refine H_mkSl TZ_37 (by decide) rfl H rfl fun t24 h H => ?_
    refine vl_n ?_
    refine H_call HB_43 H fun t25 h H => ?_
    refine vl_n ?_
    refine H_of_R (R_assign (v := t25) rfl ?_)
    refine vl_e ?_
    refine WPc_seq' ?_
    refine W_region (by kernel_rfl) ?_
    refine vl_n ?_
    refine H_of_R (R_move (v := t25) rfl ?_)
    refine vl_n ?_
    refine H_of_R (R_len Try.underlying66 H fun t27 H => ?_)
    refine vl_n ?_
    refine H_of_R (R_eqI H fun t28 H => ?_)
    refine vl_n ?_
    refine H_of_R (R_move (v := t28) rfl ?_)
    obtain ⟨b, hb, H1, H2⟩ := H
    cases b
    · have H := H2 rfl; clear H1 H2
      refine vl_s rfl (nbT hb) ?_
      refine vl_s rfl (nbT hb) ?_
      refine vl_s rfl (nbT hb) ?_
      refine vl_s rfl (nbT hb) ?_
      refine vl_s rfl (nbT hb) ?_
      refine vl_n ?_
      refine H_of_R (R_pickC (v := (.bool false)) false hb rfl ?_)
      refine vl_e ?_
      refine WPc_cond (t := false) rfl (fun hh => by cases hh) (fun _ => ?_)
      refine WPc_skip ?_
      exact ⟨H, hq1⟩
    · have H := H1 rfl; clear H1 H2
      refine vl_y rfl hb ?_
      refine H_of_R (R_move (v := t25) rfl ?_)
      refine vl_y rfl hb ?_
      refine H_of_R (R_idx TE_66 H fun t31 H => ?_)
      refine vl_y rfl hb ?_
      refine H_of_R (R_fld TF_32_1 H fun t32 H => ?_)
      refine vl_y rfl hb ?_
      refine H_of_R (R_load1 T1_4 H fun _ t33 _ _ H => ?_)
      refine vl_y rfl hb ?_
      refine H_of_R (R_not H fun t34 H => ?_)
      refine vl_n ?_
      refine H_of_R (R_pickC (v := t34) true hb rfl ?_)
      refine vl_e ?_
      obtain ⟨b_2, hc, H1, H2⟩ := H
      refine WPc_cond hc (fun hh => ?_) (fun hh => ?_)
      · have H := H1 hh; clear H1 H2
        refine W_region (by kernel_rfl) ?_
        refine vl_n ?_
        refine H_of_R (R_move (v := (e 7)) rfl ?_)
        refine vl_n ?_
        refine H_of_R (R_fld TF_27_0 H fun t37 H => ?_)
        refine vl_n ?_
        refine H_of_R (R_load1 T1_3 H fun _ t38 _ _ H => ?_)
        refine vl_n ?_
        refine H_of_R (R_build TB_27 rfl (by decide) H fun t39 H => ?_)
        refine vl_n ?_
        refine H_of_R (R_build TB_72 rfl (by decide) H fun t40 H => ?_)
        refine vl_n ?_
        refine H_mkSl TZ_69 (by decide) rfl H rfl fun t41 h H => ?_
        refine vl_n ?_
        refine H_app TZ_69 TU_69 H fun t42 h H => ?_
        refine vl_n ?_
        refine H_of_R (R_assign (v := t42) rfl ?_)
        refine vl_e ?_
        exact ⟨H, hq1⟩
      · have H := H2 hh; clear H1 H2
        refine WPc_skip ?_
        exact ⟨H, hq1⟩
  obtain ⟨b, hc, H1, H2⟩ := H
  refine WPc_cond hc (fun hh => ?_) (fun hh => ?_)
  · have H := H1 hh; clear H1 H2
    refine WPc_skip ?_
    exact ⟨H, rfl⟩
  · have H := H2 hh; clear H1 H2
    refine WPc_exit ?_
    exact H
/-! ### impl.MDelete -/
def i_MDelete.j1 (s8 : Value) (s9 : Value) (h : Heap) (Q : Value → Heap → Prop) : Prop :=
    i_entries.call #[s8] h fun t39 h =>
    Q (.tuple #[s9, t39]) h
def i_MDelete.j4 (s8 : Value) (s9 : Value) (s17 : Value) (s18 : Value) (s19 : Value) (h : Heap) (K1 : List Value → Heap → Prop) (Q : Value → Heap → Prop) : Prop :=
    arith (· + ·) s19 (.int .i64 1) fun t36 =>
    K1 [s9, t36] h
def i_MDelete.j3 (s8 : Value) (s9 : Value) (s17 : Value) (s18 : Value) (s19 : Value) (h : Heap) (K1 : List Value → Heap → Prop) (Q : Value → Heap → Prop) : Prop :=
    idx 1 s17 s19 fun t21 =>
    load1 t21 h fun t22 =>
    Map_ii_Delete.call #[s8, t22] h fun t26 h =>
    extr 0 t26 fun t27 =>
    extr 1 t26 fun t28 =>
    i_pair.call #[t22, t27, t28] h fun t33 h =>
    mkSl (if 1 * 3 = 0 then [] else zeros [(.int .i64 0), (.int .i64 0), (.bool false)] 1) 1 [(0 * 3, 3, t33)] 32 h fun t34 h =>
    app 32 3 24 [(.int .i64 0), (.int .i64 0), (.bool false)] s9 t34 h fun t35 h =>
    i_MDelete.j4 s8 t35 s17 s18 s19 h K1 Q
def i_MDelete.l2.b (c8 : Value) (c17 : Value) (c18 : Value) (s9 : Value) (s19 : Value) (h : Heap) (K1 : List Value → Heap → Prop) (Q : Value → Heap → Prop) : Prop :=
    cmpI (fun a b => decide (a < b)) s19 c18 fun t20 =>
    ifV t20
    (i_MDelete.j3 c8 s9 c17 c18 s19 h K1 Q)
    (i_MDelete.j1 c8 s9 h Q)
def i_MDelete.sh (a0 : Value) (a1 : Value) (a2 : Value) (h : Heap) (Q : Value → Heap → Prop) : Prop :=
    i_growMap.call #[a0, a1] h fun t16 h =>
    lenV a2 fun t18 =>
    loopC (fun c s h K1 => i_MDelete.l2.b (c.getD 0 undef) (c.getD 1 undef) (c.getD 2 undef) (s.getD 0 undef) (s.getD 1 undef) h K1 Q) [t16, a2, t18] [(.slice none 0 0), (.int .i64 0)] h
theorem i_MDelete.body (a0 : Value) (a1 : Value) (a2 : Value) (h : Heap) (Q : Value → Heap → Prop) (H : i_MDelete.sh a0 a1 a2 h Q) : i_MDelete.call #[a0, a1, a2] h Q := by
  refine callsH_of (args := [a0, a1, a2]) Try.func39 rfl rfl ?_
  unfold i_MDelete.sh at H
  refine WPc_seq' ?_
  refine W_region (by kernel_rfl) ?_
  refine vl_n ?_
  refine H_of_R (R_assign (v := (.slice none 0 0)) rfl ?_)
  refine vl_n ?_
  refine H_of_R (R_assign (v := (.slice none 0 0)) rfl ?_)
  refine vl_e ?_
  refine WPc_seq' ?_
  refine W_region (by kernel_rfl) ?_
  refine vl_n ?_
  refine H_of_R (R_move (v := a0) rfl ?_)
  refine vl_n ?_
  refine H_of_R (R_move (v := a1) rfl ?_)
  refine vl_n ?_
  refine H_call HB_76 H fun t16 h H => ?_
  refine vl_n ?_
  refine H_of_R (R_assign (v := t16) rfl ?_)
  refine vl_e ?_
  refine WPc_seq' ?_
  refine W_region (by kernel_rfl) ?_
  refine vl_n ?_
  refine H_of_R (R_assign (v := (.slice none 0 0)) rfl ?_)
  refine vl_e ?_
  refine WPc_seq (fun e h => i_MDelete.j1 (e 8) (e 9) h Q) ?_ (fun e h H => ?_)
  rotate_left
  · unfold i_MDelete.j1 at H
    refine WPc_seq' ?_
    refine W_region (by kernel_rfl) ?_
    refine vl_n ?_
    refine H_of_R (R_move (v := (e 9)) rfl ?_)
    refine vl_n ?_
    refine H_of_R (R_move (v := (e 8)) rfl ?_)
    refine vl_n ?_
    refine H_call HB_92 H fun t39 h H => ?_
    refine vl_n ?_
    refine H_of_R (R_assign (v := (e 9)) rfl ?_)
    refine vl_n ?_
    refine H_of_R (R_assign (v := t39) rfl ?_)
    refine vl_e ?_
    refine WPc_ret ?_
    refine resH_of rfl ?_
    exact H
  refine WPc_seq' ?_
  refine W_region (by kernel_rfl) ?_
  refine vl_n ?_
  refine H_of_R (R_move (v := a2) rfl ?_)
  refine vl_n ?_
  refine H_of_R (R_len Try.underlying37 H fun t18 H => ?_)
  refine vl_n ?_
  refine H_of_R (R_move (v := (.int .i64 0)) rfl ?_)
  refine vl_e ?_
  refine WPc_block ?_
  refine loop_at (fun e => [e 9, e 19]) (fun e => [e 8, e 17, e 18]) H rfl rfl ?_
  intro K1 e1 h H hin1
  replace H : i_MDelete.l2.b (e1 8) (e1 17) (e1 18) (e1 9) (e1 19) h K1 Q := H
  unfold i_MDelete.l2.b at H
  clear hin1
  refine WPc_seq' ?_
  refine W_region (by kernel_rfl) ?_
  refine vl_n ?_
  refine H_of_R (R_lss H fun t20 H => ?_)
  refine vl_e ?_
  refine WPc_seq (fun e h => i_MDelete.j3 (e 8) (e 9) (e 17) (e 18) (e 19) h K1 Q ∧ [e1 8, e1 17, e1 18] = [e 8, e 17, e 18]) ?_ (fun e h ⟨H, hq1⟩ => ?_)
  rotate_left
  · unfold i_MDelete.j3 at H
    refine WPc_seq (fun e h => i_MDelete.j4 (e 8) (e 9) (e 17) (e 18) (e 19) h K1 Q ∧ [e1 8, e1 17, e1 18] = [e 8, e 17, e 18]) ?_ (fun e h ⟨H, hq1⟩ => ?_)
    rotate_left
    · unfold i_MDelete.j4 at H
      refine W_region (by kernel_rfl) ?_
      refine vl_n ?_
      refine H_of_R (R_add H fun t36 H => ?_)
      refine vl_n ?_
      refine H_of_R (R_move (v := t36) rfl ?_)
      refine vl_e ?_
      exact ⟨H, hq1⟩
    refine WPc_block ?_
    refine WPc_seq' ?_
    refine W_region (by kernel_rfl) ?_
    refine vl_n ?_
    refine H_of_R (R_idx TE_37 H fun t21 H => ?_)
    refine vl_n ?_
    refine H_of_R (R_load1 T1_3 H fun _ t22 _ _ H => ?_)
    refine vl_n ?_
    refine H_of_R (R_assign (v := t22) rfl ?_)
    refine vl_e ?_
    refine WPc_seq' ?_
    refine W_region (by kernel_rfl) ?_
    refine vl_n ?_
    refine H_of_R (R_move (v := (e 8)) rfl ?_)
    refine vl_n ?_
    refine H_of_R (R_move (v := t22) rfl ?_)
    refine vl_n ?_
    refine H_call HB_72 H fun t26 h H => ?_
    refine vl_n ?_
    refine H_of_R (R_move (v := t26) rfl ?_)
    refine vl_n ?_
    refine H_of_R (R_ext H fun t27 H => ?_)
    refine vl_n ?_
    refine H_of_R (R_ext H fun t28 H => ?_)
    refine vl_n ?_
    refine H_of_R (R_assign (v := t27) rfl ?_)
    refine vl_n ?_
    refine H_of_R (R_assign (v := t28) rfl ?_)
    refine vl_e ?_
    refine W_region (by kernel_rfl) ?_
    refine vl_n ?_
    refine H_of_R (R_move (v := (e 9)) rfl ?_)
    refine vl_n ?_
    refine H_of_R (R_move (v := t22) rfl ?_)
    refine vl_n ?_
    refine H_of_R (R_move (v := t27) rfl ?_)
    refine vl_n ?_
    refine H_of_R (R_move (v := t28) rfl ?_)
    refine vl_n ?_
    refine H_call HB_60 H fun t33 h H => ?_
    refine vl_n ?_
    refine H_mkSl TZ_66 (by decide) rfl H rfl fun t34 h H => ?_
    refine vl_n ?_
    refine H_app TZ_66 TU_66 H fun t35 h H => ?_
    refine vl_n ?_
    refine H_of_R (R_assign (v := t35) rfl ?_)
    refine vl_e ?_
    exact ⟨H, hq1⟩
  obtain ⟨b, hc, H1, H2⟩ := H
  refine WPc_cond hc (fun hh => ?_) (fun hh => ?_)
  · have H := H1 hh; clear H1 H2
    refine WPc_skip ?_
    exact ⟨H, rfl⟩
  · have H := H2 hh; clear H1 H2
    refine WPc_exit ?_
    exact H
/-! ### slices.Clone[[]impl.Item,impl.Item] -/
def sl_Clone_implItemI.j1 (s0 : Value) (h : Heap) (Q : Value → Heap → Prop) : Prop :=
    mkSl (if 0 * 2 = 0 then [] else zeros [(.int .i64 0), (.int .i64 0)] 0) 0 [] 27 h fun t5 h =>
    app 27 2 16 [(.int .i64 0), (.int .i64 0)] t5 s0 h fun t7 h =>
    Q t7 h
def sl_Clone_implItemI.sh (a0 : Value) (h : Heap) (Q : Value → Heap → Prop) : Prop :=
    eqNilS a0 fun t4 =>
    ifV t4
    (Q (.slice none 0 0) h)
    (sl_Clone_implItemI.j1 a0 h Q)
theorem sl_Clone_implItemI.body (a0 : Value) (h : Heap) (Q : Value → Heap → Prop) (H : sl_Clone_implItemI.sh a0 h Q) : sl_Clone_implItemI.call #[a0] h Q := by
  refine callsH_of (args := [a0]) Try.func40 rfl rfl ?_
  unfold sl_Clone_implItemI.sh at H
  refine WPc_seq' ?_
  refine W_region (by kernel_rfl) ?_
  refine vl_n ?_
  refine H_of_R (R_assign (v := (.slice none 0 0)) rfl ?_)
  refine vl_e ?_
  refine WPc_seq (fun e h => sl_Clone_implItemI.j1 (e 0) h Q) ?_ (fun e h H => ?_)
  rotate_left
  · unfold sl_Clone_implItemI.j1 at H
    refine WPc_seq' ?_
    refine W_region (by kernel_rfl) ?_
    refine vl_n ?_
    refine H_mkSl TZ_22 (by decide) rfl H rfl fun t5 h H => ?_
    refine vl_n ?_
    refine H_of_R (R_move (v := (e 0)) rfl ?_)
    refine vl_n ?_
    refine H_app TZ_22 TU_22 H fun t7 h H => ?_
    refine vl_n ?_
    refine H_of_R (R_assign (v := t7) rfl ?_)
    refine vl_e ?_
    refine WPc_ret ?_
    refine resH_of rfl ?_
    exact H
  refine WPc_seq' ?_
  refine W_region (by kernel_rfl) ?_
  refine vl_n ?_
  refine H_of_R (R_move (v := a0) rfl ?_)
  refine vl_n ?_
  refine H_of_R (R_eqNilS Try.underlying22 rfl H fun t4 H => ?_)
  refine vl_e ?_
  obtain ⟨b, hc, H1, H2⟩ := H
  refine WPc_cond hc (fun hh => ?_) (fun hh => ?_)
  · have H := H1 hh; clear H1 H2
    refine WPc_seq' ?_
    refine W_region (by kernel_rfl) ?_
    refine vl_n ?_
    refine H_of_R (R_assign (v := (.slice none 0 0)) rfl ?_)
    refine vl_e ?_
    refine WPc_ret ?_
    refine resH_of rfl ?_
    exact H
  · have H := H2 hh; clear H1 H2
    refine WPc_skip ?_
    exact H
/-! ### spec.Tree -/
def s_Tree.j1 (s5 : Value) (h : Heap) (Q : Value → Heap → Prop) : Prop :=
    Q s5 h
def s_Tree.j4 (s0 : Value) (s5 : Value) (s8 : Value) (s9 : Value) (s10 : Value) (h : Heap) (K1 : List Value → Heap → Prop) (Q : Value → Heap → Prop) : Prop :=
    arith (· + ·) s10 (.int .i64 1) fun t21 =>
    K1 [s5, t21] h
def s_Tree.j3 (s0 : Value) (s5 : Value) (s8 : Value) (s9 : Value) (s10 : Value) (h : Heap) (K1 : List Value → Heap → Prop) (Q : Value → Heap → Prop) : Prop :=
    idx 2 s8 s10 fun t12 =>
    loadN 2 t12 h fun t13 =>
    alloc [(.int .i64 0), (.int .i64 0)] 27 h fun t7 h =>
    storeN 2 t7 t13 h fun h =>
    loadN 2 t7 h fun t17 =>
    s_Put.call #[s0, s5, t17] h fun t18 h =>
    extr 0 t18 fun t19 =>
    extr 1 t18 fun t20 =>
    s_Tree.j4 s0 t19 s8 s9 s10 h K1 Q
def s_Tree.l2.b (c0 : Value) (c8 : Value) (c9 : Value) (s5 : Value) (s10 : Value) (h : Heap) (K1 : List Value → Heap → Prop) (Q : Value → Heap → Prop) : Prop :=
    cmpI (fun a b => decide (a < b)) s10 c9 fun t11 =>
    ifV t11
    (s_Tree.j3 c0 s5 c8 c9 s10 h K1 Q)
    (s_Tree.j1 s5 h Q)
def s_Tree.sh (a0 : Value) (a1 : Value) (h : Heap) (Q : Value → Heap → Prop) : Prop :=
    lenV a1 fun t9 =>
    loopC (fun c s h K1 => s_Tree.l2.b (c.getD 0 undef) (c.getD 1 undef) (c.getD 2 undef) (s.getD 0 undef) (s.getD 1 undef) h K1 Q) [a0, a1, t9] [(.slice none 0 0), (.int .i64 0)] h
theorem s_Tree.body (a0 : Value) (a1 : Value) (h : Heap) (Q : Value → Heap → Prop) (H : s_Tree.sh a0 a1 h Q) : s_Tree.call #[a0, a1] h Q := by
  refine callsH_of (args := [a0, a1]) Try.func89 rfl rfl ?_
  unfold s_Tree.sh at H
  refine WPc_seq' ?_
  refine W_region (by kernel_rfl) ?_
  refine vl_n ?_
  refine H_of_R (R_assign (v := (.slice none 0 0)) rfl ?_)
  refine vl_e ?_
  refine WPc_seq' ?_
  refine W_region (by kernel_rfl) ?_
  refine vl_n ?_
  refine H_of_R (R_assign (v := (.slice none 0 0)) rfl ?_)
  refine vl_e ?_
  refine WPc_seq (fun e h => s_Tree.j1 (e 5) h Q) ?_ (fun e h H => ?_)
  rotate_left
  · unfold s_Tree.j1 at H
    refine WPc_seq' ?_
    refine W_region (by kernel_rfl) ?_
    refine vl_n ?_
    refine H_of_R (R_move (v := (e 5)) rfl ?_)
    refine vl_n ?_
    refine H_of_R (R_assign (v := (e 5)) rfl ?_)
    refine vl_e ?_
    refine WPc_ret ?_
    refine resH_of rfl ?_
    exact H
  refine WPc_seq' ?_
  refine W_region (by kernel_rfl) ?_
  refine vl_n ?_
  refine H_of_R (R_move (v := a1) rfl ?_)
  refine vl_n ?_
  refine H_of_R (R_len Try.underlying22 H fun t9 H => ?_)
  refine vl_n ?_
  refine H_of_R (R_move (v := (.int .i64 0)) rfl ?_)
  refine vl_e ?_
  refine WPc_block ?_
  refine loop_at (fun e => [e 5, e 10]) (fun e => [e 0, e 8, e 9]) H rfl rfl ?_
  intro K1 e1 h H hin1
  replace H : s_Tree.l2.b (e1 0) (e1 8) (e1 9) (e1 5) (e1 10) h K1 Q := H
  unfold s_Tree.l2.b at H
  clear hin1
  refine WPc_seq' ?_
  refine W_region (by kernel_rfl) ?_
  refine vl_n ?_
  refine H_of_R (R_lss H fun t11 H => ?_)
  refine vl_e ?_
  refine WPc_seq (fun e h => s_Tree.j3 (e 0) (e 5) (e 8) (e 9) (e 10) h K1 Q ∧ [e1 0, e1 8, e1 9] = [e 0, e 8, e 9]) ?_ (fun e h ⟨H, hq1⟩ => ?_)
  rotate_left
  · unfold s_Tree.j3 at H
    refine WPc_seq (fun e h => s_Tree.j4 (e 0) (e 5) (e 8) (e 9) (e 10) h K1 Q ∧ [e1 0, e1 8, e1 9] = [e 0, e 8, e 9]) ?_ (fun e h ⟨H, hq1⟩ => ?_)
    rotate_left
    · unfold s_Tree.j4 at H
      refine W_region (by kernel_rfl) ?_
      refine vl_n ?_
      refine H_of_R (R_add H fun t21 H => ?_)
      refine vl_n ?_
      refine H_of_R (R_move (v := t21) rfl ?_)
      refine vl_e ?_
      exact ⟨H, hq1⟩
    refine WPc_block ?_
    refine WPc_seq' ?_
    refine W_region (by kernel_rfl) ?_
    refine vl_n ?_
    refine H_of_R (R_idx TE_22 H fun t12 H => ?_)
    refine vl_n ?_
    refine H_of_R (R_loadN TN_27 H fun _ t13 _ _ H _ _ => ?_)
    refine vl_n ?_
    refine H_alloc TV_27 H fun t7 h H => ?_
    refine vl_n ?_
    refine H_storeN TS_27 H fun h H => ?_
    refine vl_e ?_
    refine W_region (by kernel_rfl) ?_
    refine vl_n ?_
    refine H_of_R (R_move (v := (e 0)) rfl ?_)
    refine vl_n ?_
    refine H_of_R (R_move (v := (e 5)) rfl ?_)
    refine vl_n ?_
    refine H_of_R (R_loadN TN_27 H fun _ t17 _ _ H _ _ => ?_)
    refine vl_n ?_
    refine H_call HB_18 H fun t18 h H => ?_
    refine vl_n ?_
    refine H_of_R (R_move (v := t18) rfl ?_)
    refine vl_n ?_
    refine H_of_R (R_ext H fun t19 H => ?_)
    refine vl_n ?_
    refine H_of_R (R_ext H fun t20 H => ?_)
    refine vl_n ?_
    refine H_of_R (R_assign (v := t19) rfl ?_)
    refine vl_e ?_
    exact ⟨H, hq1⟩
  obtain ⟨b, hc, H1, H2⟩ := H
  refine WPc_cond hc (fun hh => ?_) (fun hh => ?_)
  · have H := H1 hh; clear H1 H2
    refine WPc_skip ?_
    exact ⟨H, rfl⟩
  · have H := H2 hh; clear H1 H2
    refine WPc_exit ?_
    exact H
/-! ### spec.valueAt -/
def s_valueAt.j1 (h : Heap) (Q : Value → Heap → Prop) : Prop :=
    Q (.tuple #[(.int .i64 0), (.bool false)]) h
def s_valueAt.j4 (s1 : Value) (s8 : Value) (s9 : Value) (s10 : Value) (h : Heap) (K1 : List Value → Heap → Prop) (Q : Value → Heap → Prop) : Prop :=
    arith (· + ·) s10 (.int .i64 1) fun t20 =>
    K1 [t20] h
def s_valueAt.j3 (s1 : Value) (s8 : Value) (s9 : Value) (s10 : Value) (h : Heap) (K1 : List Value → Heap → Prop) (Q : Value → Heap → Prop) : Prop :=
    idx 2 s8 s10 fun t12 =>
    loadN 2 t12 h fun t13 =>
    alloc [(.int .i64 0), (.int .i64 0)] 27 h fun t7 h =>
    storeN 2 t7 t13 h fun h =>
    fld 0 t7 fun t14 =>
    load1 t14 h fun t15 =>
    cmpI (fun a b => a == b) t15 s1 fun t17 =>
    ifV t17
    (fld 1 t7 fun t18 =>
    load1 t18 h fun t19 =>
    Q (.tuple #[t19, (.bool true)]) h)
    (s_valueAt.j4 s1 s8 s9 s10 h K1 Q)
def s_valueAt.l2.b (c1 : Value) (c8 : Value) (c9 : Value) (s10 : Value) (h : Heap) (K1 : List Value → Heap → Prop) (Q : Value → Heap → Prop) : Prop :=
    cmpI (fun a b => decide (a < b)) s10 c9 fun t11 =>
    ifV t11
    (s_valueAt.j3 c1 c8 c9 s10 h K1 Q)
    (s_valueAt.j1 h Q)
def s_valueAt.sh (a0 : Value) (a1 : Value) (h : Heap) (Q : Value → Heap → Prop) : Prop :=
    lenV a0 fun t9 =>
    loopC (fun c s h K1 => s_valueAt.l2.b (c.getD 0 undef) (c.getD 1 undef) (c.getD 2 undef) (s.getD 0 undef) h K1 Q) [a1, a0, t9] [(.int .i64 0)] h
theorem s_valueAt.body (a0 : Value) (a1 : Value) (h : Heap) (Q : Value → Heap → Prop) (H : s_valueAt.sh a0 a1 h Q) : s_valueAt.call #[a0, a1] h Q := by
  refine callsH_of (args := [a0, a1]) Try.func93 rfl rfl ?_
  unfold s_valueAt.sh at H
  refine WPc_seq' ?_
  refine W_region (by kernel_rfl) ?_
  refine vl_n ?_
  refine H_of_R (R_assign (v := (.int .i64 0)) rfl ?_)
  refine vl_n ?_
  refine H_of_R (R_assign (v := (.bool false)) rfl ?_)
  refine vl_e ?_
  refine WPc_seq (fun e h => s_valueAt.j1 h Q) ?_ (fun e h H => ?_)
  rotate_left
  · unfold s_valueAt.j1 at H
    refine WPc_seq' ?_
    refine W_region (by kernel_rfl) ?_
    refine vl_n ?_
    refine H_of_R (R_assign (v := (.int .i64 0)) rfl ?_)
    refine vl_n ?_
    refine H_of_R (R_assign (v := (.bool false)) rfl ?_)
    refine vl_e ?_
    refine WPc_ret ?_
    refine resH_of rfl ?_
    exact H
  refine WPc_seq' ?_
  refine W_region (by kernel_rfl) ?_
  refine vl_n ?_
  refine H_of_R (R_move (v := a0) rfl ?_)
  refine vl_n ?_
  refine H_of_R (R_len Try.underlying22 H fun t9 H => ?_)
  refine vl_n ?_
  refine H_of_R (R_move (v := (.int .i64 0)) rfl ?_)
  refine vl_e ?_
  refine WPc_block ?_
  refine loop_at (fun e => [e 10]) (fun e => [e 1, e 8, e 9]) H rfl rfl ?_
  intro K1 e1 h H hin1
  replace H : s_valueAt.l2.b (e1 1) (e1 8) (e1 9) (e1 10) h K1 Q := H
  unfold s_valueAt.l2.b at H
  clear hin1
  refine WPc_seq' ?_
  refine W_region (by kernel_rfl) ?_
  refine vl_n ?_
  refine H_of_R (R_lss H fun t11 H => ?_)
  refine vl_e ?_
  refine WPc_seq (fun e h => s_valueAt.j3 (e 1) (e 8) (e 9) (e 10) h K1 Q ∧ [e1 1, e1 8, e1 9] = [e 1, e 8, e 9]) ?_ (fun e h ⟨H, hq1⟩ => ?_)
  rotate_left
  · unfold s_valueAt.j3 at H
    refine WPc_seq (fun e h => s_valueAt.j4 (e 1) (e 8) (e 9) (e 10) h K1 Q ∧ [e1 1, e1 8, e1 9] = [e 1, e 8, e 9]) ?_ (fun e h ⟨H, hq1⟩ => ?_)
    rotate_left
    · unfold s_valueAt.j4 at H
      refine W_region (by kernel_rfl) ?_
      refine vl_n ?_
      refine H_of_R (R_add H fun t20 H => ?_)
      refine vl_n ?_
      refine H_of_R (R_move (v := t20) rfl ?_)
      refine vl_e ?_
      exact ⟨H, hq1⟩
    refine WPc_block ?_
    refine WPc_seq' ?_
    refine W_region (by kernel_rfl) ?_
    refine vl_n ?_
    refine H_of_R (R_idx TE_22 H fun t12 H => ?_)
    refine vl_n ?_
    refine H_of_R (R_loadN TN_27 H fun _ t13 _ _ H _ _ => ?_)
    refine vl_n ?_
    refine H_alloc TV_27 H fun t7 h H => ?_
    refine vl_n ?_
    refine H_storeN TS_27 H fun h H => ?_
    refine vl_e ?_
    refine WPc_seq' ?_
    refine W_region (by kernel_rfl) ?_
    refine vl_n ?_
    refine H_of_R (R_fld TF_27_0 H fun t14 H => ?_)
    refine vl_n ?_
    refine H_of_R (R_load1 T1_3 H fun _ t15 _ _ H => ?_)
    refine vl_n ?_
    refine H_of_R (R_move (v := (e 1)) rfl ?_)
    refine vl_n ?_
    refine H_of_R (R_eqI H fun t17 H => ?_)
    refine vl_e ?_
    obtain ⟨b, hc, H1, H2⟩ := H
    refine WPc_cond hc (fun hh => ?_) (fun hh => ?_)
    · have H := H1 hh; clear H1 H2
      refine WPc_seq' ?_
      refine W_region (by kernel_rfl) ?_
      refine vl_n ?_
      refine H_of_R (R_fld TF_27_1 H fun t18 H => ?_)
      refine vl_n ?_
      refine H_of_R (R_load1 T1_3 H fun _ t19 _ _ H => ?_)
      refine vl_n ?_
      refine H_of_R (R_assign (v := t19) rfl ?_)
      refine vl_n ?_
      refine H_of_R (R_assign (v := (.bool true)) rfl ?_)
      refine vl_e ?_
      refine WPc_ret ?_
      refine resH_of rfl ?_
      exact H
    · have H := H2 hh; clear H1 H2
      refine WPc_skip ?_
      exact ⟨H, hq1⟩
  obtain ⟨b, hc, H1, H2⟩ := H
  refine WPc_cond hc (fun hh => ?_) (fun hh => ?_)
  · have H := H1 hh; clear H1 H2
    refine WPc_skip ?_
    exact ⟨H, rfl⟩
  · have H := H2 hh; clear H1 H2
    refine WPc_exit ?_
    exact H

end Go.Proofs.Ytlihjljdndbpdaa
end
section
namespace Go.Proofs.Ytlihjljdndbpdaa.Ii
open Go.Hp Go.Proofs.Ytlihjljdndbpdaa
set_option linter.unusedVariables false
set_option linter.unusedSimpArgs false
variable {h0 h : Heap} {Z E : List Rg} {Q : Value → Heap → Prop}
theorem entries_ok {g : Rt} {tb m : Nat} {iso cnt mn mx : Int} {ctr : Option Addr} (M : MapOk m iso g) (hl : (rPt g).items.length ≤ 4294967295) (s : St h0 Z ((tb, 0, hdr iso ctr (rA g) cnt mn mx) :: (rAll g ++ E)) h)
    (H : ∀ v E' h', St h0 Z (E' ++ E) h' → Rdl 2 h' v (rPt g).items.length ((rPt g).items.flatMap encA) → Q v h') : i_entries.call #[ptr tb 0] h Q := by
  refine i_entries.body _ _ _ ?_
  unfold i_entries.sh
  refine s.r_alloc fun t3 h s => ?_
  refine kept_ok (n := 0) (E := E) M hl (s.perm (by ((apply perm_rg; intro f; simp only [List.set_cons_zero, List.set_cons_succ, List.eraseIdx_cons_zero, List.eraseIdx_cons_succ, List.cons_append, List.nil_append, List.map_append, List.map_cons, List.map_nil, List.sum_append, List.sum_cons, List.sum_nil, List.map_flatMap, Nat.add_zero, Nat.zero_add]; ac_rfl)))) fun v b o sp h s1 s => ?_
  have e0 : firstN (rPt g).items 0 = (rPt g).items := by unfold firstN; rw [if_pos (.inl (by decide))]
  rw [e0] at s1 s
  refine St.r_load0 s 0 rfl rfl ?_
  exact H v ((t3, 0, [v]) :: (b, o, (rPt g).items.flatMap encA ++ sp) :: (tb, 0, hdr iso ctr (rA g) cnt mn mx) :: rAll g) h s (s1.rdl s 1 rfl)
theorem push_ok {F : List (Option It)} {o : Option It} {v : Value} {b off k : Nat} {sp : List Value} {KV : Value → Heap → Prop} (s : St h0 Z E h) (hk : E[k]? = some (b, off, F.flatMap foundC ++ sp)) (w : Own 3 v F.length b off (F.flatMap foundC) sp) (hF : F.length ≤ 2147483647)
    (H : ∀ v' b' o' sp' q h', St h0 Z ((q, 0, foundC o) :: E.set k (b', o', (F ++ [o]).flatMap foundC ++ sp')) h' → Own 3 v' (F ++ [o]).length b' o' ((F ++ [o]).flatMap foundC) sp' → KV v' h') :
    mkSl (if 1 * 3 = 0 then [] else zeros [(.int .i64 0), (.int .i64 0), (.bool false)] 1) 1 [(0 * 3, 3, .agg (foundC o).toArray)] 32 h fun t35 h => app 32 3 24 [(.int .i64 0), (.int .i64 0), (.bool false)] v t35 h KV := by
  refine St.r_mkSl (sz := 3) (cs := foundC o) s (by rcases o with _ | p <;> ((simp only [fillV, fill1, Value.cells, zeros_succ, zeros_zero, List.size_toArray, List.length_cons, List.length_nil, List.length_append, List.take_succ_cons, List.take_zero, List.take_nil, List.drop_succ_cons, List.drop_zero, List.drop_nil, List.cons_append, List.nil_append, List.append_nil, Nat.reduceAdd, Nat.reduceMul, Nat.reduceLeDiff, Nat.reduceEqDiff, and_self, and_true, true_and, if_true, Nat.le_refl, Nat.zero_add, Nat.add_zero, Nat.zero_mul, reduceIte, if_false] <;> rfl))) (by cases o <;> rfl) fun q h s wq => ?_
  refine s.r_appL (f := foundC) (L := F) (M := [o]) (k + 1) hk w rfl (by have := wq.rdl s 0 (by rw [List.append_nil]; rfl); simpa using this) (fun y _ => foundC_one y) (by rw [List.length_singleton]; omega) (by rw [List.length_singleton]; omega) fun v' b' o' sp' h s w' => ?_
  exact H v' b' o' sp' q h s w'
theorem MSet_ok {hA : Heap} {l : List It} {v : Value} {d : Nat} (hr : Rdl 2 hA v l.length (l.flatMap encA)) (hl : l.length ≤ 2147483647) (h1 : 2 ≤ d) (h2 : d ≤ 512)
    (H : ∀ v1 v2 E' h', St hA [] E' h' → Rdl 2 h' v2 (setAll l).length ((setAll l).flatMap encA) → Q (.tuple #[v1, v2]) h') : i_MSet.call #[.int .i64 d, v] hA Q := by
  refine i_MSet.body _ _ _ _ ?_
  unfold i_MSet.sh
  refine grow_ok (l := []) (Rdl.nil 2 hA) (by simp) h1 h2 fun g tb h e0 e M s => ?_
  have hr1 := hr.st s
  refine hr1.lenV ?_
  have s0 := s.empty 0 0
  refine loop_ghost (fun q st h' => ∃ (j : Nat) (v1 : Value) (b1 o1 : Nat) (p1 : List Value) (F : List (Option It)) (g : Rt) (R : List Rg), q = l.length - j ∧ j ≤ l.length ∧ st = [v1, .int .i64 (j : Nat)] ∧ F.length = j ∧ (rPt g).items = setAll (l.take j) ∧ MapOk (2 * d - 1) 0 g ∧ Own 3 v1 F.length b1 o1 (F.flatMap foundC) p1 ∧
      St hA [] ((b1, o1, F.flatMap foundC ++ p1) :: (tb, 0, hdr 0 none (rA g) (rPt g).items.length ((d - 1 : Nat) : Int) ((2 * d - 1 : Nat) : Int)) :: (rAll g ++ R)) h') (n0 := l.length)
    ⟨0, .slice none 0 0, 0, 0, [], [], g, [], rfl, Nat.zero_le _, rfl, rfl, e, M, Own.nil 3 0 0, by have e9 := s0; rw [← List.append_nil (rAll g)] at e9; exact e9⟩ ?_
  clear s0 s hr1
  clear e e0 M g
  rintro q st h ⟨j, v1, b1, o1, p1, F, g, R, rfl, hj, rfl, hF, e, M, w1, s⟩ K HK
  unfold i_MSet.l2.b
  refine r_cmpI ?_
  refine r_if (fun hlt => ?_) (fun hge => ?_)
  · have hlt : j < l.length := by simpa using hlt
    have hle := setAll_len (l.take j)
    rw [List.length_take] at hle
    unfold i_MSet.j3
    refine (hr.st s).at (n := j) rfl encAl rfl rfl hlt fun b o hb => ?_
    refine hb.loadN rfl ?_
    refine s.r_alloc fun t9 h s => ?_
    refine St.r_storeN0 s 0 rfl rfl (by simp) (encA1 _) ?_; intro h s
    refine r_fld ?_
    refine St.r_load0 s 0 rfl rfl ?_
    refine r_fld ?_
    refine St.r_load0 s 0 rfl rfl ?_
    refine Set_ok (mn := ((d - 1 : Nat) : Int)) (x := l[j]) (E := (t9, 0, encA l[j]) :: (b1, o1, F.flatMap foundC ++ p1) :: R) M (by omega) (by rw [e]; omega) (s.perm (by ((apply perm_rg; intro f; simp only [List.set_cons_zero, List.set_cons_succ, List.eraseIdx_cons_zero, List.eraseIdx_cons_succ, List.cons_append, List.nil_append, List.map_append, List.map_cons, List.map_nil, List.sum_append, List.sum_cons, List.sum_nil, List.map_flatMap, Nat.add_zero, Nat.zero_add]; ac_rfl)))) fun g' h e1 M' s => ?_
    have e2 : (rPt g').items = setAll (l.take (j + 1)) := by
      rw [e1, List.take_succ_eq_append_getElem hlt, setAll_snoc, ← e]
      exact (MT.set_items swo M.odd M.m3 M.fl M.asc).1
    have s : St hA [] ((t9, 0, encA l[j]) :: (b1, o1, F.flatMap foundC ++ p1) :: (tb, 0, hdr 0 none (rA g') (rPt g').items.length ((d - 1 : Nat) : Int) ((2 * d - 1 : Nat) : Int)) :: (rAll g' ++ R)) h := s.perm (by ((apply perm_rg; intro f; simp only [List.set_cons_zero, List.set_cons_succ, List.eraseIdx_cons_zero, List.eraseIdx_cons_succ, List.cons_append, List.nil_append, List.map_append, List.map_cons, List.map_nil, List.sum_append, List.sum_cons, List.sum_nil, List.map_flatMap, Nat.add_zero, Nat.zero_add]; ac_rfl)))
    refine r_ext rfl ?_
    refine r_ext rfl ?_
    refine r_fld ?_
    refine St.r_load0 s 0 rfl rfl ?_
    refine pair_ok (p := (l[j].1, ((lget lt (rPt g).items l[j]).getD emp).2)) fun E2 h s2 => ?_
    have s := s.join s2
    have s := s.perm List.perm_append_comm
    refine push_ok s (k := 1) rfl w1 (by omega) fun v' b' o' sp' q h s w' => ?_
    unfold i_MSet.j4
    refine r_add1 (by omega) ?_
    exact HK (l.length - (j + 1)) _ _ (by omega) ⟨j + 1, v', b', o', sp', _, g', R ++ ((q, 0, foundC (if (lget lt (rPt g).items l[j]).isSome = true then some (l[j].1, ((lget lt (rPt g).items l[j]).getD emp).2) else none)) :: (t9, 0, encA l[j]) :: E2), rfl, hlt, rfl, by rw [List.length_append, hF]; rfl, e2, M', w', s.perm (by simp only [List.set_cons_succ, List.set_cons_zero, List.cons_append]; ((apply perm_rg; intro f; simp only [List.set_cons_zero, List.set_cons_succ, List.eraseIdx_cons_zero, List.eraseIdx_cons_succ, List.cons_append, List.nil_append, List.map_append, List.map_cons, List.map_nil, List.sum_append, List.sum_cons, List.sum_nil, List.map_flatMap, Nat.add_zero, Nat.zero_add]; ac_rfl)))⟩
  · have hge : j = l.length := by have := of_decide_eq_false hge; omega
    subst hge
    rw [List.take_length] at e
    have hle := setAll_len l
    unfold i_MSet.j1
    refine entries_ok (E := (b1, o1, F.flatMap foundC ++ p1) :: R) M (by rw [e]; omega) (s.perm (by ((apply perm_rg; intro f; simp only [List.set_cons_zero, List.set_cons_succ, List.eraseIdx_cons_zero, List.eraseIdx_cons_succ, List.cons_append, List.nil_append, List.map_append, List.map_cons, List.map_nil, List.sum_append, List.sum_cons, List.sum_nil, List.map_flatMap, Nat.add_zero, Nat.zero_add]; ac_rfl)))) fun v2 E2 h s r => ?_
    rw [e] at r
    exact H _ _ _ _ s r
/-- What Get returns of a key. -/
def fnd (L : List It) (k : KT) : Option It := lget lt L (k, 0)
theorem fnd_key {L : List It} {k : KT} {y : It} (h : fnd L k = some y) : y.1 = k := by
  obtain ⟨_, _, h1, h2⟩ := lget_some h
  simp only [lt, decide_eq_false_iff_not] at h1 h2
  exact Int.le_antisymm (Int.not_lt.1 h2) (Int.not_lt.1 h1)
theorem fnd_pair (L : List It) (k : KT) : (if (lget lt L (k, 0)).isSome = true then some (k, ((lget lt L (k, 0)).getD emp).2) else none) = fnd L k := by
  show (if (fnd L k).isSome = true then some (k, ((fnd L k).getD emp).2) else none) = fnd L k
  cases e : fnd L k with
  | none => rfl
  | some y => rw [← fnd_key e]; rfl
theorem MGet_ok {hA : Heap} {l : List It} {ks : List KT} {v vk : Value} {d : Nat} (hr : Rdl 2 hA v l.length (l.flatMap encA)) (hl : l.length ≤ 2147483647) (h1 : 2 ≤ d) (h2 : d ≤ 512) (hk : Rdl 1 hA vk ks.length (ks.flatMap fk)) (hkl : ks.length ≤ 2147483647)
    (H : ∀ v1 E' h', St hA [] E' h' → Rdl 3 h' v1 (ks.map (fnd (setAll l))).length ((ks.map (fnd (setAll l))).flatMap foundC) → Q v1 h') : i_MGet.call #[.int .i64 d, v, vk] hA Q := by
  refine i_MGet.body _ _ _ _ _ ?_
  unfold i_MGet.sh
  refine grow_ok hr hl h1 h2 fun g tb h e0 e M s => ?_
  have hk1 := hk.st s
  refine hk1.lenV ?_
  have s0 := s.empty 0 0
  refine loop_ghost (fun q st h' => ∃ (j : Nat) (v1 : Value) (b1 o1 : Nat) (p1 : List Value) (R : List Rg), q = ks.length - j ∧ j ≤ ks.length ∧ st = [v1, .int .i64 (j : Nat)] ∧ Own 3 v1 ((ks.take j).map (fnd (setAll l))).length b1 o1 (((ks.take j).map (fnd (setAll l))).flatMap foundC) p1 ∧
      St hA [] ((b1, o1, ((ks.take j).map (fnd (setAll l))).flatMap foundC ++ p1) :: (tb, 0, hdr 0 none (rA g) (rPt g).items.length ((d - 1 : Nat) : Int) ((2 * d - 1 : Nat) : Int)) :: (rAll g ++ R)) h') (n0 := ks.length)
    ⟨0, .slice none 0 0, 0, 0, [], [], rfl, Nat.zero_le _, rfl, Own.nil 3 0 0, by have e9 := s0; rw [← List.append_nil (rAll g)] at e9; exact e9⟩ ?_
  clear s0 s hk1
  rintro q st h ⟨j, v1, b1, o1, p1, R, rfl, hj, rfl, w1, s⟩ K HK
  unfold i_MGet.l2.b
  refine r_cmpI ?_
  refine r_if (fun hlt => ?_) (fun hge => ?_)
  · have hlt : j < ks.length := by simpa using hlt
    have et : (ks.take j).map (fnd (setAll l)) ++ [fnd (setAll l) ks[j]] = (ks.take (j + 1)).map (fnd (setAll l)) := by rw [List.take_succ_eq_append_getElem hlt, List.map_append]; rfl
    unfold i_MGet.j3
    refine (hk.st s).at (n := j) rfl fkl rfl rfl hlt fun b3 o3 hb => ?_
    refine hb.load0 rfl ?_
    refine Get_ok (x := (ks[j], 0)) (E := (b1, o1, ((ks.take j).map (fnd (setAll l))).flatMap foundC ++ p1) :: R) M (s.perm (by ((apply perm_rg; intro f; simp only [List.set_cons_zero, List.set_cons_succ, List.eraseIdx_cons_zero, List.eraseIdx_cons_succ, List.cons_append, List.nil_append, List.map_append, List.map_cons, List.map_nil, List.sum_append, List.sum_cons, List.sum_nil, List.map_flatMap, Nat.add_zero, Nat.zero_add]; ac_rfl)))) ?_
    rw [e]
    refine r_ext rfl ?_
    refine r_ext rfl ?_
    refine pair_ok (p := (ks[j], ((lget lt (setAll l) (ks[j], 0)).getD emp).2)) fun E2 h s2 => ?_
    rw [fnd_pair]
    have s := s.join s2
    have s := s.perm List.perm_append_comm
    refine push_ok s (k := 0) rfl w1 (by rw [List.length_map, List.length_take]; omega) fun v' b' o' sp' q h s w' => ?_
    rw [et] at w'
    simp only [List.set_cons_zero, List.cons_append, et] at s
    unfold i_MGet.j4
    refine r_add1 (by omega) ?_
    exact HK (ks.length - (j + 1)) _ _ (by omega) ⟨j + 1, v', b', o', sp', R ++ ((q, 0, foundC (fnd (setAll l) ks[j])) :: E2), rfl, hlt, rfl, w', s.perm (by ((apply perm_rg; intro f; simp only [List.set_cons_zero, List.set_cons_succ, List.eraseIdx_cons_zero, List.eraseIdx_cons_succ, List.cons_append, List.nil_append, List.map_append, List.map_cons, List.map_nil, List.sum_append, List.sum_cons, List.sum_nil, List.map_flatMap, Nat.add_zero, Nat.zero_add]; ac_rfl)))⟩
  · have hge : j = ks.length := by have := of_decide_eq_false hge; omega
    subst hge
    rw [List.take_length] at w1 s
    unfold i_MGet.j1
    exact H v1 _ h s (w1.rdl s 0 rfl)
theorem MDelete_ok {hA : Heap} {l : List It} {ks : List KT} {v vk : Value} {d : Nat} (hr : Rdl 2 hA v l.length (l.flatMap encA)) (hl : l.length ≤ 2147483647) (h1 : 2 ≤ d) (h2 : d ≤ 512) (hk : Rdl 1 hA vk ks.length (ks.flatMap fk)) (hkl : ks.length ≤ 2147483647)
    (H : ∀ v1 v2 E' h', St hA [] E' h' → Rdl 2 h' v2 (ks.foldl (fun L k => ldel lt L (k, 0)) (setAll l)).length ((ks.foldl (fun L k => ldel lt L (k, 0)) (setAll l)).flatMap encA) → Q (.tuple #[v1, v2]) h') : i_MDelete.call #[.int .i64 d, v, vk] hA Q := by
  refine i_MDelete.body _ _ _ _ _ ?_
  unfold i_MDelete.sh
  refine grow_ok hr hl h1 h2 fun g tb h e0 e M s => ?_
  have hk1 := hk.st s
  refine hk1.lenV ?_
  have s0 := s.empty 0 0
  have hle := setAll_len l
  have eL : (setAll l).length ≤ 2147483647 := by omega
  generalize setAll l = L0 at *
  have hd2 : (((2 * d - 1) / 2 : Nat) : Int) = ((d - 1 : Nat) : Int) := by congr 1; omega
  refine loop_ghost (fun q st h' => ∃ (j : Nat) (v1 : Value) (b1 o1 : Nat) (p1 : List Value) (F : List (Option It)) (g : Rt) (R : List Rg), q = ks.length - j ∧ j ≤ ks.length ∧ st = [v1, .int .i64 (j : Nat)] ∧ F.length = j ∧ (rPt g).items = (ks.take j).foldl (fun L k => ldel lt L (k, 0)) L0 ∧ (rPt g).items.length ≤ 2147483647 ∧ MapOk (2 * d - 1) 0 g ∧ Own 3 v1 F.length b1 o1 (F.flatMap foundC) p1 ∧
      St hA [] ((b1, o1, F.flatMap foundC ++ p1) :: (tb, 0, hdr 0 none (rA g) (rPt g).items.length (((2 * d - 1) / 2 : Nat) : Int) ((2 * d - 1 : Nat) : Int)) :: (rAll g ++ R)) h') (n0 := ks.length)
    ⟨0, .slice none 0 0, 0, 0, [], [], g, [], rfl, Nat.zero_le _, rfl, rfl, e, by rw [e]; exact eL, M, Own.nil 3 0 0, by have e9 := s0; rw [← List.append_nil (rAll g), ← hd2] at e9; exact e9⟩ ?_
  clear s0 s hk1
  clear e e0 M g
  rintro q st h ⟨j, v1, b1, o1, p1, F, g, R, rfl, hj, rfl, hF, e, hgl, M, w1, s⟩ K HK
  unfold i_MDelete.l2.b
  refine r_cmpI ?_
  refine r_if (fun hlt => ?_) (fun hge => ?_)
  · have hlt : j < ks.length := by simpa using hlt
    unfold i_MDelete.j3
    refine (hk.st s).at (n := j) rfl fkl rfl rfl hlt fun b3 o3 hb => ?_
    refine hb.load0 rfl ?_
    refine Delete_ok (x := (ks[j], 0)) (E := (b1, o1, F.flatMap foundC ++ p1) :: R) M (by omega) (s.perm (by ((apply perm_rg; intro f; simp only [List.set_cons_zero, List.set_cons_succ, List.eraseIdx_cons_zero, List.eraseIdx_cons_succ, List.cons_append, List.nil_append, List.map_append, List.map_cons, List.map_nil, List.sum_append, List.sum_cons, List.sum_nil, List.map_flatMap, Nat.add_zero, Nat.zero_add]; ac_rfl)))) fun g' h e1 M' s => ?_
    have e2 : (rPt g').items = (ks.take (j + 1)).foldl (fun L k => ldel lt L (k, 0)) L0 := by
      rw [e1, List.take_succ_eq_append_getElem hlt, List.foldl_append, ← e]; rfl
    have hgl' : (rPt g').items.length ≤ 2147483647 := by
      rw [e1]; exact Nat.le_trans (ldel_sub _ _).length_le hgl
    have s : St hA [] ((b1, o1, F.flatMap foundC ++ p1) :: (tb, 0, hdr 0 none (rA g') (rPt g').items.length (((2 * d - 1) / 2 : Nat) : Int) ((2 * d - 1 : Nat) : Int)) :: (rAll g' ++ R)) h := s.perm (by ((apply perm_rg; intro f; simp only [List.set_cons_zero, List.set_cons_succ, List.eraseIdx_cons_zero, List.eraseIdx_cons_succ, List.cons_append, List.nil_append, List.map_append, List.map_cons, List.map_nil, List.sum_append, List.sum_cons, List.sum_nil, List.map_flatMap, Nat.add_zero, Nat.zero_add]; ac_rfl)))
    refine r_ext rfl ?_
    refine r_ext rfl ?_
    refine pair_ok (p := (ks[j], ((lget lt (rPt g).items (ks[j], 0)).getD emp).2)) fun E2 h s2 => ?_
    have s := s.join s2
    have s := s.perm List.perm_append_comm
    refine push_ok s (k := 0) rfl w1 (by omega) fun v' b' o' sp' q h s w' => ?_
    unfold i_MDelete.j4
    refine r_add1 (by omega) ?_
    exact HK (ks.length - (j + 1)) _ _ (by omega) ⟨j + 1, v', b', o', sp', _, g', R ++ ((q, 0, foundC (if (lget lt (rPt g).items (ks[j], 0)).isSome = true then some (ks[j], ((lget lt (rPt g).items (ks[j], 0)).getD emp).2) else none)) :: E2), rfl, hlt, rfl, by rw [List.length_append, hF]; rfl, e2, hgl', M', w', s.perm (by simp only [List.set_cons_succ, List.set_cons_zero, List.cons_append]; ((apply perm_rg; intro f; simp only [List.set_cons_zero, List.set_cons_succ, List.eraseIdx_cons_zero, List.eraseIdx_cons_succ, List.cons_append, List.nil_append, List.map_append, List.map_cons, List.map_nil, List.sum_append, List.sum_cons, List.sum_nil, List.map_flatMap, Nat.add_zero, Nat.zero_add]; ac_rfl)))⟩
  · have hge : j = ks.length := by have := of_decide_eq_false hge; omega
    subst hge
    rw [List.take_length] at e
    unfold i_MDelete.j1
    refine entries_ok (E := (b1, o1, F.flatMap foundC ++ p1) :: R) M (by omega) (s.perm (by ((apply perm_rg; intro f; simp only [List.set_cons_zero, List.set_cons_succ, List.eraseIdx_cons_zero, List.eraseIdx_cons_succ, List.cons_append, List.nil_append, List.map_append, List.map_cons, List.map_nil, List.sum_append, List.sum_cons, List.sum_nil, List.map_flatMap, Nat.add_zero, Nat.zero_add]; ac_rfl)))) fun v2 E2 h s r => ?_
    rw [e] at r
    exact H _ _ _ _ s r
theorem CloneI_ok {hA : Heap} {l : List It} {v : Value} (hr : Rdl 2 hA v l.length (l.flatMap encA)) (hl : l.length ≤ 2147483647)
    (H : ∀ v' b o sp E' h', Own 2 v' l.length b o (l.flatMap encA) sp → St hA [] ((b, o, l.flatMap encA ++ sp) :: E') h' → Q v' h') : sl_Clone_implItemI.call #[v] hA Q := by
  refine sl_Clone_implItemI.body _ _ _ ?_
  unfold sl_Clone_implItemI.sh
  have s := St.start hA
  have hr0 := hr
  obtain ⟨a, cap, e, _, hc, _⟩ := hr0
  subst e
  refine ⟨a, _, _, rfl, ?_⟩
  refine r_if (fun ha => ?_) (fun ha => ?_)
  · have : l = [] := by
      cases l with
      | nil => rfl
      | cons x r =>
        obtain ⟨b, o, e, _⟩ := hc (by simp)
        subst e; cases ha
    subst this
    exact H _ 0 0 [] _ _ (Own.nil 2 0 0) (s.empty 0 0)
  · unfold sl_Clone_implItemI.j1
    refine St.r_mkSl (sz := 2) (cs := []) s (by ((simp only [fillV, fill1, Value.cells, zeros_succ, zeros_zero, List.size_toArray, List.length_cons, List.length_nil, List.length_append, List.take_succ_cons, List.take_zero, List.take_nil, List.drop_succ_cons, List.drop_zero, List.drop_nil, List.cons_append, List.nil_append, List.append_nil, Nat.reduceAdd, Nat.reduceMul, Nat.reduceLeDiff, Nat.reduceEqDiff, and_self, and_true, true_and, if_true, Nat.le_refl, Nat.zero_add, Nat.add_zero, Nat.zero_mul, reduceIte, if_false] <;> rfl))) rfl fun q h s wq => ?_
    refine s.r_appL (f := encA) (L := []) (M := l) 0 rfl wq rfl (hr.st s) (fun _ _ => encA1 _) (by simp; omega) (by simp; omega) fun v' b' o' sp' h s w' => ?_
    exact H _ _ _ _ _ _ w' s
end Go.Proofs.Ytlihjljdndbpdaa.Ii
end
section
namespace Go.Proofs.Ytlihjljdndbpdaa.Ii
open Go.Hp Go.Proofs.Ytlihjljdndbpdaa
set_option linter.unusedVariables false
set_option linter.unusedSimpArgs false
theorem mem_fnd {L : List It} (ha : Asc lt L) {y : It} : y ∈ L ↔ fnd L y.1 = some y := by
  unfold fnd
  constructor
  · intro h; exact (lget_mem swo ha).2 ⟨h, lt_iff.2 rfl⟩
  · intro h; exact ((lget_mem swo ha).1 h).1
theorem fnd_none {L : List It} (ha : Asc lt L) {k : KT} : fnd L k = none ↔ ∀ y ∈ L, y.1 ≠ k := by
  constructor
  · intro h y hy e
    subst e
    rw [(mem_fnd ha).1 hy] at h; cases h
  · intro h
    cases e : fnd L k with
    | none => rfl
    | some y =>
      have hk := fnd_key e
      subst hk
      exact absurd rfl (h y ((mem_fnd ha).2 e))
theorem asc_ext : ∀ {L M : List It}, Asc lt L → Asc lt M → (∀ y, y ∈ L ↔ y ∈ M) → L = M
  | [], [], _, _, _ => rfl
  | [], b :: u, _, _, h => by have := (h b).2 (by simp); cases this
  | a :: t, [], _, _, h => by have := (h a).1 (by simp); cases this
  | a :: t, b :: u, h1, h2, h => by
    have irr : ∀ x : It, lt x x = false := swo.irr
    have e : a = b := by
      rcases List.mem_cons.1 ((h a).1 (by simp)) with e | e
      · exact e
      · rcases List.mem_cons.1 ((h b).2 (by simp)) with e2 | e2
        · exact e2.symm
        · have x1 := List.rel_of_pairwise_cons h2 e
          have x2 := List.rel_of_pairwise_cons h1 e2
          have := swo.tr _ _ _ x1 x2
          rw [irr] at this; cases this
    subst e
    congr 1
    refine asc_ext (List.Pairwise.of_cons h1) (List.Pairwise.of_cons h2) fun y => ?_
    constructor
    · intro hy
      rcases List.mem_cons.1 ((h y).1 (List.mem_cons_of_mem _ hy)) with e | e
      · subst e
        have := List.rel_of_pairwise_cons h1 hy
        rw [irr] at this; cases this
      · exact e
    · intro hy
      rcases List.mem_cons.1 ((h y).2 (List.mem_cons_of_mem _ hy)) with e | e
      · subst e
        have := List.rel_of_pairwise_cons h2 hy
        rw [irr] at this; cases this
      · exact e
theorem fnd_lput {L : List It} (ha : Asc lt L) (x : It) (k : KT) : fnd (lput lt L x) k = if x.1 = k then some x else fnd L k := by
  unfold fnd
  rw [lget_lput swo ha]
  by_cases e : x.1 = k
  · rw [if_pos e, if_pos (lt_iff.2 e)]
  · rw [if_neg e, if_neg (fun h => e (lt_iff.1 h))]
theorem ldel_asc {L : List It} (ha : Asc lt L) (x : It) : Asc lt (ldel lt L x) := asc_of_sub ha (ldel_sub _ _)
theorem ldel_mem {L : List It} (ha : Asc lt L) {x y : It} : y ∈ ldel lt L x ↔ y ∈ L ∧ y.1 ≠ x.1 := by
  cases e : lget lt L x with
  | none =>
    rw [ldel_none e]
    refine ⟨fun h => ⟨h, fun e2 => ?_⟩, fun h => h.1⟩
    have : lget lt L x = some y := (lget_mem swo ha).2 ⟨h, lt_iff.2 e2⟩
    rw [e] at this; cases this
  | some z =>
    rw [ldel_some e]
    obtain ⟨hp, hz, h1, h2⟩ := lget_some e
    have hzx : z.1 = x.1 := lt_iff.1 ⟨h1, h2⟩
    have hL : L = L.take (pos lt L x) ++ z :: L.drop (pos lt L x + 1) := by
      rw [← hz, ← List.drop_eq_getElem_cons hp, List.take_append_drop]
    have ha2 := ha
    rw [hL] at ha2
    obtain ⟨_, a2, a3⟩ := asc_app ha2
    constructor
    · intro h
      rcases List.mem_append.1 h with h | h
      · refine ⟨List.mem_of_mem_take h, fun e2 => ?_⟩
        have := a3 y h z (by simp)
        rw [lt_t] at this
        have : @Eq Int y.1 z.1 := e2.trans hzx.symm
        omega
      · refine ⟨List.mem_of_mem_drop h, fun e2 => ?_⟩
        have := List.rel_of_pairwise_cons a2 h
        rw [lt_t] at this
        have : @Eq Int y.1 z.1 := e2.trans hzx.symm
        omega
    · rintro ⟨h, hne⟩
      rw [hL] at h
      rcases List.mem_append.1 h with h | h
      · exact List.mem_append.2 (.inl h)
      · rcases List.mem_cons.1 h with h | h
        · subst h; exact absurd hzx hne
        · exact List.mem_append.2 (.inr h)
theorem fnd_ldel {L : List It} (ha : Asc lt L) (x : It) (k : KT) : fnd (ldel lt L x) k = if x.1 = k then none else fnd L k := by
  by_cases e : x.1 = k
  · rw [if_pos e, fnd_none (ldel_asc ha x)]
    intro y hy e2
    exact ((ldel_mem ha).1 hy).2 (e2.trans e.symm)
  · rw [if_neg e]
    cases h : fnd L k with
    | none =>
      rw [fnd_none (ldel_asc ha x)]
      intro y hy
      exact (fnd_none ha).1 h y ((ldel_mem ha).1 hy).1
    | some y =>
      have hk := fnd_key h
      subst hk
      refine (mem_fnd (ldel_asc ha x)).1 ((ldel_mem ha).2 ⟨(mem_fnd ha).2 h, fun e2 => e e2.symm⟩)
theorem setAll_key : ∀ (n : Nat) (l : List It), l.length = n → ∀ y ∈ l, ∃ x ∈ setAll l, x.1 = y.1
  | 0, l, hn, y, hy => by
    have : l = [] := List.length_eq_zero_iff.1 hn
    subst this; cases hy
  | n + 1, l, hn, y, hy => by
    obtain ⟨R, z, e⟩ := last_of (show 1 ≤ l.length by omega)
    subst e
    have hz : z ∈ setAll (R ++ [z]) := by rw [setAll_snoc, lput_mem (setAll_asc _)]; exact .inl rfl
    rcases List.mem_append.1 hy with h | h
    · obtain ⟨x, hx, e⟩ := setAll_key n R (by simp at hn; exact hn) y h
      by_cases e2 : x.1 = z.1
      · exact ⟨z, hz, e2.symm.trans e⟩
      · exact ⟨x, by rw [setAll_snoc, lput_mem (setAll_asc _)]; exact .inr ⟨hx, e2⟩, e⟩
    · have : y = z := by simpa using h
      subst this
      exact ⟨y, hz, rfl⟩
/-- A change: whether the key is deleted, and the item. -/
abbrev Ch := Bool × It
def isGone (T : List It) (x : It) : Bool := (fnd T x.1).isNone
def isNew (F : List It) (x : It) : Bool := match fnd F x.1 with
  | none => true
  | some y => y.2 != x.2
def goneC (x : It) : Ch := (true, (x.1, 0))
def newC (x : It) : Ch := (false, x)
def chg (F T : List It) : List Ch := (F.filter (isGone T)).map goneC ++ (T.filter (isNew F)).map newC
def app1 (o : List It) (c : Ch) : List It := if c.1 then ldel lt o (c.2.1, 0) else lput lt o c.2
def appC (o : List It) (cs : List Ch) : List It := cs.foldl app1 o
theorem app1_asc {o : List It} (h : Asc lt o) (c : Ch) : Asc lt (app1 o c) := by
  unfold app1; split
  · exact ldel_asc h _
  · exact asc_lput swo h
theorem appC_asc : ∀ (cs : List Ch) {o : List It}, Asc lt o → Asc lt (appC o cs)
  | [], o, h => h
  | c :: r, o, h => appC_asc r (app1_asc h c)
theorem app1_len (o : List It) (c : Ch) : (app1 o c).length ≤ o.length + 1 := by
  unfold app1; split
  · have := (ldel_sub (lt := lt) o (c.2.1, 0)).length_le; omega
  · have : (lput lt o c.2).length = _ := lput_length
    rw [this]; split <;> omega
theorem appC_len : ∀ (cs : List Ch) (o : List It), (appC o cs).length ≤ o.length + cs.length
  | [], o => Nat.le_refl _
  | c :: r, o => by
    have h1 := appC_len r (app1 o c)
    have h2 := app1_len o c
    simp only [appC, List.foldl_cons, List.length_cons] at *
    omega
theorem app_gone : ∀ (D o : List It), Asc lt o → ∀ k, fnd (appC o (D.map goneC)) k = if ∃ x ∈ D, x.1 = k then none else fnd o k
  | [], o, ha, k => by rw [if_neg (by simp)]; rfl
  | x :: r, o, ha, k => by
    have ih := app_gone r (ldel lt o (x.1, 0)) (ldel_asc ha _) k
    have e : appC o ((x :: r).map goneC) = appC (ldel lt o (x.1, 0)) (r.map goneC) := rfl
    rw [e, ih, fnd_ldel ha]
    by_cases h1 : ∃ y ∈ r, y.1 = k
    · obtain ⟨y, hy, e⟩ := h1
      rw [if_pos ⟨y, hy, e⟩, if_pos ⟨y, List.mem_cons_of_mem _ hy, e⟩]
    · rw [if_neg h1]
      by_cases h2 : x.1 = k
      · rw [if_pos h2, if_pos ⟨x, by simp, h2⟩]
      · rw [if_neg h2, if_neg (fun h => by
          obtain ⟨y, hy, e5⟩ := h
          rcases List.mem_cons.1 hy with e2 | e2
          · subst e2; exact h2 e5
          · exact h1 ⟨y, e2, e5⟩)]
theorem app_new : ∀ (S o : List It), Asc lt o → Asc lt S → (∀ x ∈ S, fnd (appC o (S.map newC)) x.1 = some x) ∧ ∀ k, (∀ x ∈ S, x.1 ≠ k) → fnd (appC o (S.map newC)) k = fnd o k
  | [], o, ha, hs => ⟨fun _ h => (List.not_mem_nil h).elim, fun _ _ => rfl⟩
  | x :: r, o, ha, hs => by
    obtain ⟨i1, i2⟩ := app_new r (lput lt o x) (asc_lput swo ha) (List.Pairwise.of_cons hs)
    have e : appC o ((x :: r).map newC) = appC (lput lt o x) (r.map newC) := rfl
    rw [e]
    constructor
    · intro y hy
      rcases List.mem_cons.1 hy with e2 | e2
      · subst e2
        rw [i2 y.1 (fun z hz e3 => by
          have := List.rel_of_pairwise_cons hs hz
          rw [lt_t] at this
          have : @Eq Int z.1 y.1 := e3
          omega), fnd_lput ha, if_pos rfl]
      · exact i1 y e2
    · intro k hk
      rw [i2 k (fun z hz => hk z (List.mem_cons_of_mem _ hz)), fnd_lput ha, if_neg (hk x (by simp))]
/-- What the third list has for a key, by the definition. -/
def three (B A C : List It) (k : KT) : Option It := if fnd A k = fnd B k then fnd C k else fnd A k
theorem app_three {B A C : List It} (hB : Asc lt B) (hA : Asc lt A) (hC : Asc lt C) (k : KT) : fnd (appC C (chg B A)) k = three B A C k := by
  have e : appC C (chg B A) = appC (appC C ((B.filter (isGone A)).map goneC)) ((A.filter (isNew B)).map newC) := List.foldl_append
  have hg := app_gone (B.filter (isGone A)) C hC
  have hasc := appC_asc ((B.filter (isGone A)).map goneC) hC
  obtain ⟨n1, n2⟩ := app_new (A.filter (isNew B)) (appC C ((B.filter (isGone A)).map goneC)) hasc (List.Pairwise.filter _ hA)
  rw [e]
  unfold three
  cases ea : fnd A k with
  | some x =>
    have hk := fnd_key ea
    subst hk
    have hx : x ∈ A := (mem_fnd hA).2 ea
    cases hn : isNew B x with
    | true =>
      rw [n1 x (List.mem_filter.2 ⟨hx, hn⟩), if_neg]
      intro h
      unfold isNew at hn
      rw [← h] at hn
      simp at hn
    | false =>
      have hb : fnd B x.1 = some x := by
        unfold isNew at hn
        cases eb : fnd B x.1 with
        | none => rw [eb] at hn; cases hn
        | some y =>
          rw [eb] at hn
          have h1 : y.2 = x.2 := by simpa using hn
          have h2 := fnd_key eb
          rw [show y = x from Prod.ext h2 h1]
      rw [if_pos hb.symm, n2 x.1 (fun y hy e2 => by
        obtain ⟨h1, h2⟩ := List.mem_filter.1 hy
        have : y = x := asc_eq hA h1 hx e2
        subst this; rw [hn] at h2; cases h2), hg, if_neg]
      rintro ⟨y, hy, e2⟩
      have := (List.mem_filter.1 hy).2
      unfold isGone at this
      rw [e2, ea] at this; cases this
  | none =>
    rw [n2 k (fun y hy => (fnd_none hA).1 ea y (List.mem_filter.1 hy).1), hg]
    cases eb : fnd B k with
    | none =>
      rw [if_pos rfl, if_neg]
      rintro ⟨y, hy, e2⟩
      exact (fnd_none hB).1 eb y (List.mem_filter.1 hy).1 e2
    | some y =>
      have hk := fnd_key eb
      subst hk
      rw [if_neg (fun e : (none : Option It) = some y => nomatch e), if_pos ⟨y, List.mem_filter.2 ⟨(mem_fnd hB).2 eb, by unfold isGone; rw [ea]; rfl⟩, rfl⟩]
theorem three_key {B A C : List It} {k : KT} {y : It} (h : three B A C k = some y) : y.1 = k := by
  unfold three at h
  split at h
  · exact fnd_key h
  · exact fnd_key h
def threeL (B A C : List It) : List It := (setAll (B ++ A ++ C)).filterMap fun x => three B A C x.1
theorem threeL_asc (B A C : List It) : Asc lt (threeL B A C) := by
  refine List.Pairwise.filterMap _ (fun a a' h b hb b' hb' => ?_) (setAll_asc _)
  rw [lt_t] at h ⊢
  have e1 := three_key hb
  have e2 := three_key hb'
  rw [e1, e2]; exact h
theorem threeL_eq {B A C : List It} (hB : Asc lt B) (hA : Asc lt A) (hC : Asc lt C) : appC C (chg B A) = threeL B A C := by
  refine asc_ext (appC_asc _ hC) (threeL_asc B A C) fun y => ?_
  rw [mem_fnd (appC_asc _ hC), app_three hB hA hC]
  unfold threeL
  rw [List.mem_filterMap]
  constructor
  · intro h
    have hm : y ∈ B ++ A ++ C := by
      unfold three at h
      split at h
      · exact List.mem_append.2 (.inr ((mem_fnd hC).2 h))
      · exact List.mem_append.2 (.inl (List.mem_append.2 (.inr ((mem_fnd hA).2 h))))
    obtain ⟨x, hx, e⟩ := setAll_key _ _ rfl y hm
    exact ⟨x, hx, by rw [e]; exact h⟩
  · rintro ⟨x, hx, h⟩
    rw [three_key h]; exact h
theorem chg_self {A : List It} (hA : Asc lt A) : chg A A = [] := by
  unfold chg
  have e1 : A.filter (isGone A) = [] := List.filter_eq_nil_iff.2 fun x hx => by unfold isGone; rw [(mem_fnd hA).1 hx]; simp
  have e2 : A.filter (isNew A) = [] := List.filter_eq_nil_iff.2 fun x hx => by unfold isNew; rw [(mem_fnd hA).1 hx]; simp
  rw [e1, e2]; rfl
end Go.Proofs.Ytlihjljdndbpdaa.Ii
end
section
namespace Go.Hp
open Go.RowKit
set_option linter.unusedVariables false
set_option linter.unusedSimpArgs false
theorem Fr.map {a h : Heap} (k : Fr (fun _ _ => False) a h) {r : Nat} {o : Obj} (hg : a[r]? = some o) : h[r]? = some o := by
  rw [k.blk r (Array.getElem?_eq_some_iff.1 hg).1 (fun _ e => e)]; exact hg
end Go.Hp
end
section
namespace Go.Proofs.Ytlihjljdndbpdaa
open Go.Hp
set_option maxRecDepth 100000
set_option maxHeartbeats 8000000
set_option linter.unusedVariables false
set_option linter.unusedSimpArgs false

/-! ### spec.Place -/
def s_Place.j1 (s0 : Value) (s1 : Value) (s5 : Value) (s8 : Value) (h : Heap) (Q : Value → Heap → Prop) : Prop :=
    lenV s1 fun t27 =>
    cmpI (fun a b => decide (a < b)) s8 t27 fun t28 =>
    br t28 true (loadN 2 s5 h fun t31 =>
    idx 2 s1 s8 fun t34 =>
    loadN 2 t34 h fun t35 =>
    s_Before.call #[s0, t31, t35] h fun t36 h =>
    notV t36 fun t37 =>
    Q (.tuple #[s8, t37]) h) (Q (.tuple #[s8, (.bool false)]) h)
def s_Place.j3 (s0 : Value) (s1 : Value) (s5 : Value) (s8 : Value) (h : Heap) (K1 : List Value → Heap → Prop) (Q : Value → Heap → Prop) : Prop :=
    arith (· + ·) s8 (.int .i64 1) fun t23 =>
    K1 [t23] h
def s_Place.l2.b (c0 : Value) (c1 : Value) (c5 : Value) (s8 : Value) (h : Heap) (K1 : List Value → Heap → Prop) (Q : Value → Heap → Prop) : Prop :=
    lenV c1 fun t11 =>
    cmpI (fun a b => decide (a < b)) s8 t11 fun t12 =>
    br t12 true (idx 2 c1 s8 fun t17 =>
    loadN 2 t17 h fun t18 =>
    loadN 2 c5 h fun t19 =>
    s_Before.call #[c0, t18, t19] h fun t20 h =>
    ifV t20
    (s_Place.j3 c0 c1 c5 s8 h K1 Q)
    (s_Place.j1 c0 c1 c5 s8 h Q)) (s_Place.j1 c0 c1 c5 s8 h Q)
def s_Place.sh (a0 : Value) (a1 : Value) (a2 : Value) (h : Heap) (Q : Value → Heap → Prop) : Prop :=
    box 27 a2 h fun t5 h =>
    loopC (fun c s h K1 => s_Place.l2.b (c.getD 0 undef) (c.getD 1 undef) (c.getD 2 undef) (s.getD 0 undef) h K1 Q) [a0, a1, t5] [(.int .i64 0)] h
theorem s_Place.body (a0 : Value) (a1 : Value) (a2 : Value) (h : Heap) (Q : Value → Heap → Prop) (H : s_Place.sh a0 a1 a2 h Q) : s_Place.call #[a0, a1, a2] h Q := by
  refine callsH_of (args := [a0, a1, a2]) Try.func67 rfl rfl ?_
  unfold s_Place.sh at H
  refine WPc_seq' ?_
  refine W_region (by kernel_rfl) ?_
  refine vl_n ?_
  refine H_box H fun t5 h H => ?_
  refine vl_n ?_
  refine H_of_R (R_assign (v := (.int .i64 0)) rfl ?_)
  refine vl_n ?_
  refine H_of_R (R_assign (v := (.bool false)) rfl ?_)
  refine vl_e ?_
  refine WPc_seq' ?_
  refine W_region (by kernel_rfl) ?_
  refine vl_n ?_
  refine H_of_R (R_assign (v := (.int .i64 0)) rfl ?_)
  refine vl_e ?_
  refine WPc_seq (fun e h => s_Place.j1 (e 0) (e 1) (e 5) (e 8) h Q) ?_ (fun e h H => ?_)
  rotate_left
  · unfold s_Place.j1 at H
    refine WPc_seq' ?_
    refine W_drawn [0, 0, 0, 4, 14, 30, 62, 62, 62, 62, 830, 1854, 4094, 8190, 16382, 8191, 65535] (.take 0 (.take 1 (.take 2 (.take 3 (.take 4 (.take 5 (.take 6 (.take 7 (.take 8 (.take 9 (.take 10 (.take 11 (.alt 12 (.take 13 (.take 14 (.take 15 (.take 16 .done)))) .none))))))))))))) mixed (by kernel_rfl) ?_
    refine tkP rfl ?_
    refine R_move (v := (e 8)) rfl ⟨fun _ => trivial, ?_⟩
    refine tkP rfl ?_
    refine R_move (v := (e 8)) rfl ⟨fun _ => trivial, ?_⟩
    refine tkP rfl ?_
    refine R_move (v := (e 1)) rfl ⟨fun _ => trivial, ?_⟩
    refine tkP rfl ?_
    refine R_len Try.underlying22 H fun t27 H => ⟨fun _ => trivial, ?_⟩
    refine tkP rfl ?_
    refine R_lss H fun t28 H => ⟨fun _ => trivial, ?_⟩
    refine tkP rfl ?_
    refine R_move (v := t28) rfl ⟨fun _ => trivial, ?_⟩
    obtain ⟨b, hb, H1, H2⟩ := H
    cases b
    · have H := H2 rfl; clear H1 H2
      refine tk_s rfl rfl (nbT hb) ?_
      refine tk_s rfl rfl (nbT hb) ?_
      refine tk_s rfl rfl (nbT hb) ?_
      refine tk_s rfl rfl (nbT hb) ?_
      refine tk_s rfl rfl (nbT hb) ?_
      refine tk_s rfl rfl (nbT hb) ?_
      refine alt_s rfl rfl (nbT hb) ?_ vp_none
      refine tk_s rfl rfl (nbT hb) ?_
      refine tkP rfl ?_
      refine R_pickC (v := (.bool false)) false hb rfl ⟨fun _ => trivial, ?_⟩
      refine tkP rfl ?_
      refine R_assign (v := (e 8)) rfl ⟨fun _ => trivial, ?_⟩
      refine tkP rfl ?_
      refine R_assign (v := (.bool false)) rfl ⟨fun _ => trivial, ?_⟩
      refine vp_done ?_
      refine WPc_ret ?_
      refine resH_of rfl ?_
      exact H
    · have H := H1 rfl; clear H1 H2
      refine tkPy rfl rfl hb ?_
      refine R_move (v := (e 0)) rfl ⟨fun _ => trivial, ?_⟩
      refine tkLy rfl rfl hb ?_
      refine R_loadN TN_27 H fun at31 xt31 hat31 _ H St31 hSt31 => ?_
      refine tkPy rfl rfl hb ?_
      refine R_move (v := (e 1)) rfl ⟨fun _ => trivial, ?_⟩
      refine tkPy rfl rfl hb ?_
      refine R_move (v := (e 8)) rfl ⟨fun _ => trivial, ?_⟩
      refine tkPy rfl rfl hb ?_
      refine R_idx TE_22 H fun t34 H => ⟨fun _ => trivial, ?_⟩
      refine tkLy rfl rfl hb ?_
      refine R_loadN TN_27 H fun at35 xt35 hat35 _ H St35 hSt35 => ?_
      refine alt_y rfl rfl hb ?_ vp_none
      refine H_call HB_124 H fun t36 h H => ⟨(hskip rfl (hskip rfl hnil)), ?_⟩
      refine tkPy rfl rfl hb ?_
      refine R_not H fun t37 H => ⟨fun _ => trivial, ?_⟩
      refine tkP rfl ?_
      refine R_pickC (v := t37) true hb rfl ⟨fun _ => trivial, ?_⟩
      refine tkP rfl ?_
      refine R_assign (v := (e 8)) rfl ⟨fun _ => trivial, ?_⟩
      refine tkP rfl ?_
      refine R_assign (v := t37) rfl ⟨fun _ => trivial, ?_⟩
      refine vp_done ?_
      refine WPc_ret ?_
      refine resH_of rfl ?_
      exact H
  refine WPc_block ?_
  refine loop_at (fun e => [e 8]) (fun e => [e 0, e 1, e 5]) H rfl rfl ?_
  intro K1 e1 h H hin1
  replace H : s_Place.l2.b (e1 0) (e1 1) (e1 5) (e1 8) h K1 Q := H
  unfold s_Place.l2.b at H
  clear hin1
  refine WPc_seq (fun e h => s_Place.j3 (e 0) (e 1) (e 5) (e 8) h K1 Q ∧ [e1 0, e1 1, e1 5] = [e 0, e 1, e 5]) ?_ (fun e h ⟨H, hq1⟩ => ?_)
  rotate_left
  · unfold s_Place.j3 at H
    refine WPc_block ?_
    refine W_region (by kernel_rfl) ?_
    refine vl_n ?_
    refine H_of_R (R_move (v := (e 8)) rfl ?_)
    refine vl_n ?_
    refine H_of_R (R_add H fun t23 H => ?_)
    refine vl_n ?_
    refine H_of_R (R_assign (v := t23) rfl ?_)
    refine vl_e ?_
    exact ⟨H, hq1⟩
  refine WPc_seq' ?_
  refine W_drawn [0, 0, 2, 7, 15, 31, 31, 31, 223, 479, 31, 2047, 4095] (.take 0 (.take 1 (.take 2 (.take 3 (.take 4 (.take 5 (.take 6 (.take 7 (.take 8 (.take 9 (.take 10 (.alt 11 (.take 12 .done) .none)))))))))))) mixed (by kernel_rfl) ?_
  refine tkP rfl ?_
  refine R_move (v := (e1 8)) rfl ⟨fun _ => trivial, ?_⟩
  refine tkP rfl ?_
  refine R_move (v := (e1 1)) rfl ⟨fun _ => trivial, ?_⟩
  refine tkP rfl ?_
  refine R_len Try.underlying22 H fun t11 H => ⟨fun _ => trivial, ?_⟩
  refine tkP rfl ?_
  refine R_lss H fun t12 H => ⟨fun _ => trivial, ?_⟩
  refine tkP rfl ?_
  refine R_move (v := t12) rfl ⟨fun _ => trivial, ?_⟩
  obtain ⟨b, hb, H1, H2⟩ := H
  cases b
  · have H := H2 rfl; clear H1 H2
    refine tk_s rfl rfl (nbT hb) ?_
    refine tk_s rfl rfl (nbT hb) ?_
    refine tk_s rfl rfl (nbT hb) ?_
    refine tk_s rfl rfl (nbT hb) ?_
    refine tk_s rfl rfl (nbT hb) ?_
    refine tk_s rfl rfl (nbT hb) ?_
    refine alt_s rfl rfl (nbT hb) ?_ vp_none
    refine tkP rfl ?_
    refine R_pickC (v := (.bool false)) false hb rfl ⟨fun _ => trivial, ?_⟩
    refine vp_done ?_
    refine WPc_cond (t := false) rfl (fun hh => by cases hh) (fun _ => ?_)
    refine WPc_exit ?_
    exact H
  · have H := H1 rfl; clear H1 H2
    refine tkPy rfl rfl hb ?_
    refine R_move (v := (e1 0)) rfl ⟨fun _ => trivial, ?_⟩
    refine tkPy rfl rfl hb ?_
    refine R_move (v := (e1 1)) rfl ⟨fun _ => trivial, ?_⟩
    refine tkPy rfl rfl hb ?_
    refine R_move (v := (e1 8)) rfl ⟨fun _ => trivial, ?_⟩
    refine tkPy rfl rfl hb ?_
    refine R_idx TE_22 H fun t17 H => ⟨fun _ => trivial, ?_⟩
    refine tkLy rfl rfl hb ?_
    refine R_loadN TN_27 H fun at18 xt18 hat18 _ H St18 hSt18 => ?_
    refine tkLy rfl rfl hb ?_
    refine R_loadN TN_27 H fun at19 xt19 hat19 _ H St19 hSt19 => ?_
    refine alt_y rfl rfl hb ?_ vp_none
    refine H_call HB_124 H fun t20 h H => ⟨(hskip rfl (hskip rfl hnil)), ?_⟩
    refine tkP rfl ?_
    refine R_pickC (v := t20) true hb rfl ⟨fun _ => trivial, ?_⟩
    refine vp_done ?_
    obtain ⟨b_2, hc, H1, H2⟩ := H
    refine WPc_cond hc (fun hh => ?_) (fun hh => ?_)
    · have H := H1 hh; clear H1 H2
      refine WPc_skip ?_
      exact ⟨H, rfl⟩
    · have H := H2 hh; clear H1 H2
      refine WPc_exit ?_
      exact H
end Go.Proofs.Ytlihjljdndbpdaa
end
section
namespace Go.Proofs.Ytlihjljdndbpdaa
open Go.Hp
set_option maxRecDepth 100000
set_option maxHeartbeats 8000000
set_option linter.unusedVariables false
set_option linter.unusedSimpArgs false

/-! ### spec.Put -/
def s_Put.j1 (s1 : Value) (s7 : Value) (s8 : Value) (s10 : Value) (h : Heap) (Q : Value → Heap → Prop) : Prop :=
    slc 2 s1 (some s8) none none fun t42 =>
    app 27 2 16 [(.int .i64 0), (.int .i64 0)] s10 t42 h fun t43 h =>
    buildV [(.int .i64 0), (.int .i64 0), (.bool false)] [] fun t44 =>
    storeN 3 s7 t44 h fun h =>
    loadN 3 s7 h fun r7 =>
    Q (.tuple #[t43, r7]) h
def s_Put.sh (a0 : Value) (a1 : Value) (a2 : Value) (h : Heap) (Q : Value → Heap → Prop) : Prop :=
    box 27 a2 h fun t5 h =>
    alloc [(.int .i64 0), (.int .i64 0), (.bool false)] 32 h fun t7 h =>
    loadN 2 t5 h fun t14 =>
    s_Place.call #[a0, a1, t14] h fun t15 h =>
    extr 0 t15 fun t16 =>
    extr 1 t15 fun t17 =>
    mkSl (if 0 * 2 = 0 then [] else zeros [(.int .i64 0), (.int .i64 0)] 0) 0 [] 27 h fun t18 h =>
    slc 2 a1 none (some t16) none fun t21 =>
    app 27 2 16 [(.int .i64 0), (.int .i64 0)] t18 t21 h fun t22 h =>
    loadN 2 t5 h fun t24 =>
    mkSl (if 1 * 2 = 0 then [] else zeros [(.int .i64 0), (.int .i64 0)] 1) 1 [(0 * 2, 2, t24)] 27 h fun t25 h =>
    app 27 2 16 [(.int .i64 0), (.int .i64 0)] t22 t25 h fun t26 h =>
    ifV t17
    (arith (· + ·) t16 (.int .i64 1) fun t31 =>
    slc 2 a1 (some t31) none none fun t32 =>
    idx 2 a1 t16 fun t36 =>
    loadN 2 t36 h fun t37 =>
    buildV [(.int .i64 0), (.int .i64 0), (.bool false)] [(0, 2, t37), (2, 1, (.bool true))] fun t38 =>
    app 27 2 16 [(.int .i64 0), (.int .i64 0)] t26 t32 h fun t33 h =>
    stillN 2 t36 t37 h ∧ storeN 3 t7 t38 h fun h =>
    loadN 3 t7 h fun r7 =>
    Q (.tuple #[t33, r7]) h)
    (s_Put.j1 a1 t7 t16 t26 h Q)
theorem s_Put.body (a0 : Value) (a1 : Value) (a2 : Value) (h : Heap) (Q : Value → Heap → Prop) (H : s_Put.sh a0 a1 a2 h Q) : s_Put.call #[a0, a1, a2] h Q := by
  refine callsH_of (args := [a0, a1, a2]) Try.func18 rfl rfl ?_
  unfold s_Put.sh at H
  refine WPc_seq' ?_
  refine W_region (by kernel_rfl) ?_
  refine vl_n ?_
  refine H_box H fun t5 h H => ?_
  refine vl_n ?_
  refine H_of_R (R_assign (v := (.slice none 0 0)) rfl ?_)
  refine vl_n ?_
  refine H_alloc TV_32 H fun t7 h H => ?_
  refine vl_e ?_
  refine WPc_seq' ?_
  refine W_region (by kernel_rfl) ?_
  refine vl_n ?_
  refine H_of_R (R_move (v := a0) rfl ?_)
  refine vl_n ?_
  refine H_of_R (R_move (v := a1) rfl ?_)
  refine vl_n ?_
  refine H_of_R (R_loadN TN_27 H fun _ t14 _ _ H _ _ => ?_)
  refine vl_n ?_
  refine H_call HB_67 H fun t15 h H => ?_
  refine vl_n ?_
  refine H_of_R (R_move (v := t15) rfl ?_)
  refine vl_n ?_
  refine H_of_R (R_ext H fun t16 H => ?_)
  refine vl_n ?_
  refine H_of_R (R_ext H fun t17 H => ?_)
  refine vl_n ?_
  refine H_of_R (R_assign (v := t16) rfl ?_)
  refine vl_n ?_
  refine H_of_R (R_assign (v := t17) rfl ?_)
  refine vl_e ?_
  refine WPc_seq' ?_
  refine W_region (by kernel_rfl) ?_
  refine vl_n ?_
  refine H_mkSl TZ_22 (by decide) rfl H rfl fun t18 h H => ?_
  refine vl_n ?_
  refine H_of_R (R_move (v := a1) rfl ?_)
  refine vl_n ?_
  refine H_of_R (R_move (v := t16) rfl ?_)
  refine vl_n ?_
  refine H_of_R (R_slice TE_22 (by decide) H fun t21 H => ?_)
  refine vl_n ?_
  refine H_app TZ_22 TU_22 H fun t22 h H => ?_
  refine vl_n ?_
  refine H_of_R (R_assign (v := t22) rfl ?_)
  refine vl_e ?_
  refine WPc_seq' ?_
  refine W_region (by kernel_rfl) ?_
  refine vl_n ?_
  refine H_of_R (R_move (v := t22) rfl ?_)
  refine vl_n ?_
  refine H_of_R (R_loadN TN_27 H fun _ t24 _ _ H _ _ => ?_)
  refine vl_n ?_
  refine H_mkSl TZ_22 (by decide) rfl H rfl fun t25 h H => ?_
  refine vl_n ?_
  refine H_app TZ_22 TU_22 H fun t26 h H => ?_
  refine vl_n ?_
  refine H_of_R (R_assign (v := t26) rfl ?_)
  refine vl_e ?_
  refine WPc_seq (fun e h => s_Put.j1 (e 1) (e 7) (e 8) (e 10) h Q) ?_ (fun e h H => ?_)
  rotate_left
  · unfold s_Put.j1 at H
    refine WPc_seq' ?_
    refine W_region (by kernel_rfl) ?_
    refine vl_n ?_
    refine H_of_R (R_move (v := (e 10)) rfl ?_)
    refine vl_n ?_
    refine H_of_R (R_move (v := (e 1)) rfl ?_)
    refine vl_n ?_
    refine H_of_R (R_move (v := (e 8)) rfl ?_)
    refine vl_n ?_
    refine H_of_R (R_slice TE_22 (by decide) H fun t42 H => ?_)
    refine vl_n ?_
    refine H_app TZ_22 TU_22 H fun t43 h H => ?_
    refine vl_n ?_
    refine H_of_R (R_build TB_32 rfl (by decide) H fun t44 H => ?_)
    refine vl_n ?_
    refine H_of_R (R_assign (v := t43) rfl ?_)
    refine vl_n ?_
    refine H_storeN TS_32 H fun h H => ?_
    refine vl_e ?_
    refine WPc_ret ?_
    refine resH_of rfl ?_
    refine resL_t ?_
    refine resL_N TN_32 ?_
    refine loadN_imp H fun r7 H => ?_
    exact H
  refine WPc_seq' ?_
  refine W_region (by kernel_rfl) ?_
  refine vl_n ?_
  refine H_of_R (R_move (v := t17) rfl ?_)
  refine vl_e ?_
  obtain ⟨b, hc, H1, H2⟩ := H
  refine WPc_cond hc (fun hh => ?_) (fun hh => ?_)
  · have H := H1 hh; clear H1 H2
    refine WPc_seq' ?_
    refine W_drawn [0, 0, 0, 4, 14, 31, 0, 0, 192, 448, 960, 63, 4095] (.take 0 (.take 1 (.take 2 (.take 3 (.take 4 (.take 6 (.take 7 (.take 8 (.take 9 (.take 10 (.alt 5 (.take 11 (.alt 12 .done .none)) .none))))))))))) mixed (by kernel_rfl) ?_
    refine tkP rfl ?_
    refine R_move (v := t26) rfl ⟨fun _ => trivial, ?_⟩
    refine tkP rfl ?_
    refine R_move (v := a1) rfl ⟨fun _ => trivial, ?_⟩
    refine tkP rfl ?_
    refine R_move (v := t16) rfl ⟨fun _ => trivial, ?_⟩
    refine tkP rfl ?_
    refine R_add H fun t31 H => ⟨fun _ => trivial, ?_⟩
    refine tkP rfl ?_
    refine R_slice TE_22 (by decide) H fun t32 H => ⟨fun _ => trivial, ?_⟩
    refine tkP rfl ?_
    refine R_move (v := a1) rfl ⟨fun _ => trivial, ?_⟩
    refine tkP rfl ?_
    refine R_move (v := t16) rfl ⟨fun _ => trivial, ?_⟩
    refine tkP rfl ?_
    refine R_idx TE_22 H fun t36 H => ⟨fun _ => trivial, ?_⟩
    refine tkL rfl ?_
    refine R_loadN TN_27 H fun at37 xt37 hat37 _ H St37 hSt37 => ?_
    refine tkP rfl ?_
    refine R_build TB_32 rfl (by decide) H fun t38 H => ⟨fun _ => trivial, ?_⟩
    refine alt_n rfl ?_ vp_none
    refine H_app TZ_22 TU_22 H fun t33 h ⟨S, H⟩ => ⟨(hcons rfl (hSt37 _ (still_N S hat37 rfl)) hnil), ?_⟩
    refine tkP rfl ?_
    refine R_assign (v := t33) rfl ⟨fun _ => trivial, ?_⟩
    refine alt_n rfl ?_ vp_none
    refine H_storeN TS_32 H fun h H => ⟨(hskip rfl hnil), ?_⟩
    refine vp_done ?_
    refine WPc_ret ?_
    refine resH_of rfl ?_
    refine resL_t ?_
    refine resL_N TN_32 ?_
    refine loadN_imp H fun r7 H => ?_
    exact H
  · have H := H2 hh; clear H1 H2
    refine WPc_skip ?_
    exact H

end Go.Proofs.Ytlihjljdndbpdaa
end
section
namespace Go.Proofs.Ytlihjljdndbpdaa
open Go.Hp
set_option maxRecDepth 100000
set_option maxHeartbeats 8000000
set_option linter.unusedVariables false
set_option linter.unusedSimpArgs false

/-! ### slices.Equal[[]impl.Item,impl.Item] -/
def sl_Equal_implItemI.j2 (h : Heap) (Q : Value → Heap → Prop) : Prop :=
    Q (.bool true) h
def sl_Equal_implItemI.j5 (s0 : Value) (s1 : Value) (s12 : Value) (s13 : Value) (h : Heap) (K1 : List Value → Heap → Prop) (Q : Value → Heap → Prop) : Prop :=
    arith (· + ·) s13 (.int .i64 1) fun t25 =>
    K1 [t25] h
def sl_Equal_implItemI.j4 (s0 : Value) (s1 : Value) (s12 : Value) (s13 : Value) (h : Heap) (K1 : List Value → Heap → Prop) (Q : Value → Heap → Prop) : Prop :=
    idx 2 s0 s13 fun t18 =>
    loadN 2 t18 h fun t19 =>
    idx 2 s1 s13 fun t22 =>
    loadN 2 t22 h fun t23 =>
    neR (EqV Try.prog 10000 27) t19 t23 fun t24 =>
    ifV t24
    (Q (.bool false) h)
    (sl_Equal_implItemI.j5 s0 s1 s12 s13 h K1 Q)
def sl_Equal_implItemI.l3.b (c0 : Value) (c1 : Value) (c12 : Value) (s13 : Value) (h : Heap) (K1 : List Value → Heap → Prop) (Q : Value → Heap → Prop) : Prop :=
    cmpI (fun a b => decide (a < b)) s13 c12 fun t14 =>
    ifV t14
    (sl_Equal_implItemI.j4 c0 c1 c12 s13 h K1 Q)
    (sl_Equal_implItemI.j2 h Q)
def sl_Equal_implItemI.j1 (s0 : Value) (s1 : Value) (h : Heap) (Q : Value → Heap → Prop) : Prop :=
    lenV s0 fun t12 =>
    loopC (fun c s h K1 => sl_Equal_implItemI.l3.b (c.getD 0 undef) (c.getD 1 undef) (c.getD 2 undef) (s.getD 0 undef) h K1 Q) [s0, s1, t12] [(.int .i64 0)] h
def sl_Equal_implItemI.sh (a0 : Value) (a1 : Value) (h : Heap) (Q : Value → Heap → Prop) : Prop :=
    lenV a0 fun t7 =>
    lenV a1 fun t9 =>
    cmpI (fun a b => a != b) t7 t9 fun t10 =>
    ifV t10
    (Q (.bool false) h)
    (sl_Equal_implItemI.j1 a0 a1 h Q)
theorem sl_Equal_implItemI.body (a0 : Value) (a1 : Value) (h : Heap) (Q : Value → Heap → Prop) (H : sl_Equal_implItemI.sh a0 a1 h Q) : sl_Equal_implItemI.call #[a0, a1] h Q := by
  refine callsH_of (args := [a0, a1]) Try.func41 rfl rfl ?_
  unfold sl_Equal_implItemI.sh at H
  refine WPc_seq' ?_
  refine W_region (by kernel_rfl) ?_
  refine vl_n ?_
  refine H_of_R (R_assign (v := (.bool false)) rfl ?_)
  refine vl_e ?_
  refine WPc_seq (fun e h => sl_Equal_implItemI.j1 (e 0) (e 1) h Q) ?_ (fun e h H => ?_)
  rotate_left
  · unfold sl_Equal_implItemI.j1 at H
    refine WPc_seq (fun e h => sl_Equal_implItemI.j2 h Q) ?_ (fun e h H => ?_)
    rotate_left
    · unfold sl_Equal_implItemI.j2 at H
      refine WPc_seq' ?_
      refine W_region (by kernel_rfl) ?_
      refine vl_n ?_
      refine H_of_R (R_assign (v := (.bool true)) rfl ?_)
      refine vl_e ?_
      refine WPc_ret ?_
      refine resH_of rfl ?_
      exact H
    refine WPc_seq' ?_
    refine W_region (by kernel_rfl) ?_
    refine vl_n ?_
    refine H_of_R (R_move (v := (e 0)) rfl ?_)
    refine vl_n ?_
    refine H_of_R (R_len Try.underlying22 H fun t12 H => ?_)
    refine vl_n ?_
    refine H_of_R (R_move (v := (.int .i64 0)) rfl ?_)
    refine vl_e ?_
    refine WPc_block ?_
    refine loop_at (fun e => [e 13]) (fun e => [e 0, e 1, e 12]) H rfl rfl ?_
    intro K1 e1 h H hin1
    replace H : sl_Equal_implItemI.l3.b (e1 0) (e1 1) (e1 12) (e1 13) h K1 Q := H
    unfold sl_Equal_implItemI.l3.b at H
    clear hin1
    refine WPc_seq' ?_
    refine W_region (by kernel_rfl) ?_
    refine vl_n ?_
    refine H_of_R (R_lss H fun t14 H => ?_)
    refine vl_e ?_
    refine WPc_seq (fun e h => sl_Equal_implItemI.j4 (e 0) (e 1) (e 12) (e 13) h K1 Q ∧ [e1 0, e1 1, e1 12] = [e 0, e 1, e 12]) ?_ (fun e h ⟨H, hq1⟩ => ?_)
    rotate_left
    · unfold sl_Equal_implItemI.j4 at H
      refine WPc_seq (fun e h => sl_Equal_implItemI.j5 (e 0) (e 1) (e 12) (e 13) h K1 Q ∧ [e1 0, e1 1, e1 12] = [e 0, e 1, e 12]) ?_ (fun e h ⟨H, hq1⟩ => ?_)
      rotate_left
      · unfold sl_Equal_implItemI.j5 at H
        refine W_region (by kernel_rfl) ?_
        refine vl_n ?_
        refine H_of_R (R_add H fun t25 H => ?_)
        refine vl_n ?_
        refine H_of_R (R_move (v := t25) rfl ?_)
        refine vl_e ?_
        exact ⟨H, hq1⟩
      refine WPc_block ?_
      refine WPc_seq' ?_
      refine W_region (by kernel_rfl) ?_
      refine vl_n ?_
      refine H_of_R (R_move (v := (e 13)) rfl ?_)
      refine vl_n ?_
      refine H_of_R (R_assign (v := (e 13)) rfl ?_)
      refine vl_e ?_
      refine WPc_seq' ?_
      refine W_drawn [0, 0, 3, 7, 0, 0, 48, 112, 255] (.take 0 (.take 1 (.take 2 (.take 3 (.take 4 (.take 5 (.take 6 (.take 7 (.take 8 .done))))))))) mixed (by kernel_rfl) ?_
      refine tkP rfl ?_
      refine R_move (v := (e 0)) rfl ⟨fun _ => trivial, ?_⟩
      refine tkP rfl ?_
      refine R_move (v := (e 13)) rfl ⟨fun _ => trivial, ?_⟩
      refine tkP rfl ?_
      refine R_idx TE_22 H fun t18 H => ⟨fun _ => trivial, ?_⟩
      refine tkL rfl ?_
      refine R_loadN TN_27 H fun at19 xt19 hat19 _ H St19 hSt19 => ?_
      refine tkP rfl ?_
      refine R_move (v := (e 1)) rfl ⟨fun _ => trivial, ?_⟩
      refine tkP rfl ?_
      refine R_move (v := (e 13)) rfl ⟨fun _ => trivial, ?_⟩
      refine tkP rfl ?_
      refine R_idx TE_22 H fun t22 H => ⟨fun _ => trivial, ?_⟩
      refine tkL rfl ?_
      refine R_loadN TN_27 H fun at23 xt23 hat23 _ H St23 hSt23 => ?_
      refine tkP rfl ?_
      refine R_neA (by kernel_rfl) H fun t24 H => ⟨fun _ => trivial, ?_⟩
      refine vp_done ?_
      obtain ⟨b, hc, H1, H2⟩ := H
      refine WPc_cond hc (fun hh => ?_) (fun hh => ?_)
      · have H := H1 hh; clear H1 H2
        refine WPc_seq' ?_
        refine W_region (by kernel_rfl) ?_
        refine vl_n ?_
        refine H_of_R (R_assign (v := (.bool false)) rfl ?_)
        refine vl_e ?_
        refine WPc_ret ?_
        refine resH_of rfl ?_
        exact H
      · have H := H2 hh; clear H1 H2
        refine WPc_skip ?_
        exact ⟨H, hq1⟩
    obtain ⟨b, hc, H1, H2⟩ := H
    refine WPc_cond hc (fun hh => ?_) (fun hh => ?_)
    · have H := H1 hh; clear H1 H2
      refine WPc_skip ?_
      exact ⟨H, rfl⟩
    · have H := H2 hh; clear H1 H2
      refine WPc_exit ?_
      exact H
  refine WPc_seq' ?_
  refine W_region (by kernel_rfl) ?_
  refine vl_n ?_
  refine H_of_R (R_move (v := a0) rfl ?_)
  refine vl_n ?_
  refine H_of_R (R_len Try.underlying22 H fun t7 H => ?_)
  refine vl_n ?_
  refine H_of_R (R_move (v := a1) rfl ?_)
  refine vl_n ?_
  refine H_of_R (R_len Try.underlying22 H fun t9 H => ?_)
  refine vl_n ?_
  refine H_of_R (R_neI H fun t10 H => ?_)
  refine vl_e ?_
  obtain ⟨b, hc, H1, H2⟩ := H
  refine WPc_cond hc (fun hh => ?_) (fun hh => ?_)
  · have H := H1 hh; clear H1 H2
    refine WPc_seq' ?_
    refine W_region (by kernel_rfl) ?_
    refine vl_n ?_
    refine H_of_R (R_assign (v := (.bool false)) rfl ?_)
    refine vl_e ?_
    refine WPc_ret ?_
    refine resH_of rfl ?_
    exact H
  · have H := H2 hh; clear H1 H2
    refine WPc_skip ?_
    exact H

end Go.Proofs.Ytlihjljdndbpdaa
end
section
namespace Go.Proofs.Ytlihjljdndbpdaa.Ii
open Go.Hp Go.Proofs.Ytlihjljdndbpdaa
set_option linter.unusedVariables false
set_option linter.unusedSimpArgs false
variable {h0 h : Heap} {Z E : List Rg} {Q : Value → Heap → Prop}
theorem slcF0 {K : Value → Prop} {L : List It} {v : Value} (r : Rdl 2 h v L.length (L.flatMap encA)) {k' : IntKind} {z' : Int} {j : Nat} (hz' : z' = j) (hj : j ≤ L.length)
    (H : ∀ v', Rdl 2 h v' (L.take j).length ((L.take j).flatMap encA) → K v') : Hp.slc 2 v none (some (.int k' z')) none K := by
  subst hz'
  refine r.slc (l := 0) (m := j) rfl ⟨k', j, rfl, by omega, by omega, by simp⟩ (Nat.zero_le _) hj fun v' r' => H v' ?_
  rw [Nat.zero_mul, List.drop_zero, Nat.sub_zero, flat_take encAl L j hj] at r'
  rw [List.length_take, Nat.min_eq_left hj]; exact r'
theorem slcF1 {K : Value → Prop} {L : List It} {v : Value} (r : Rdl 2 h v L.length (L.flatMap encA)) {k : IntKind} {z : Int} {i : Nat} (hz : z = i) (hi : i ≤ L.length)
    (H : ∀ v', Rdl 2 h v' (L.drop i).length ((L.drop i).flatMap encA) → K v') : Hp.slc 2 v (some (.int k z)) none none K := by
  subst hz
  refine r.slc (l := i) (m := L.length) ⟨k, i, rfl, by omega, by omega, by simp⟩ rfl hi (Nat.le_refl _) fun v' r' => H v' ?_
  have e : ((L.flatMap encA).drop (i * 2)).take ((L.length - i) * 2) = (L.drop i).flatMap encA := by
    rw [flat_drop encAl, List.take_of_length_le (by rw [flat_len encAl, List.length_drop]; exact Nat.le_refl _)]
  rw [e] at r'
  rw [List.length_drop]; exact r'
theorem Rank_nil {k : Int} (H : Q (.int .i64 k) h) : s_Rank.call #[.slice none 0 0, .int .i64 k] h Q := by
  refine s_Rank.body _ _ _ _ ?_
  unfold s_Rank.sh
  refine r_len ?_
  refine r_cmpI ?_
  exact r_if (fun _ => H) (fun e => absurd e (by simp))
theorem Before_nil {p q : It} (H : ∀ E' h', St h [] E' h' → Q (.bool (lt p q)) h') : s_Before.call #[.slice none 0 0, .agg (encA p).toArray, .agg (encA q).toArray] h Q := by
  refine s_Before.body _ _ _ _ _ ?_
  unfold s_Before.sh
  have s := St.start h
  refine s.r_box fun t4 h s => ?_
  refine s.r_box fun t5 h s => ?_
  refine r_fld ?_
  refine St.r_load0 s 1 rfl rfl ?_
  refine r_fld ?_
  refine St.r_load0 s 0 rfl rfl ?_
  refine Rank_nil ?_
  refine ⟨St.r_still0 s 0 rfl rfl, ?_⟩
  refine Rank_nil ?_
  refine r_cmpI ?_
  exact H _ _ s
theorem Place_nil {l : List It} {v : Value} {x : It} (hr : Rdl 2 h v l.length (l.flatMap encA)) (hl : l.length ≤ 2147483647)
    (H : ∀ E' h', St h [] E' h' → Q (.tuple #[.int .i64 (pos lt l x), .bool (lget lt l x).isSome]) h') : s_Place.call #[.slice none 0 0, v, .agg (encA x).toArray] h Q := by
  refine s_Place.body _ _ _ _ _ ?_
  unfold s_Place.sh
  have s := St.start h
  refine s.r_box fun t5 h' s => ?_
  have hple := pos_le (lt := lt) l x
  refine loop_ghost (fun q st h' => ∃ (j : Nat) (E' : List Rg), q = l.length - j ∧ j ≤ pos lt l x ∧ st = [.int .i64 (j : Nat)] ∧ St h [] ((t5, 0, encA x) :: E') h') (n0 := l.length)
    ⟨0, [], rfl, Nat.zero_le _, rfl, s⟩ ?_
  clear s
  rintro q st h' ⟨j, E', rfl, hj, rfl, s⟩ K HK
  have fin : j = pos lt l x → s_Place.j1 (.slice none 0 0) v (ptr t5 0) (.int .i64 j) h' Q := fun ej => by
    subst ej
    unfold s_Place.j1
    refine (hr.st s).lenV ?_
    refine r_cmpI ?_
    refine r_br (fun e => ?_) (fun e => ?_)
    · have e : pos lt l x < l.length := by have := of_decide_eq_true e; omega
      refine St.r_loadN0 s 0 rfl (by simp) ?_
      refine (hr.st s).at (n := pos lt l x) rfl encAl rfl rfl e fun b o hb => ?_
      refine hb.loadN rfl ?_
      refine Before_nil (p := x) fun E2 h s2 => ?_
      refine r_not ?_
      have e3 : (lget lt l x).isSome = !(lt x l[pos lt l x]) := by
        unfold lget
        rw [List.getElem?_eq_getElem e, Option.bind_some]
        cases lt x l[pos lt l x] <;> rfl
      rw [e3] at H
      exact H _ _ (s.join s2)
    · have e : ¬ pos lt l x < l.length := by have := of_decide_eq_false e; omega
      have e3 : (lget lt l x).isSome = false := by
        unfold lget
        rw [List.getElem?_eq_none (by omega)]; rfl
      rw [e3] at H
      exact H _ _ s
  unfold s_Place.l2.b
  refine (hr.st s).lenV ?_
  refine r_cmpI ?_
  refine r_br (fun e => ?_) (fun e => ?_)
  · have e : j < l.length := by have := of_decide_eq_true e; omega
    refine (hr.st s).at (n := j) rfl encAl rfl rfl e fun b o hb => ?_
    refine hb.loadN rfl ?_
    refine St.r_loadN0 s 0 rfl (by simp) ?_
    refine Before_nil (q := x) fun E2 h2 s2 => ?_
    have s := (s.join s2).perm List.perm_append_comm
    refine r_if (fun e2 => ?_) (fun e2 => ?_)
    · have hlt : j < pos lt l x := by
        rcases Nat.lt_or_ge j (pos lt l x) with h | h
        · exact h
        · have : j = pos lt l x := by omega
          subst this
          rw [pos_at e] at e2; cases e2
      unfold s_Place.j3
      refine r_add1 (by omega) ?_
      exact HK (l.length - (j + 1)) _ _ (by omega) ⟨j + 1, _, rfl, hlt, rfl, s⟩
    · have : j = pos lt l x := by
        rcases Nat.lt_or_ge j (pos lt l x) with h | h
        · have := pos_lt h
          rw [e2] at this; cases this
        · omega
      subst this
      unfold s_Place.j1
      have s : St h [] ((t5, 0, encA x) :: (E' ++ E2)) h2 := s
      refine (hr.st s).lenV ?_
      refine r_cmpI ?_
      refine r_br (fun _ => ?_) (fun e3 => absurd e3 (by simp; omega))
      refine St.r_loadN0 s 0 rfl (by simp) ?_
      refine (hr.st s).at (n := pos lt l x) rfl encAl rfl rfl e fun b o hb => ?_
      refine hb.loadN rfl ?_
      refine Before_nil (p := x) fun E3 h3 s3 => ?_
      refine r_not ?_
      have e3 : (lget lt l x).isSome = !(lt x l[pos lt l x]) := by
        unfold lget
        rw [List.getElem?_eq_getElem e, Option.bind_some]
        cases lt x l[pos lt l x] <;> rfl
      rw [e3] at H
      exact H _ _ (s.join s3)
  · exact fin (by have := of_decide_eq_false e; omega)
theorem Put_ok {l : List It} {v : Value} {x : It} (hr : Rdl 2 h v l.length (l.flatMap encA)) (hl : l.length ≤ 1073741824)
    (H : ∀ v' rf E' h', St h [] E' h' → Rdl 2 h' v' (lput lt l x).length ((lput lt l x).flatMap encA) → Q (.tuple #[v', rf]) h') : s_Put.call #[.slice none 0 0, v, .agg (encA x).toArray] h Q := by
  refine s_Put.body _ _ _ _ _ ?_
  unfold s_Put.sh
  have s := St.start h
  refine s.r_box fun t5 h1 s => ?_
  refine s.r_alloc fun t7 h1 s => ?_
  refine St.r_loadN0 s 1 rfl (by simp) ?_
  refine Place_nil (hr.st s) (by omega) fun E2 h1 s2 => ?_
  have s := (s.join s2).perm List.perm_append_comm
  have s : St h [] ((t7, 0, [.int .i64 0, .int .i64 0, .bool false]) :: (t5, 0, encA x) :: E2) h1 := s
  have hple := pos_le (lt := lt) l x
  have hput : lput lt l x = l.take (pos lt l x) ++ x :: l.drop (pos lt l x + if (lget lt l x).isSome then 1 else 0) := rfl
  have hg : (lget lt l x).isSome = true → pos lt l x < l.length := fun h => by
    cases e : lget lt l x with
    | none => rw [e] at h; cases h
    | some y => obtain ⟨hp, _⟩ := lget_some e; exact hp
  generalize pos lt l x = i at *
  generalize (lget lt l x).isSome = is at *
  refine r_ext rfl ?_
  refine r_ext rfl ?_
  refine St.r_mkSl (sz := 2) (cs := []) s (by ((simp only [fillV, fill1, Value.cells, zeros_succ, zeros_zero, List.size_toArray, List.length_cons, List.length_nil, List.length_append, List.take_succ_cons, List.take_zero, List.take_nil, List.drop_succ_cons, List.drop_zero, List.drop_nil, List.cons_append, List.nil_append, List.append_nil, Nat.reduceAdd, Nat.reduceMul, Nat.reduceLeDiff, Nat.reduceEqDiff, and_self, and_true, true_and, if_true, Nat.le_refl, Nat.zero_add, Nat.add_zero, Nat.zero_mul, reduceIte, if_false] <;> rfl))) rfl fun q h1 s wq => ?_
  refine slcF0 (hr.st s) rfl hple fun v1 r1 => ?_
  refine s.r_appL (f := encA) (L := []) (M := l.take i) 0 rfl wq rfl r1 (fun _ _ => encA1 _) (by simp; omega) (by simp; omega) fun va ba oa pa h1 s wa => ?_
  rw [List.nil_append] at wa
  have s : St h [] ((ba, oa, (l.take i).flatMap encA ++ pa) :: (t7, 0, [.int .i64 0, .int .i64 0, .bool false]) :: (t5, 0, encA x) :: E2) h1 := s
  refine St.r_loadN0 s 2 rfl (by simp) ?_
  refine St.r_mkSl (sz := 2) (cs := encA x) s (by ((simp only [fillV, fill1, Value.cells, zeros_succ, zeros_zero, List.size_toArray, List.length_cons, List.length_nil, List.length_append, List.take_succ_cons, List.take_zero, List.take_nil, List.drop_succ_cons, List.drop_zero, List.drop_nil, List.cons_append, List.nil_append, List.append_nil, Nat.reduceAdd, Nat.reduceMul, Nat.reduceLeDiff, Nat.reduceEqDiff, and_self, and_true, true_and, if_true, Nat.le_refl, Nat.zero_add, Nat.add_zero, Nat.zero_mul, reduceIte, if_false] <;> rfl))) rfl fun q2 h1 s wq2 => ?_
  refine s.r_appL (f := encA) (L := l.take i) (M := [x]) 1 rfl wa rfl (by have := wq2.rdl s 0 rfl; simpa using this) (fun _ _ => encA1 _) (by simp; omega) (by simp; omega) fun vb bb ob pb h1 s wb => ?_
  have s : St h [] ((bb, ob, (l.take i ++ [x]).flatMap encA ++ pb) :: (t7, 0, [.int .i64 0, .int .i64 0, .bool false]) :: (t5, 0, encA x) :: E2) h1 := s.tail rfl
  cases is with
  | true =>
    have hi := hg rfl
    have hput : lput lt l x = (l.take i ++ [x]) ++ l.drop (i + 1) := by rw [hput]; simp
    refine r_if (fun _ => ?_) (fun e => absurd e (by simp))
    refine r_add1 (by omega) ?_
    refine slcF1 (hr.st s) rfl hi fun v2 r2 => ?_
    refine hr.at (n := i) rfl encAl rfl rfl hi fun b o hb => ?_
    refine (hb.st s).loadN rfl ?_
    ((apply r_build; ((simp only [fillV, fill1, Value.cells, zeros_succ, zeros_zero, List.size_toArray, List.length_cons, List.length_nil, List.length_append, List.take_succ_cons, List.take_zero, List.take_nil, List.drop_succ_cons, List.drop_zero, List.drop_nil, List.cons_append, List.nil_append, List.append_nil, Nat.reduceAdd, Nat.reduceMul, Nat.reduceLeDiff, Nat.reduceEqDiff, and_self, and_true, true_and, if_true, Nat.le_refl, Nat.zero_add, Nat.add_zero, Nat.zero_mul, reduceIte, if_false] <;> rfl))))
    refine s.r_appL (f := encA) (L := l.take i ++ [x]) (M := l.drop (i + 1)) 0 rfl wb rfl r2 (fun _ _ => encA1 _) (by simp; omega) (by simp; omega) fun vc bc oc pc h2 s wc => ?_
    rw [← hput] at wc s
    refine ⟨(hb.st s).stillN rfl, ?_⟩
    · have s : St h [] ((bc, oc, (lput lt l x).flatMap encA ++ pc) :: (t7, 0, [.int .i64 0, .int .i64 0, .bool false]) :: (t5, 0, encA x) :: E2) h2 := s
      refine St.r_storeN0 s 1 (ys := [.int .i64 l[i].1, .int .i64 l[i].2, .bool true]) rfl rfl (by simp) (by simp [one1]) ?_; intro h2 s
      refine St.r_loadN0 s 1 rfl (by simp) ?_
      exact H vc _ _ _ s (wc.rdl s 0 rfl)
  | false =>
    have hput : lput lt l x = (l.take i ++ [x]) ++ l.drop i := by rw [hput]; simp
    refine r_if (fun e => absurd e (by simp)) (fun _ => ?_)
    unfold s_Put.j1
    refine slcF1 (hr.st s) rfl hple fun v2 r2 => ?_
    refine s.r_appL (f := encA) (L := l.take i ++ [x]) (M := l.drop i) 0 rfl wb rfl r2 (fun _ _ => encA1 _) (by simp; omega) (by simp; omega) fun vc bc oc pc h2 s wc => ?_
    rw [← hput] at wc s
    ((apply r_build; ((simp only [fillV, fill1, Value.cells, zeros_succ, zeros_zero, List.size_toArray, List.length_cons, List.length_nil, List.length_append, List.take_succ_cons, List.take_zero, List.take_nil, List.drop_succ_cons, List.drop_zero, List.drop_nil, List.cons_append, List.nil_append, List.append_nil, Nat.reduceAdd, Nat.reduceMul, Nat.reduceLeDiff, Nat.reduceEqDiff, and_self, and_true, true_and, if_true, Nat.le_refl, Nat.zero_add, Nat.add_zero, Nat.zero_mul, reduceIte, if_false] <;> rfl))))
    have s : St h [] ((bc, oc, (lput lt l x).flatMap encA ++ pc) :: (t7, 0, [.int .i64 0, .int .i64 0, .bool false]) :: (t5, 0, encA x) :: E2) h2 := s
    refine St.r_storeN0 s 1 (ys := [.int .i64 0, .int .i64 0, .bool false]) rfl rfl (by simp) (by simp [one1]) ?_; intro h2 s
    refine St.r_loadN0 s 1 rfl (by simp) ?_
    exact H vc _ _ _ s (wc.rdl s 0 rfl)
theorem Tree_nil {hA : Heap} {l : List It} {v : Value} (hr : Rdl 2 hA v l.length (l.flatMap encA)) (hl : l.length ≤ 1073741824)
    (H : ∀ v' E' h', St hA [] E' h' → Rdl 2 h' v' (setAll l).length ((setAll l).flatMap encA) → Q v' h') : s_Tree.call #[.slice none 0 0, v] hA Q := by
  refine s_Tree.body _ _ _ _ ?_
  unfold s_Tree.sh
  refine hr.lenV ?_
  refine loop_ghost (fun q st h' => ∃ j v' E', q = l.length - j ∧ j ≤ l.length ∧ st = [v', .int .i64 (j : Nat)] ∧ St hA [] E' h' ∧ Rdl 2 h' v' (setAll (l.take j)).length ((setAll (l.take j)).flatMap encA)) (n0 := l.length)
    ⟨0, .slice none 0 0, [], rfl, Nat.zero_le _, rfl, St.start hA, Rdl.nil 2 hA⟩ ?_
  rintro q st h ⟨j, v', E', rfl, hj, rfl, s, r⟩ K HK
  unfold s_Tree.l2.b
  refine r_cmpI ?_
  refine r_if (fun hlt => ?_) (fun hge => ?_)
  · have hlt : j < l.length := by simpa using hlt
    have hle := setAll_len (l.take j)
    rw [List.length_take] at hle
    unfold s_Tree.j3
    refine (hr.st s).at (n := j) rfl encAl rfl rfl hlt fun b2 o2 hb => ?_
    refine hb.loadN rfl ?_
    have s1 := St.start h
    refine s1.r_alloc fun t7 h1 s1 => ?_
    refine St.r_storeN0 s1 0 rfl rfl (by simp) (encA1 _) ?_; intro h1 s1
    refine St.r_loadN0 s1 0 rfl (by simp) ?_
    refine Put_ok (x := l[j]) (r.st s1) (by omega) fun v2 rf E2 h2 s2 r2 => ?_
    refine r_ext rfl ?_
    refine r_ext rfl ?_
    have et : setAll (l.take (j + 1)) = lput lt (setAll (l.take j)) l[j] := by rw [List.take_succ_eq_append_getElem hlt, setAll_snoc]
    rw [← et] at r2
    unfold s_Tree.j4
    refine r_add1 (by omega) ?_
    exact HK (l.length - (j + 1)) _ _ (by omega) ⟨j + 1, v2, _, rfl, hlt, rfl, s.join (s1.join s2), r2⟩
  · have hge : j = l.length := by have := of_decide_eq_false hge; omega
    subst hge
    rw [List.take_length] at r
    unfold s_Tree.j1
    exact H v' _ h s r
/-- A value and whether there is one. -/
def vOf (o : Option It) : Int := (o.map (·.2)).getD 0
theorem valueAt_ok {hA : Heap} {l : List It} {v : Value} {k : Int} (ha : Asc lt l) (hr : Rdl 2 hA v l.length (l.flatMap encA)) (hl : l.length ≤ 1073741824)
    (H : ∀ E' h', St hA [] E' h' → Q (.tuple #[.int .i64 (vOf (fnd l k)), .bool (fnd l k).isSome]) h') : s_valueAt.call #[v, .int .i64 k] hA Q := by
  refine s_valueAt.body _ _ _ _ ?_
  unfold s_valueAt.sh
  refine hr.lenV ?_
  refine loop_ghost (fun q st h' => ∃ j E', q = l.length - j ∧ j ≤ l.length ∧ st = [.int .i64 (j : Nat)] ∧ (∀ i (h : i < l.length), i < j → l[i].1 ≠ k) ∧ St hA [] E' h') (n0 := l.length)
    ⟨0, [], rfl, Nat.zero_le _, rfl, fun i _ h => absurd h (by omega), St.start hA⟩ ?_
  rintro q st h ⟨j, E', rfl, hj, rfl, hno, s⟩ K HK
  unfold s_valueAt.l2.b
  refine r_cmpI ?_
  refine r_if (fun hlt => ?_) (fun hge => ?_)
  · have hlt : j < l.length := by simpa using hlt
    unfold s_valueAt.j3
    refine (hr.st s).at (n := j) rfl encAl rfl rfl hlt fun b2 o2 hb => ?_
    refine hb.loadN rfl ?_
    refine s.r_alloc fun t7 h s => ?_
    refine St.r_storeN0 s 0 rfl rfl (by simp) (encA1 _) ?_; intro h s
    refine r_fld ?_
    refine St.r_load0 s 0 rfl rfl ?_
    refine r_cmpI ?_
    refine r_if (fun he => ?_) (fun he => ?_)
    · have he : l[j].1 = k := eq_of_beq he
      have e : fnd l k = some l[j] := by subst he; exact (lget_mem swo ha).2 ⟨List.getElem_mem hlt, by simp [lt]⟩
      rw [e] at H
      refine r_fld ?_
      refine St.r_load0 s 0 rfl rfl ?_
      exact H _ _ s
    · have he : l[j].1 ≠ k := by intro e; rw [e] at he; simp at he
      unfold s_valueAt.j4
      refine r_add1 (by omega) ?_
      refine HK (l.length - (j + 1)) _ _ (by omega) ⟨j + 1, _, rfl, hlt, rfl, fun i h1 h2 => ?_, s⟩
      rcases Nat.lt_or_ge i j with h3 | h3
      · exact hno i h1 h3
      · have : i = j := by omega
        subst this; exact he
  · have hge : j = l.length := by have := of_decide_eq_false hge; omega
    have e : fnd l k = none := by
      cases e : fnd l k with
      | none => rfl
      | some y =>
        have hm : y ∈ l := ((lget_mem swo ha).1 e).1
        obtain ⟨i, hi, e2⟩ := List.mem_iff_getElem.1 hm
        exact absurd (by rw [e2]; exact fnd_key e) (hno i hi (by omega))
    rw [e] at H
    unfold s_valueAt.j1
    exact H _ _ s
theorem eqItem (a i : Int) (d : Nat) : EqV Try.prog (d + 2) 27 (.agg #[.int .i64 a, .int .i64 i]) (.agg #[.int .i64 a, .int .i64 i]) true := by
  refine .inr (.inr (.inr ⟨_, _, _, Try.underlying27, by kernel_rfl, rfl, rfl, ?_⟩))
  refine ⟨by decide, .int .i64 a, .int .i64 a, true, ⟨_, Try.underlying3, .inr ⟨by kernel_rfl, rfl⟩⟩, ⟨_, Try.underlying3, .inr ⟨by kernel_rfl, rfl⟩⟩, .inl ⟨_, _, a, a, Try.underlying3, rfl, rfl, by simp⟩, .inr ⟨rfl, ?_⟩⟩
  exact ⟨by decide, .int .i64 i, .int .i64 i, true, ⟨_, Try.underlying3, .inr ⟨by kernel_rfl, rfl⟩⟩, ⟨_, Try.underlying3, .inr ⟨by kernel_rfl, rfl⟩⟩, .inl ⟨_, _, i, i, Try.underlying3, rfl, rfl, by simp⟩, .inr ⟨rfl, rfl⟩⟩
theorem EqualI_ok {l : List It} {v1 v2 : Value} (h1 : Rdl 2 h v1 l.length (l.flatMap encA)) (h2 : Rdl 2 h v2 l.length (l.flatMap encA)) (hl : l.length ≤ 4611686018427387903) (H : Q (.bool true) h) : sl_Equal_implItemI.call #[v1, v2] h Q := by
  refine sl_Equal_implItemI.body _ _ _ _ ?_
  unfold sl_Equal_implItemI.sh
  refine h1.lenV ?_
  refine h2.lenV ?_
  refine r_cmpI ?_
  refine r_if (fun e => absurd e (by simp)) (fun _ => ?_)
  unfold sl_Equal_implItemI.j1
  refine h1.lenV ?_
  refine loop_up (n := l.length) (fun j => [.int .i64 j]) (fun j h' => h' = h) rfl ?_
  rintro j _ hj rfl K HK
  unfold sl_Equal_implItemI.l3.b
  refine r_cmpI ?_
  refine r_if (fun hlt => ?_) (fun hge => ?_)
  · have hlt : j < l.length := by simpa using hlt
    unfold sl_Equal_implItemI.j4
    refine h1.at (n := j) rfl encAl rfl rfl hlt fun b o hb => ?_
    refine hb.loadN rfl ?_
    refine h2.at (n := j) rfl encAl rfl rfl hlt fun b2 o2 hb2 => ?_
    refine hb2.loadN rfl ?_
    refine ⟨_, _, true, rfl, rfl, eqItem _ _ 9998, ?_⟩
    refine r_if (fun e => absurd e (by simp)) (fun _ => ?_)
    unfold sl_Equal_implItemI.j5
    refine r_add1 (by omega) ?_
    exact HK _ hlt rfl
  · unfold sl_Equal_implItemI.j2
    exact H
end Go.Proofs.Ytlihjljdndbpdaa.Ii
end
section
namespace Go.Proofs.Ytlihjljdndbpdaa
open Go.Hp
set_option maxRecDepth 100000
set_option maxHeartbeats 8000000
set_option linter.unusedVariables false
set_option linter.unusedSimpArgs false

/-! ### spec.ThreeWay -/
def s_ThreeWay.j1 (s8 : Value) (h : Heap) (Q : Value → Heap → Prop) : Prop :=
    Q s8 h
def s_ThreeWay.j4 (s0 : Value) (s1 : Value) (s2 : Value) (s8 : Value) (s23 : Value) (s24 : Value) (s25 : Value) (h : Heap) (K1 : List Value → Heap → Prop) (Q : Value → Heap → Prop) : Prop :=
    arith (· + ·) s25 (.int .i64 1) fun t66 =>
    K1 [s8, t66] h
def s_ThreeWay.j5 (s0 : Value) (s1 : Value) (s2 : Value) (s8 : Value) (s10 : Value) (s13 : Value) (s14 : Value) (s23 : Value) (s24 : Value) (s25 : Value) (h : Heap) (K1 : List Value → Heap → Prop) (Q : Value → Heap → Prop) : Prop :=
    ifV s14
    (fld 0 s10 fun t60 =>
    load1 t60 h fun t61 =>
    buildV [(.int .i64 0), (.int .i64 0)] [(0, 1, t61), (1, 1, s13)] fun t63 =>
    mkSl (if 1 * 2 = 0 then [] else zeros [(.int .i64 0), (.int .i64 0)] 1) 1 [(0 * 2, 2, t63)] 27 h fun t64 h =>
    app 27 2 16 [(.int .i64 0), (.int .i64 0)] s8 t64 h fun t65 h =>
    s_ThreeWay.j4 s0 s1 s2 t65 s23 s24 s25 h K1 Q)
    (s_ThreeWay.j4 s0 s1 s2 s8 s23 s24 s25 h K1 Q)
def s_ThreeWay.j3 (s0 : Value) (s1 : Value) (s2 : Value) (s8 : Value) (s23 : Value) (s24 : Value) (s25 : Value) (h : Heap) (K1 : List Value → Heap → Prop) (Q : Value → Heap → Prop) : Prop :=
    idx 2 s23 s25 fun t27 =>
    loadN 2 t27 h fun t28 =>
    alloc [(.int .i64 0), (.int .i64 0)] 27 h fun t10 h =>
    storeN 2 t10 t28 h fun h =>
    fld 0 t10 fun t31 =>
    load1 t31 h fun t32 =>
    s_valueAt.call #[s0, t32] h fun t33 h =>
    extr 0 t33 fun t34 =>
    extr 1 t33 fun t35 =>
    fld 0 t10 fun t38 =>
    load1 t38 h fun t39 =>
    s_valueAt.call #[s1, t39] h fun t40 h =>
    extr 0 t40 fun t41 =>
    extr 1 t40 fun t42 =>
    cmpI (fun a b => a == b) t41 t34 fun t45 =>
    br t45 true (eqB t42 t35 fun t49 =>
    ifV t49
    (fld 0 t10 fun t53 =>
    load1 t53 h fun t54 =>
    s_valueAt.call #[s2, t54] h fun t55 h =>
    extr 0 t55 fun t56 =>
    extr 1 t55 fun t57 =>
    s_ThreeWay.j5 s0 s1 s2 s8 t10 t56 t57 s23 s24 s25 h K1 Q)
    (s_ThreeWay.j5 s0 s1 s2 s8 t10 t41 t42 s23 s24 s25 h K1 Q)) (s_ThreeWay.j5 s0 s1 s2 s8 t10 t41 t42 s23 s24 s25 h K1 Q)
def s_ThreeWay.l2.b (c0 : Value) (c1 : Value) (c2 : Value) (c23 : Value) (c24 : Value) (s8 : Value) (s25 : Value) (h : Heap) (K1 : List Value → Heap → Prop) (Q : Value → Heap → Prop) : Prop :=
    cmpI (fun a b => decide (a < b)) s25 c24 fun t26 =>
    ifV t26
    (s_ThreeWay.j3 c0 c1 c2 s8 c23 c24 s25 h K1 Q)
    (s_ThreeWay.j1 s8 h Q)
def s_ThreeWay.sh (a0 : Value) (a1 : Value) (a2 : Value) (h : Heap) (Q : Value → Heap → Prop) : Prop :=
    mkSl (if 0 * 2 = 0 then [] else zeros [(.int .i64 0), (.int .i64 0)] 0) 0 [] 27 h fun t15 h =>
    app 27 2 16 [(.int .i64 0), (.int .i64 0)] t15 a0 h fun t17 h =>
    app 27 2 16 [(.int .i64 0), (.int .i64 0)] t17 a1 h fun t19 h =>
    app 27 2 16 [(.int .i64 0), (.int .i64 0)] t19 a2 h fun t21 h =>
    s_Tree.call #[(.slice none 0 0), t21] h fun t22 h =>
    lenV t22 fun t24 =>
    loopC (fun c s h K1 => s_ThreeWay.l2.b (c.getD 0 undef) (c.getD 1 undef) (c.getD 2 undef) (c.getD 3 undef) (c.getD 4 undef) (s.getD 0 undef) (s.getD 1 undef) h K1 Q) [a0, a1, a2, t22, t24] [(.slice none 0 0), (.int .i64 0)] h
theorem s_ThreeWay.body (a0 : Value) (a1 : Value) (a2 : Value) (h : Heap) (Q : Value → Heap → Prop) (H : s_ThreeWay.sh a0 a1 a2 h Q) : s_ThreeWay.call #[a0, a1, a2] h Q := by
  refine callsH_of (args := [a0, a1, a2]) Try.func42 rfl rfl ?_
  unfold s_ThreeWay.sh at H
  refine WPc_seq' ?_
  refine W_region (by kernel_rfl) ?_
  refine vl_n ?_
  refine H_of_R (R_assign (v := (.slice none 0 0)) rfl ?_)
  refine vl_e ?_
  refine WPc_seq' ?_
  refine W_region (by kernel_rfl) ?_
  refine vl_n ?_
  refine H_mkSl TZ_22 (by decide) rfl H rfl fun t15 h H => ?_
  refine vl_n ?_
  refine H_of_R (R_move (v := a0) rfl ?_)
  refine vl_n ?_
  refine H_app TZ_22 TU_22 H fun t17 h H => ?_
  refine vl_n ?_
  refine H_of_R (R_move (v := a1) rfl ?_)
  refine vl_n ?_
  refine H_app TZ_22 TU_22 H fun t19 h H => ?_
  refine vl_n ?_
  refine H_of_R (R_move (v := a2) rfl ?_)
  refine vl_n ?_
  refine H_app TZ_22 TU_22 H fun t21 h H => ?_
  refine vl_n ?_
  refine H_call HB_89 H fun t22 h H => ?_
  refine vl_n ?_
  refine H_of_R (R_assign (v := t22) rfl ?_)
  refine vl_e ?_
  refine WPc_seq' ?_
  refine W_region (by kernel_rfl) ?_
  refine vl_n ?_
  refine H_of_R (R_assign (v := (.slice none 0 0)) rfl ?_)
  refine vl_e ?_
  refine WPc_seq (fun e h => s_ThreeWay.j1 (e 8) h Q) ?_ (fun e h H => ?_)
  rotate_left
  · unfold s_ThreeWay.j1 at H
    refine WPc_seq' ?_
    refine W_region (by kernel_rfl) ?_
    refine vl_n ?_
    refine H_of_R (R_move (v := (e 8)) rfl ?_)
    refine vl_n ?_
    refine H_of_R (R_assign (v := (e 8)) rfl ?_)
    refine vl_e ?_
    refine WPc_ret ?_
    refine resH_of rfl ?_
    exact H
  refine WPc_seq' ?_
  refine W_region (by kernel_rfl) ?_
  refine vl_n ?_
  refine H_of_R (R_move (v := t22) rfl ?_)
  refine vl_n ?_
  refine H_of_R (R_len Try.underlying22 H fun t24 H => ?_)
  refine vl_n ?_
  refine H_of_R (R_move (v := (.int .i64 0)) rfl ?_)
  refine vl_e ?_
  refine WPc_block ?_
  refine loop_at (fun e => [e 8, e 25]) (fun e => [e 0, e 1, e 2, e 23, e 24]) H rfl rfl ?_
  intro K1 e1 h H hin1
  replace H : s_ThreeWay.l2.b (e1 0) (e1 1) (e1 2) (e1 23) (e1 24) (e1 8) (e1 25) h K1 Q := H
  unfold s_ThreeWay.l2.b at H
  clear hin1
  refine WPc_seq' ?_
  refine W_region (by kernel_rfl) ?_
  refine vl_n ?_
  refine H_of_R (R_lss H fun t26 H => ?_)
  refine vl_e ?_
  refine WPc_seq (fun e h => s_ThreeWay.j3 (e 0) (e 1) (e 2) (e 8) (e 23) (e 24) (e 25) h K1 Q ∧ [e1 0, e1 1, e1 2, e1 23, e1 24] = [e 0, e 1, e 2, e 23, e 24]) ?_ (fun e h ⟨H, hq1⟩ => ?_)
  rotate_left
  · unfold s_ThreeWay.j3 at H
    refine WPc_seq (fun e h => s_ThreeWay.j4 (e 0) (e 1) (e 2) (e 8) (e 23) (e 24) (e 25) h K1 Q ∧ [e1 0, e1 1, e1 2, e1 23, e1 24] = [e 0, e 1, e 2, e 23, e 24]) ?_ (fun e h ⟨H, hq1⟩ => ?_)
    rotate_left
    · unfold s_ThreeWay.j4 at H
      refine W_region (by kernel_rfl) ?_
      refine vl_n ?_
      refine H_of_R (R_add H fun t66 H => ?_)
      refine vl_n ?_
      refine H_of_R (R_move (v := t66) rfl ?_)
      refine vl_e ?_
      exact ⟨H, hq1⟩
    refine WPc_block ?_
    refine WPc_seq' ?_
    refine W_region (by kernel_rfl) ?_
    refine vl_n ?_
    refine H_of_R (R_idx TE_22 H fun t27 H => ?_)
    refine vl_n ?_
    refine H_of_R (R_loadN TN_27 H fun _ t28 _ _ H _ _ => ?_)
    refine vl_n ?_
    refine H_alloc TV_27 H fun t10 h H => ?_
    refine vl_n ?_
    refine H_storeN TS_27 H fun h H => ?_
    refine vl_e ?_
    refine WPc_seq' ?_
    refine W_region (by kernel_rfl) ?_
    refine vl_n ?_
    refine H_of_R (R_move (v := (e 0)) rfl ?_)
    refine vl_n ?_
    refine H_of_R (R_fld TF_27_0 H fun t31 H => ?_)
    refine vl_n ?_
    refine H_of_R (R_load1 T1_3 H fun _ t32 _ _ H => ?_)
    refine vl_n ?_
    refine H_call HB_93 H fun t33 h H => ?_
    refine vl_n ?_
    refine H_of_R (R_move (v := t33) rfl ?_)
    refine vl_n ?_
    refine H_of_R (R_ext H fun t34 H => ?_)
    refine vl_n ?_
    refine H_of_R (R_ext H fun t35 H => ?_)
    refine vl_n ?_
    refine H_of_R (R_assign (v := t34) rfl ?_)
    refine vl_n ?_
    refine H_of_R (R_assign (v := t35) rfl ?_)
    refine vl_e ?_
    refine WPc_seq' ?_
    refine W_region (by kernel_rfl) ?_
    refine vl_n ?_
    refine H_of_R (R_move (v := (e 1)) rfl ?_)
    refine vl_n ?_
    refine H_of_R (R_fld TF_27_0 H fun t38 H => ?_)
    refine vl_n ?_
    refine H_of_R (R_load1 T1_3 H fun _ t39 _ _ H => ?_)
    refine vl_n ?_
    refine H_call HB_93 H fun t40 h H => ?_
    refine vl_n ?_
    refine H_of_R (R_move (v := t40) rfl ?_)
    refine vl_n ?_
    refine H_of_R (R_ext H fun t41 H => ?_)
    refine vl_n ?_
    refine H_of_R (R_ext H fun t42 H => ?_)
    refine vl_n ?_
    refine H_of_R (R_assign (v := t41) rfl ?_)
    refine vl_n ?_
    refine H_of_R (R_assign (v := t42) rfl ?_)
    refine vl_e ?_
    refine WPc_seq (fun e h => s_ThreeWay.j5 (e 0) (e 1) (e 2) (e 8) (e 10) (e 13) (e 14) (e 23) (e 24) (e 25) h K1 Q ∧ [e1 0, e1 1, e1 2, e1 23, e1 24] = [e 0, e 1, e 2, e 23, e 24]) ?_ (fun e h ⟨H, hq1⟩ => ?_)
    rotate_left
    · unfold s_ThreeWay.j5 at H
      refine WPc_seq' ?_
      refine W_region (by kernel_rfl) ?_
      refine vl_n ?_
      refine H_of_R (R_move (v := (e 14)) rfl ?_)
      refine vl_e ?_
      obtain ⟨b, hc, H1, H2⟩ := H
      refine WPc_cond hc (fun hh => ?_) (fun hh => ?_)
      · have H := H1 hh; clear H1 H2
        refine W_region (by kernel_rfl) ?_
        refine vl_n ?_
        refine H_of_R (R_move (v := (e 8)) rfl ?_)
        refine vl_n ?_
        refine H_of_R (R_fld TF_27_0 H fun t60 H => ?_)
        refine vl_n ?_
        refine H_of_R (R_load1 T1_3 H fun _ t61 _ _ H => ?_)
        refine vl_n ?_
        refine H_of_R (R_move (v := (e 13)) rfl ?_)
        refine vl_n ?_
        refine H_of_R (R_build TB_27 rfl (by decide) H fun t63 H => ?_)
        refine vl_n ?_
        refine H_mkSl TZ_22 (by decide) rfl H rfl fun t64 h H => ?_
        refine vl_n ?_
        refine H_app TZ_22 TU_22 H fun t65 h H => ?_
        refine vl_n ?_
        refine H_of_R (R_assign (v := t65) rfl ?_)
        refine vl_e ?_
        exact ⟨H, hq1⟩
      · have H := H2 hh; clear H1 H2
        refine WPc_skip ?_
        exact ⟨H, hq1⟩
    refine WPc_seq' ?_
    refine W_region (by kernel_rfl) ?_
    refine vl_n ?_
    refine H_of_R (R_move (v := t41) rfl ?_)
    refine vl_n ?_
    refine H_of_R (R_move (v := t34) rfl ?_)
    refine vl_n ?_
    refine H_of_R (R_eqI H fun t45 H => ?_)
    refine vl_n ?_
    refine H_of_R (R_move (v := t45) rfl ?_)
    obtain ⟨b, hb, H1, H2⟩ := H
    cases b
    · have H := H2 rfl; clear H1 H2
      refine vl_s rfl (nbT hb) ?_
      refine vl_s rfl (nbT hb) ?_
      refine vl_s rfl (nbT hb) ?_
      refine vl_n ?_
      refine H_of_R (R_pickC (v := (.bool false)) false hb rfl ?_)
      refine vl_e ?_
      refine WPc_cond (t := false) rfl (fun hh => by cases hh) (fun _ => ?_)
      refine WPc_skip ?_
      exact ⟨H, hq1⟩
    · have H := H1 rfl; clear H1 H2
      refine vl_y rfl hb ?_
      refine H_of_R (R_move (v := t42) rfl ?_)
      refine vl_y rfl hb ?_
      refine H_of_R (R_move (v := t35) rfl ?_)
      refine vl_y rfl hb ?_
      refine H_of_R (R_eqB Try.underlying4 H fun t49 H => ?_)
      refine vl_n ?_
      refine H_of_R (R_pickC (v := t49) true hb rfl ?_)
      refine vl_e ?_
      obtain ⟨b_2, hc, H1, H2⟩ := H
      refine WPc_cond hc (fun hh => ?_) (fun hh => ?_)
      · have H := H1 hh; clear H1 H2
        refine W_region (by kernel_rfl) ?_
        refine vl_n ?_
        refine H_of_R (R_move (v := (e 2)) rfl ?_)
        refine vl_n ?_
        refine H_of_R (R_fld TF_27_0 H fun t53 H => ?_)
        refine vl_n ?_
        refine H_of_R (R_load1 T1_3 H fun _ t54 _ _ H => ?_)
        refine vl_n ?_
        refine H_call HB_93 H fun t55 h H => ?_
        refine vl_n ?_
        refine H_of_R (R_move (v := t55) rfl ?_)
        refine vl_n ?_
        refine H_of_R (R_ext H fun t56 H => ?_)
        refine vl_n ?_
        refine H_of_R (R_ext H fun t57 H => ?_)
        refine vl_n ?_
        refine H_of_R (R_assign (v := t56) rfl ?_)
        refine vl_n ?_
        refine H_of_R (R_assign (v := t57) rfl ?_)
        refine vl_e ?_
        exact ⟨H, hq1⟩
      · have H := H2 hh; clear H1 H2
        refine WPc_skip ?_
        exact ⟨H, hq1⟩
  obtain ⟨b, hc, H1, H2⟩ := H
  refine WPc_cond hc (fun hh => ?_) (fun hh => ?_)
  · have H := H1 hh; clear H1 H2
    refine WPc_skip ?_
    exact ⟨H, rfl⟩
  · have H := H2 hh; clear H1 H2
    refine WPc_exit ?_
    exact H
/-! ### laws.FnThreeWay -/
def l_FnThreeWay.j3 (s0 : Value) (s1 : Value) (s2 : Value) (s3 : Value) (s9 : Value) (h : Heap) (Q : Value → Heap → Prop) : Prop :=
    s_ThreeWay.call #[s1, s2, s3] h fun t100 h =>
    sl_Equal_implItemI.call #[s9, t100] h fun t101 h =>
    br t101 true (l_turnedInto.call #[s0, s2, s2] h fun t106 h =>
    lenV t106 fun t107 =>
    cmpI (fun a b => a == b) t107 (.int .i64 0) fun t108 =>
    br t108 true (l_aliveM.call #[] h fun t111 h =>
    Q t111 h) (Q (.bool false) h)) (Q (.bool false) h)
def l_FnThreeWay.j6 (s0 : Value) (s1 : Value) (s2 : Value) (s3 : Value) (s9 : Value) (s66 : Value) (s67 : Value) (s68 : Value) (h : Heap) (K1 : List Value → Heap → Prop) (Q : Value → Heap → Prop) : Prop :=
    arith (· + ·) s68 (.int .i64 1) fun t95 =>
    K1 [s9, t95] h
def l_FnThreeWay.j5 (s0 : Value) (s1 : Value) (s2 : Value) (s3 : Value) (s9 : Value) (s66 : Value) (s67 : Value) (s68 : Value) (h : Heap) (K1 : List Value → Heap → Prop) (Q : Value → Heap → Prop) : Prop :=
    idx 3 s66 s68 fun t70 =>
    loadN 3 t70 h fun t71 =>
    alloc [(.bool false), (.int .i64 0), (.int .i64 0)] 72 h fun t11 h =>
    storeN 3 t11 t71 h fun h =>
    fld 0 t11 fun t72 =>
    load1 t72 h fun t73 =>
    ifV t73
    (fld 1 t11 fun t77 =>
    fld 0 t77 fun t78 =>
    load1 t78 h fun t79 =>
    mkSl (if 1 * 1 = 0 then [] else zeros [(.int .i64 0)] 1) 1 [(0 * 1, 1, t79)] 3 h fun t80 h =>
    i_MDelete.call #[s0, s9, t80] h fun t81 h =>
    extr 0 t81 fun t82 =>
    extr 1 t81 fun t83 =>
    l_FnThreeWay.j6 s0 s1 s2 s3 t83 s66 s67 s68 h K1 Q)
    (fld 1 t11 fun t88 =>
    loadN 2 t88 h fun t89 =>
    (sl_Clone_implItemI.call #[s9] h fun t87 h =>
    stillN 2 t88 t89 h ∧ mkSl (if 1 * 2 = 0 then [] else zeros [(.int .i64 0), (.int .i64 0)] 1) 1 [(0 * 2, 2, t89)] 27 h fun t90 h =>
    app 27 2 16 [(.int .i64 0), (.int .i64 0)] t87 t90 h fun t91 h =>
    i_MSet.call #[s0, t91] h fun t92 h =>
    extr 0 t92 fun t93 =>
    extr 1 t92 fun t94 =>
    l_FnThreeWay.j6 s0 s1 s2 s3 t94 s66 s67 s68 h K1 Q) ∧
    (mkSl (if 1 * 2 = 0 then [] else zeros [(.int .i64 0), (.int .i64 0)] 1) 1 [(0 * 2, 2, t89)] 27 h fun t90_2 h =>
    sl_Clone_implItemI.call #[s9] h fun t87_2 h =>
    app 27 2 16 [(.int .i64 0), (.int .i64 0)] t87_2 t90_2 h fun t91_2 h =>
    i_MSet.call #[s0, t91_2] h fun t92_2 h =>
    extr 0 t92_2 fun t93_2 =>
    extr 1 t92_2 fun t94_2 =>
    l_FnThreeWay.j6 s0 s1 s2 s3 t94_2 s66 s67 s68 h K1 Q))
def l_FnThreeWay.l4.b (c0 : Value) (c1 : Value) (c2 : Value) (c3 : Value) (c66 : Value) (c67 : Value) (s9 : Value) (s68 : Value) (h : Heap) (K1 : List Value → Heap → Prop) (Q : Value → Heap → Prop) : Prop :=
    cmpI (fun a b => decide (a < b)) s68 c67 fun t69 =>
    ifV t69
    (l_FnThreeWay.j5 c0 c1 c2 c3 s9 c66 c67 s68 h K1 Q)
    (l_FnThreeWay.j3 c0 c1 c2 c3 s9 h Q)
def l_FnThreeWay.j2 (s0 : Value) (s1 : Value) (s2 : Value) (s3 : Value) (h : Heap) (Q : Value → Heap → Prop) : Prop :=
    i_MSet.call #[s0, s1] h fun t47 h =>
    extr 0 t47 fun t48 =>
    extr 1 t47 fun t49 =>
    i_MSet.call #[s0, s2] h fun t53 h =>
    extr 0 t53 fun t54 =>
    extr 1 t53 fun t55 =>
    i_MSet.call #[s0, s3] h fun t59 h =>
    extr 0 t59 fun t60 =>
    extr 1 t59 fun t61 =>
    l_turnedInto.call #[s0, t49, t55] h fun t66 h =>
    lenV t66 fun t67 =>
    loopC (fun c s h K1 => l_FnThreeWay.l4.b (c.getD 0 undef) (c.getD 1 undef) (c.getD 2 undef) (c.getD 3 undef) (c.getD 4 undef) (c.getD 5 undef) (s.getD 0 undef) (s.getD 1 undef) h K1 Q) [s0, t49, t55, t61, t66, t67] [t61, (.int .i64 0)] h
def l_FnThreeWay.j1 (s0 : Value) (s1 : Value) (s2 : Value) (s3 : Value) (h : Heap) (Q : Value → Heap → Prop) : Prop :=
    l_fit.call #[s0] h fun t26 h =>
    notV t26 fun t27 =>
    br t27 false (lenV s1 fun t30 =>
    cmpI (fun a b => decide (a > b)) t30 (.int .i64 40) fun t31 =>
    br t31 false (lenV s2 fun t35 =>
    cmpI (fun a b => decide (a > b)) t35 (.int .i64 40) fun t36 =>
    br t36 false (lenV s3 fun t40 =>
    cmpI (fun a b => decide (a > b)) t40 (.int .i64 40) fun t41 =>
    ifV t41
    (l_aliveM.call #[] h fun t43 h =>
    Q t43 h)
    (l_FnThreeWay.j2 s0 s1 s2 s3 h Q)) (l_aliveM.call #[] h fun t43_2 h =>
    Q t43_2 h)) (l_aliveM.call #[] h fun t43_3 h =>
    Q t43_3 h)) (l_aliveM.call #[] h fun t43_4 h =>
    Q t43_4 h)
def l_FnThreeWay.sh (a0 : Value) (a1 : Value) (a2 : Value) (a3 : Value) (h : Heap) (Q : Value → Heap → Prop) : Prop :=
    lenV a1 fun t13 =>
    cmpI (fun a b => decide (a > b)) t13 (.int .i64 2147483647) fun t14 =>
    br t14 false (lenV a2 fun t17 =>
    cmpI (fun a b => decide (a > b)) t17 (.int .i64 2147483647) fun t18 =>
    br t18 false (lenV a3 fun t22 =>
    cmpI (fun a b => decide (a > b)) t22 (.int .i64 2147483647) fun t23 =>
    ifV t23
    (Q (.bool true) h)
    (l_FnThreeWay.j1 a0 a1 a2 a3 h Q)) (Q (.bool true) h)) (Q (.bool true) h)
theorem l_FnThreeWay.body (a0 : Value) (a1 : Value) (a2 : Value) (a3 : Value) (h : Heap) (Q : Value → Heap → Prop) (H : l_FnThreeWay.sh a0 a1 a2 a3 h Q) : l_FnThreeWay.call #[a0, a1, a2, a3] h Q := by
  refine callsH_of (args := [a0, a1, a2, a3]) Try.func8 rfl rfl ?_
  unfold l_FnThreeWay.sh at H
  refine WPc_seq' ?_
  refine W_region (by kernel_rfl) ?_
  refine vl_n ?_
  refine H_of_R (R_assign (v := (.bool false)) rfl ?_)
  refine vl_e ?_
  refine WPc_seq (fun e h => l_FnThreeWay.j1 (e 0) (e 1) (e 2) (e 3) h Q) ?_ (fun e h H => ?_)
  rotate_left
  · unfold l_FnThreeWay.j1 at H
    refine WPc_seq (fun e h => l_FnThreeWay.j2 (e 0) (e 1) (e 2) (e 3) h Q) ?_ (fun e h H => ?_)
    rotate_left
    · unfold l_FnThreeWay.j2 at H
      refine WPc_seq' ?_
      refine W_region (by kernel_rfl) ?_
      refine vl_n ?_
      refine H_of_R (R_move (v := (e 0)) rfl ?_)
      refine vl_n ?_
      refine H_of_R (R_move (v := (e 1)) rfl ?_)
      refine vl_n ?_
      refine H_call HB_37 H fun t47 h H => ?_
      refine vl_n ?_
      refine H_of_R (R_move (v := t47) rfl ?_)
      refine vl_n ?_
      refine H_of_R (R_ext H fun t48 H => ?_)
      refine vl_n ?_
      refine H_of_R (R_ext H fun t49 H => ?_)
      refine vl_n ?_
      refine H_of_R (R_assign (v := t49) rfl ?_)
      refine vl_e ?_
      refine WPc_seq' ?_
      refine W_region (by kernel_rfl) ?_
      refine vl_n ?_
      refine H_of_R (R_move (v := (e 0)) rfl ?_)
      refine vl_n ?_
      refine H_of_R (R_move (v := (e 2)) rfl ?_)
      refine vl_n ?_
      refine H_call HB_37 H fun t53 h H => ?_
      refine vl_n ?_
      refine H_of_R (R_move (v := t53) rfl ?_)
      refine vl_n ?_
      refine H_of_R (R_ext H fun t54 H => ?_)
      refine vl_n ?_
      refine H_of_R (R_ext H fun t55 H => ?_)
      refine vl_n ?_
      refine H_of_R (R_assign (v := t55) rfl ?_)
      refine vl_e ?_
      refine WPc_seq' ?_
      refine W_region (by kernel_rfl) ?_
      refine vl_n ?_
      refine H_of_R (R_move (v := (e 0)) rfl ?_)
      refine vl_n ?_
      refine H_of_R (R_move (v := (e 3)) rfl ?_)
      refine vl_n ?_
      refine H_call HB_37 H fun t59 h H => ?_
      refine vl_n ?_
      refine H_of_R (R_move (v := t59) rfl ?_)
      refine vl_n ?_
      refine H_of_R (R_ext H fun t60 H => ?_)
      refine vl_n ?_
      refine H_of_R (R_ext H fun t61 H => ?_)
      refine vl_n ?_
      refine H_of_R (R_assign (v := t61) rfl ?_)
      refine vl_e ?_
      refine WPc_seq' ?_
      refine W_region (by kernel_rfl) ?_
      refine vl_n ?_
      refine H_of_R (R_move (v := t61) rfl ?_)
      refine vl_n ?_
      refine H_of_R (R_assign (v := t61) rfl ?_)
      refine vl_e ?_
      refine WPc_seq (fun e h => l_FnThreeWay.j3 (e 0) (e 1) (e 2) (e 3) (e 9) h Q) ?_ (fun e h H => ?_)
      rotate_left
      · unfold l_FnThreeWay.j3 at H
        refine WPc_seq' ?_
        refine W_region (by kernel_rfl) ?_
        refine vl_n ?_
        refine H_of_R (R_move (v := (e 9)) rfl ?_)
        refine vl_n ?_
        refine H_of_R (R_move (v := (e 1)) rfl ?_)
        refine vl_n ?_
        refine H_of_R (R_move (v := (e 2)) rfl ?_)
        refine vl_n ?_
        refine H_of_R (R_move (v := (e 3)) rfl ?_)
        refine vl_n ?_
        refine H_call HB_42 H fun t100 h H => ?_
        refine vl_n ?_
        refine H_call HB_41 H fun t101 h H => ?_
        refine vl_n ?_
        refine H_of_R (R_move (v := t101) rfl ?_)
        obtain ⟨b, hb, H1, H2⟩ := H
        cases b
        · have H := H2 rfl; clear H1 H2
          refine vl_s rfl (nbT hb) ?_
          refine vl_s rfl (nbT hb) ?_
          refine vl_s rfl (nbT hb) ?_
          refine vl_s rfl (nbT hb) ?_
          refine vl_s rfl (nbT hb) ?_
          refine vl_s rfl (nbT hb) ?_
          refine vl_n ?_
          refine H_of_R (R_pickC (v := (.bool false)) false hb rfl ?_)
          refine vl_n ?_
          refine H_of_R (R_move (v := (.bool false)) rfl ?_)
          refine vl_s rfl (nbT rfl) ?_
          refine vl_n ?_
          refine H_of_R (R_pickC (v := (.bool false)) false rfl rfl ?_)
          refine vl_n ?_
          refine H_of_R (R_assign (v := (.bool false)) rfl ?_)
          refine vl_e ?_
          refine WPc_ret ?_
          refine resH_of rfl ?_
          exact H
        · have H := H1 rfl; clear H1 H2
          refine vl_y rfl hb ?_
          refine H_of_R (R_move (v := (e 0)) rfl ?_)
          refine vl_y rfl hb ?_
          refine H_of_R (R_move (v := (e 2)) rfl ?_)
          refine vl_y rfl hb ?_
          refine H_of_R (R_move (v := (e 2)) rfl ?_)
          refine vl_y rfl hb ?_
          refine H_call HB_38 H fun t106 h H => ?_
          refine vl_y rfl hb ?_
          refine H_of_R (R_len Try.underlying69 H fun t107 H => ?_)
          refine vl_y rfl hb ?_
          refine H_of_R (R_eqI H fun t108 H => ?_)
          refine vl_n ?_
          refine H_of_R (R_pickC (v := t108) true hb rfl ?_)
          refine vl_n ?_
          refine H_of_R (R_move (v := t108) rfl ?_)
          obtain ⟨b_2, hb_2, H1, H2⟩ := H
          cases b_2
          · have H := H2 rfl; clear H1 H2
            refine vl_s rfl (nbT hb_2) ?_
            refine vl_n ?_
            refine H_of_R (R_pickC (v := (.bool false)) false hb_2 rfl ?_)
            refine vl_n ?_
            refine H_of_R (R_assign (v := (.bool false)) rfl ?_)
            refine vl_e ?_
            refine WPc_ret ?_
            refine resH_of rfl ?_
            exact H
          · have H := H1 rfl; clear H1 H2
            refine vl_y rfl hb_2 ?_
            refine H_call HB_26 H fun t111 h H => ?_
            refine vl_n ?_
            refine H_of_R (R_pickC (v := t111) true hb_2 rfl ?_)
            refine vl_n ?_
            refine H_of_R (R_assign (v := t111) rfl ?_)
            refine vl_e ?_
            refine WPc_ret ?_
            refine resH_of rfl ?_
            exact H
      refine WPc_seq' ?_
      refine W_region (by kernel_rfl) ?_
      refine vl_n ?_
      refine H_of_R (R_move (v := (e 0)) rfl ?_)
      refine vl_n ?_
      refine H_of_R (R_move (v := t49) rfl ?_)
      refine vl_n ?_
      refine H_of_R (R_move (v := t55) rfl ?_)
      refine vl_n ?_
      refine H_call HB_38 H fun t66 h H => ?_
      refine vl_n ?_
      refine H_of_R (R_len Try.underlying69 H fun t67 H => ?_)
      refine vl_n ?_
      refine H_of_R (R_move (v := (.int .i64 0)) rfl ?_)
      refine vl_e ?_
      refine WPc_block ?_
      refine loop_at (fun e => [e 9, e 68]) (fun e => [e 0, e 1, e 2, e 3, e 66, e 67]) H rfl rfl ?_
      intro K1 e1 h H hin1
      replace H : l_FnThreeWay.l4.b (e1 0) (e1 1) (e1 2) (e1 3) (e1 66) (e1 67) (e1 9) (e1 68) h K1 Q := H
      unfold l_FnThreeWay.l4.b at H
      clear hin1
      refine WPc_seq' ?_
      refine W_region (by kernel_rfl) ?_
      refine vl_n ?_
      refine H_of_R (R_lss H fun t69 H => ?_)
      refine vl_e ?_
      refine WPc_seq (fun e h => l_FnThreeWay.j5 (e 0) (e 1) (e 2) (e 3) (e 9) (e 66) (e 67) (e 68) h K1 Q ∧ [e1 0, e1 1, e1 2, e1 3, e1 66, e1 67] = [e 0, e 1, e 2, e 3, e 66, e 67]) ?_ (fun e h ⟨H, hq1⟩ => ?_)
      rotate_left
      · unfold l_FnThreeWay.j5 at H
        refine WPc_seq (fun e h => l_FnThreeWay.j6 (e 0) (e 1) (e 2) (e 3) (e 9) (e 66) (e 67) (e 68) h K1 Q ∧ [e1 0, e1 1, e1 2, e1 3, e1 66, e1 67] = [e 0, e 1, e 2, e 3, e 66, e 67]) ?_ (fun e h ⟨H, hq1⟩ => ?_)
        rotate_left
        · unfold l_FnThreeWay.j6 at H
          refine W_region (by kernel_rfl) ?_
          refine vl_n ?_
          refine H_of_R (R_add H fun t95 H => ?_)
          refine vl_n ?_
          refine H_of_R (R_move (v := t95) rfl ?_)
          refine vl_e ?_
          exact ⟨H, hq1⟩
        refine WPc_block ?_
        refine WPc_seq' ?_
        refine W_region (by kernel_rfl) ?_
        refine vl_n ?_
        refine H_of_R (R_idx TE_69 H fun t70 H => ?_)
        refine vl_n ?_
        refine H_of_R (R_loadN TN_72 H fun _ t71 _ _ H _ _ => ?_)
        refine vl_n ?_
        refine H_alloc TV_72 H fun t11 h H => ?_
        refine vl_n ?_
        refine H_storeN TS_72 H fun h H => ?_
        refine vl_e ?_
        refine WPc_seq' ?_
        refine W_region (by kernel_rfl) ?_
        refine vl_n ?_
        refine H_of_R (R_fld TF_72_0 H fun t72 H => ?_)
        refine vl_n ?_
        refine H_of_R (R_load1 T1_4 H fun _ t73 _ _ H => ?_)
        refine vl_e ?_
        obtain ⟨b, hc, H1, H2⟩ := H
        refine WPc_cond hc (fun hh => ?_) (fun hh => ?_)
        · have H := H1 hh; clear H1 H2
          refine W_region (by kernel_rfl) ?_
          refine vl_n ?_
          refine H_of_R (R_move (v := (e 0)) rfl ?_)
          refine vl_n ?_
          refine H_of_R (R_move (v := (e 9)) rfl ?_)
          refine vl_n ?_
          refine H_of_R (R_fld TF_72_1 H fun t77 H => ?_)
          refine vl_n ?_
          refine H_of_R (R_fld TF_27_0 H fun t78 H => ?_)
          refine vl_n ?_
          refine H_of_R (R_load1 T1_3 H fun _ t79 _ _ H => ?_)
          refine vl_n ?_
          refine H_mkSl TZ_37 (by decide) rfl H rfl fun t80 h H => ?_
          refine vl_n ?_
          refine H_call HB_39 H fun t81 h H => ?_
          refine vl_n ?_
          refine H_of_R (R_move (v := t81) rfl ?_)
          refine vl_n ?_
          refine H_of_R (R_ext H fun t82 H => ?_)
          refine vl_n ?_
          refine H_of_R (R_ext H fun t83 H => ?_)
          refine vl_n ?_
          refine H_of_R (R_assign (v := t83) rfl ?_)
          refine vl_e ?_
          exact ⟨H, hq1⟩
        · have H := H2 hh; clear H1 H2
          refine W_drawn [0, 0, 2, 0, 8, 24, 62, 127, 255, 511, 511, 2047] (.take 0 (.take 1 (.take 3 (.take 4 (.alt 2 (.alt 5 (.alt 6 (.alt 7 (.take 8 (.take 9 (.take 10 (.take 11 .done)))) .none) .none) .none) (.alt 5 (.alt 2 (.alt 6 (.alt 7 (.take 8 (.take 9 (.take 10 (.take 11 .done)))) .none) .none) .none) .none)))))) mixed (by kernel_rfl) ?_
          refine tkP rfl ?_
          refine R_move (v := (e 0)) rfl ⟨fun _ => trivial, ?_⟩
          refine tkP rfl ?_
          refine R_move (v := (e 9)) rfl ⟨fun _ => trivial, ?_⟩
          refine tkP rfl ?_
          refine R_fld TF_72_1 H fun t88 H => ⟨fun _ => trivial, ?_⟩
          refine tkL rfl ?_
          refine R_loadN TN_27 H fun at89 xt89 hat89 _ H St89 hSt89 => ?_
          obtain ⟨HA0, HA1⟩ := H
          refine alt_n rfl ?_ ?_
          · have H := HA0; clear HA0 HA1
            refine H_call HB_40 H fun t87 h ⟨S, H⟩ => ⟨(hcons rfl (hSt89 _ (still_N S hat89 rfl)) hnil), ?_⟩
            refine alt_n rfl ?_ vp_none
            refine H_mkSl TZ_22 (by decide) rfl H rfl fun t90 h H => ⟨(hskip rfl hnil), ?_⟩
            refine alt_n rfl ?_ vp_none
            refine H_app TZ_22 TU_22 H fun t91 h H => ⟨hnil, ?_⟩
            refine alt_n rfl ?_ vp_none
            refine H_call HB_37 H fun t92 h H => ⟨hnil, ?_⟩
            refine tkP rfl ?_
            refine R_move (v := t92) rfl ⟨fun _ => trivial, ?_⟩
            refine tkP rfl ?_
            refine R_ext H fun t93 H => ⟨fun _ => trivial, ?_⟩
            refine tkP rfl ?_
            refine R_ext H fun t94 H => ⟨fun _ => trivial, ?_⟩
            refine tkP rfl ?_
            refine R_assign (v := t94) rfl ⟨fun _ => trivial, ?_⟩
            refine vp_done ?_
            exact ⟨H, hq1⟩
          refine alt_n rfl ?_ vp_none
          have H := HA1; clear HA0 HA1
          refine H_mkSl TZ_22 (by decide) rfl H rfl fun t90_2 h H => ⟨(hskip rfl hnil), ?_⟩
          refine alt_n rfl ?_ vp_none
          refine H_call HB_40 H fun t87_2 h H => ⟨hnil, ?_⟩
          refine alt_n rfl ?_ vp_none
          refine H_app TZ_22 TU_22 H fun t91_2 h H => ⟨hnil, ?_⟩
          refine alt_n rfl ?_ vp_none
          refine H_call HB_37 H fun t92_2 h H => ⟨hnil, ?_⟩
          refine tkP rfl ?_
          refine R_move (v := t92_2) rfl ⟨fun _ => trivial, ?_⟩
          refine tkP rfl ?_
          refine R_ext H fun t93_2 H => ⟨fun _ => trivial, ?_⟩
          refine tkP rfl ?_
          refine R_ext H fun t94_2 H => ⟨fun _ => trivial, ?_⟩
          refine tkP rfl ?_
          refine R_assign (v := t94_2) rfl ⟨fun _ => trivial, ?_⟩
          refine vp_done ?_
          exact ⟨H, hq1⟩
      obtain ⟨b, hc, H1, H2⟩ := H
      refine WPc_cond hc (fun hh => ?_) (fun hh => ?_)
      · have H := H1 hh; clear H1 H2
        refine WPc_skip ?_
        exact ⟨H, rfl⟩
      · have H := H2 hh; clear H1 H2
        refine WPc_exit ?_
        exact H
    refine WPc_seq' ?_
    refine W_region (by kernel_rfl) ?_
    refine vl_n ?_
    refine H_of_R (R_move (v := (e 0)) rfl ?_)
    refine vl_n ?_
    refine H_call HB_25 H fun t26 h H => ?_
    refine vl_n ?_
    refine H_of_R (R_not H fun t27 H => ?_)
    refine vl_n ?_
    refine H_of_R (R_move (v := t27) rfl ?_)
    obtain ⟨b, hb, H1, H2⟩ := H
    cases b
    · have H := H1 rfl; clear H1 H2
      refine vl_y rfl hb ?_
      refine H_of_R (R_move (v := (e 1)) rfl ?_)
      refine vl_y rfl hb ?_
      refine H_of_R (R_len Try.underlying22 H fun t30 H => ?_)
      refine vl_y rfl hb ?_
      refine H_of_R (R_gtr H fun t31 H => ?_)
      refine vl_n ?_
      refine H_of_R (R_pickC (v := t31) false hb rfl ?_)
      refine vl_n ?_
      refine H_of_R (R_move (v := t31) rfl ?_)
      obtain ⟨b_2, hb_2, H1, H2⟩ := H
      cases b_2
      · have H := H1 rfl; clear H1 H2
        refine vl_y rfl hb_2 ?_
        refine H_of_R (R_move (v := (e 2)) rfl ?_)
        refine vl_y rfl hb_2 ?_
        refine H_of_R (R_len Try.underlying22 H fun t35 H => ?_)
        refine vl_y rfl hb_2 ?_
        refine H_of_R (R_gtr H fun t36 H => ?_)
        refine vl_n ?_
        refine H_of_R (R_pickC (v := t36) false hb_2 rfl ?_)
        refine vl_n ?_
        refine H_of_R (R_move (v := t36) rfl ?_)
        obtain ⟨b_3, hb_3, H1, H2⟩ := H
        cases b_3
        · have H := H1 rfl; clear H1 H2
          refine vl_y rfl hb_3 ?_
          refine H_of_R (R_move (v := (e 3)) rfl ?_)
          refine vl_y rfl hb_3 ?_
          refine H_of_R (R_len Try.underlying22 H fun t40 H => ?_)
          refine vl_y rfl hb_3 ?_
          refine H_of_R (R_gtr H fun t41 H => ?_)
          refine vl_n ?_
          refine H_of_R (R_pickC (v := t41) false hb_3 rfl ?_)
          refine vl_e ?_
          obtain ⟨b_4, hc, H1, H2⟩ := H
          refine WPc_cond hc (fun hh => ?_) (fun hh => ?_)
          · have H := H1 hh; clear H1 H2
            refine WPc_seq' ?_
            refine W_region (by kernel_rfl) ?_
            refine vl_n ?_
            refine H_call HB_26 H fun t43 h H => ?_
            refine vl_n ?_
            refine H_of_R (R_assign (v := t43) rfl ?_)
            refine vl_e ?_
            refine WPc_ret ?_
            refine resH_of rfl ?_
            exact H
          · have H := H2 hh; clear H1 H2
            refine WPc_skip ?_
            exact H
        · have H := H2 rfl; clear H1 H2
          refine vl_s rfl (nbF hb_3) ?_
          refine vl_s rfl (nbF hb_3) ?_
          refine vl_s rfl (nbF hb_3) ?_
          refine vl_n ?_
          refine H_of_R (R_pickC (v := (.bool true)) true hb_3 rfl ?_)
          refine vl_e ?_
          refine WPc_cond (t := true) rfl (fun _ => ?_) (fun hh => by cases hh)
          refine WPc_seq' ?_
          refine W_region (by kernel_rfl) ?_
          refine vl_n ?_
          refine H_call HB_26 H fun t43_2 h H => ?_
          refine vl_n ?_
          refine H_of_R (R_assign (v := t43_2) rfl ?_)
          refine vl_e ?_
          refine WPc_ret ?_
          refine resH_of rfl ?_
          exact H
      · have H := H2 rfl; clear H1 H2
        refine vl_s rfl (nbF hb_2) ?_
        refine vl_s rfl (nbF hb_2) ?_
        refine vl_s rfl (nbF hb_2) ?_
        refine vl_n ?_
        refine H_of_R (R_pickC (v := (.bool true)) true hb_2 rfl ?_)
        refine vl_n ?_
        refine H_of_R (R_move (v := (.bool true)) rfl ?_)
        refine vl_s rfl (nbF rfl) ?_
        refine vl_s rfl (nbF rfl) ?_
        refine vl_s rfl (nbF rfl) ?_
        refine vl_n ?_
        refine H_of_R (R_pickC (v := (.bool true)) true rfl rfl ?_)
        refine vl_e ?_
        refine WPc_cond (t := true) rfl (fun _ => ?_) (fun hh => by cases hh)
        refine WPc_seq' ?_
        refine W_region (by kernel_rfl) ?_
        refine vl_n ?_
        refine H_call HB_26 H fun t43_3 h H => ?_
        refine vl_n ?_
        refine H_of_R (R_assign (v := t43_3) rfl ?_)
        refine vl_e ?_
        refine WPc_ret ?_
        refine resH_of rfl ?_
        exact H
    · have H := H2 rfl; clear H1 H2
      refine vl_s rfl (nbF hb) ?_
      refine vl_s rfl (nbF hb) ?_
      refine vl_s rfl (nbF hb) ?_
      refine vl_n ?_
      refine H_of_R (R_pickC (v := (.bool true)) true hb rfl ?_)
      refine vl_n ?_
      refine H_of_R (R_move (v := (.bool true)) rfl ?_)
      refine vl_s rfl (nbF rfl) ?_
      refine vl_s rfl (nbF rfl) ?_
      refine vl_s rfl (nbF rfl) ?_
      refine vl_n ?_
      refine H_of_R (R_pickC (v := (.bool true)) true rfl rfl ?_)
      refine vl_n ?_
      refine H_of_R (R_move (v := (.bool true)) rfl ?_)
      refine vl_s rfl (nbF rfl) ?_
      refine vl_s rfl (nbF rfl) ?_
      refine vl_s rfl (nbF rfl) ?_
      refine vl_n ?_
      refine H_of_R (R_pickC (v := (.bool true)) true rfl rfl ?_)
      refine vl_e ?_
      refine WPc_cond (t := true) rfl (fun _ => ?_) (fun hh => by cases hh)
      refine WPc_seq' ?_
      refine W_region (by kernel_rfl) ?_
      refine vl_n ?_
      refine H_call HB_26 H fun t43_4 h H => ?_
      refine vl_n ?_
      refine H_of_R (R_assign (v := t43_4) rfl ?_)
      refine vl_e ?_
      refine WPc_ret ?_
      refine resH_of rfl ?_
      exact H
  refine WPc_seq' ?_
  refine W_region (by kernel_rfl) ?_
  refine vl_n ?_
  refine H_of_R (R_move (v := a1) rfl ?_)
  refine vl_n ?_
  refine H_of_R (R_len Try.underlying22 H fun t13 H => ?_)
  refine vl_n ?_
  refine H_of_R (R_gtr H fun t14 H => ?_)
  refine vl_n ?_
  refine H_of_R (R_move (v := t14) rfl ?_)
  obtain ⟨b, hb, H1, H2⟩ := H
  cases b
  · have H := H1 rfl; clear H1 H2
    refine vl_y rfl hb ?_
    refine H_of_R (R_move (v := a2) rfl ?_)
    refine vl_y rfl hb ?_
    refine H_of_R (R_len Try.underlying22 H fun t17 H => ?_)
    refine vl_y rfl hb ?_
    refine H_of_R (R_gtr H fun t18 H => ?_)
    refine vl_n ?_
    refine H_of_R (R_pickC (v := t18) false hb rfl ?_)
    refine vl_n ?_
    refine H_of_R (R_move (v := t18) rfl ?_)
    obtain ⟨b_2, hb_2, H1, H2⟩ := H
    cases b_2
    · have H := H1 rfl; clear H1 H2
      refine vl_y rfl hb_2 ?_
      refine H_of_R (R_move (v := a3) rfl ?_)
      refine vl_y rfl hb_2 ?_
      refine H_of_R (R_len Try.underlying22 H fun t22 H => ?_)
      refine vl_y rfl hb_2 ?_
      refine H_of_R (R_gtr H fun t23 H => ?_)
      refine vl_n ?_
      refine H_of_R (R_pickC (v := t23) false hb_2 rfl ?_)
      refine vl_e ?_
      obtain ⟨b_3, hc, H1, H2⟩ := H
      refine WPc_cond hc (fun hh => ?_) (fun hh => ?_)
      · have H := H1 hh; clear H1 H2
        refine WPc_seq' ?_
        refine W_region (by kernel_rfl) ?_
        refine vl_n ?_
        refine H_of_R (R_assign (v := (.bool true)) rfl ?_)
        refine vl_e ?_
        refine WPc_ret ?_
        refine resH_of rfl ?_
        exact H
      · have H := H2 hh; clear H1 H2
        refine WPc_skip ?_
        exact H
    · have H := H2 rfl; clear H1 H2
      refine vl_s rfl (nbF hb_2) ?_
      refine vl_s rfl (nbF hb_2) ?_
      refine vl_s rfl (nbF hb_2) ?_
      refine vl_n ?_
      refine H_of_R (R_pickC (v := (.bool true)) true hb_2 rfl ?_)
      refine vl_e ?_
      refine WPc_cond (t := true) rfl (fun _ => ?_) (fun hh => by cases hh)
      refine WPc_seq' ?_
      refine W_region (by kernel_rfl) ?_
      refine vl_n ?_
      refine H_of_R (R_assign (v := (.bool true)) rfl ?_)
      refine vl_e ?_
      refine WPc_ret ?_
      refine resH_of rfl ?_
      exact H
  · have H := H2 rfl; clear H1 H2
    refine vl_s rfl (nbF hb) ?_
    refine vl_s rfl (nbF hb) ?_
    refine vl_s rfl (nbF hb) ?_
    refine vl_n ?_
    refine H_of_R (R_pickC (v := (.bool true)) true hb rfl ?_)
    refine vl_n ?_
    refine H_of_R (R_move (v := (.bool true)) rfl ?_)
    refine vl_s rfl (nbF rfl) ?_
    refine vl_s rfl (nbF rfl) ?_
    refine vl_s rfl (nbF rfl) ?_
    refine vl_n ?_
    refine H_of_R (R_pickC (v := (.bool true)) true rfl rfl ?_)
    refine vl_e ?_
    refine WPc_cond (t := true) rfl (fun _ => ?_) (fun hh => by cases hh)
    refine WPc_seq' ?_
    refine W_region (by kernel_rfl) ?_
    refine vl_n ?_
    refine H_of_R (R_assign (v := (.bool true)) rfl ?_)
    refine vl_e ?_
    refine WPc_ret ?_
    refine resH_of rfl ?_
    exact H

end Go.Proofs.Ytlihjljdndbpdaa
end
