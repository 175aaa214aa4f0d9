/-
  Shallow forms of the walked functions, and that each call comes to its form. Written by a program of this repo (gen.py). Conditions: none.
-/
import Derived.Test.YtlihjljdndbpdaaST
namespace Go.Proofs.Ytlihjljdndbpdaa
open Go.Hp
set_option maxRecDepth 100000
set_option maxHeartbeats 8000000
set_option linter.unusedVariables false
set_option linter.unusedSimpArgs false

/-! ### (*pub/tidwallbtree.Map[int, int]).nodeSet -/
def Map_ii_nodeSet.j4 (s6 : Value) (s7 : Value) (h : Heap) (Q : Value → Heap → Prop) : Prop :=
    Q (.tuple #[s6, s7, (.bool false)]) h
def Map_ii_nodeSet.j3 (s6 : Value) (s7 : Value) (s9 : Value) (h : Heap) (Q : Value → Heap → Prop) : Prop :=
    notV s7 fun t232 =>
    ifV t232
    (load1 s9 h fun t233 =>
    nilck t233 fun t234 =>
    fld 1 t234 fun t235 =>
    load1 t235 h fun t236 =>
    arith (· + ·) t236 (.int .i64 1) fun t237 =>
    nilck t233 fun t238 =>
    fld 1 t238 fun t239 =>
    store1 t239 t237 h fun h =>
    Map_ii_nodeSet.j4 s6 s7 h Q)
    (Map_ii_nodeSet.j4 s6 s7 h Q)
def Map_ii_nodeSet.j5 (s0 : Value) (s5 : Value) (s9 : Value) (s10 : Value) (h : Heap) (Q : Value → Heap → Prop) : Prop :=
    load1 s9 h fun t138 =>
    nilck t138 fun t139 =>
    fld 3 t139 fun t140 =>
    load1 t140 h fun t141 =>
    nilck t141 fun t142 =>
    load1 t142 h fun t143 =>
    idx 1 t143 s10 fun t145 =>
    load1 t145 h fun t146 =>
    Map_ii_nodeSplit.call #[s0, t146] h fun t147 h =>
    extr 0 t147 fun t148 =>
    extr 1 t147 fun t149 =>
    alloc [(.int .i64 0), (.int .i64 0)] 178 h fun t13 h =>
    storeN 2 t13 t149 h fun h =>
    load1 s9 h fun t150 =>
    nilck t150 fun t151 =>
    fld 3 t151 fun t152 =>
    load1 t152 h fun t153 =>
    load1 s9 h fun t154 =>
    nilck t154 fun t155 =>
    fld 3 t155 fun t156 =>
    load1 t156 h fun t157 =>
    nilck t157 fun t158 =>
    load1 t158 h fun t159 =>
    mkSl (if 1 * 1 = 0 then [] else zeros [(.pointer none)] 1) 1 [(0 * 1, 1, (.pointer none))] 173 h fun t160 h =>
    still1 s9 t150 h ∧ still1 t152 t153 h ∧ still1 s9 t154 h ∧ still1 t156 t157 h ∧ still1 t158 t159 h ∧ app 173 1 8 [(.pointer none)] t159 t160 h fun t161 h =>
    still1 s9 t150 h ∧ still1 t152 t153 h ∧ nilck t153 fun t162 =>
    store1 t162 t161 h fun h =>
    load1 s9 h fun t163 =>
    nilck t163 fun t164 =>
    fld 3 t164 fun t165 =>
    load1 t165 h fun t166 =>
    nilck t166 fun t167 =>
    load1 t167 h fun t168 =>
    arith (· + ·) s10 (.int .i64 1) fun t170 =>
    slc 1 t168 (some t170) none none fun t171 =>
    load1 s9 h fun t172 =>
    nilck t172 fun t173 =>
    fld 3 t173 fun t174 =>
    load1 t174 h fun t175 =>
    nilck t175 fun t176 =>
    load1 t176 h fun t177 =>
    slc 1 t177 (some s10) none none fun t179 =>
    cpy 1 t171 t179 h fun t180 h =>
    load1 s9 h fun t181 =>
    nilck t181 fun t182 =>
    fld 3 t182 fun t183 =>
    load1 t183 h fun t184 =>
    nilck t184 fun t185 =>
    load1 t185 h fun t186 =>
    arith (· + ·) s10 (.int .i64 1) fun t188 =>
    idx 1 t186 t188 fun t190 =>
    store1 t190 t148 h fun h =>
    load1 s9 h fun t191 =>
    load1 s9 h fun t192 =>
    nilck t192 fun t193 =>
    fld 2 t193 fun t194 =>
    load1 t194 h fun t195 =>
    nilck s0 fun t197 =>
    fld 4 t197 fun t198 =>
    loadN 2 t198 h fun t199 =>
    mkSl (if 1 * 2 = 0 then [] else zeros [(.int .i64 0), (.int .i64 0)] 1) 1 [(0 * 2, 2, t199)] 178 h fun t200 h =>
    still1 s9 t191 h ∧ still1 s9 t192 h ∧ still1 t194 t195 h ∧ app 178 2 16 [(.int .i64 0), (.int .i64 0)] t195 t200 h fun t201 h =>
    still1 s9 t191 h ∧ nilck t191 fun t202 =>
    fld 2 t202 fun t203 =>
    store1 t203 t201 h fun h =>
    load1 s9 h fun t204 =>
    nilck t204 fun t205 =>
    fld 2 t205 fun t206 =>
    load1 t206 h fun t207 =>
    arith (· + ·) s10 (.int .i64 1) fun t209 =>
    slc 2 t207 (some t209) none none fun t210 =>
    load1 s9 h fun t211 =>
    nilck t211 fun t212 =>
    fld 2 t212 fun t213 =>
    load1 t213 h fun t214 =>
    slc 2 t214 (some s10) none none fun t216 =>
    cpy 2 t210 t216 h fun t217 h =>
    load1 s9 h fun t218 =>
    nilck t218 fun t219 =>
    fld 2 t219 fun t220 =>
    load1 t220 h fun t221 =>
    loadN 2 t13 h fun t223 =>
    idx 2 t221 s10 fun t224 =>
    storeN 2 t224 t223 h fun h =>
    loadN 2 s5 h fun t226 =>
    Map_ii_nodeSet.call #[s0, s9, t226] h fun t227 h =>
    extr 0 t227 fun t228 =>
    extr 1 t227 fun t229 =>
    extr 2 t227 fun t230 =>
    Q (.tuple #[t228, t229, t230]) h
def Map_ii_nodeSet.j2 (s0 : Value) (s5 : Value) (s9 : Value) (s10 : Value) (h : Heap) (Q : Value → Heap → Prop) : Prop :=
    load1 s9 h fun t107 =>
    nilck t107 fun t108 =>
    fld 3 t108 fun t109 =>
    load1 t109 h fun t110 =>
    nilck t110 fun t111 =>
    load1 t111 h fun t112 =>
    idx 1 t112 s10 fun t114 =>
    loadN 2 s5 h fun t115 =>
    Map_ii_nodeSet.call #[s0, t114, t115] h fun t116 h =>
    extr 0 t116 fun t117 =>
    extr 1 t116 fun t118 =>
    extr 2 t116 fun t119 =>
    ifV t119
    (load1 s9 h fun t121 =>
    nilck t121 fun t122 =>
    fld 2 t122 fun t123 =>
    load1 t123 h fun t124 =>
    lenV t124 fun t125 =>
    nilck s0 fun t127 =>
    fld 7 t127 fun t128 =>
    load1 t128 h fun t129 =>
    cmpI (fun a b => a == b) t125 t129 fun t130 =>
    ifV t130
    (nilck s0 fun t132 =>
    fld 4 t132 fun t133 =>
    fld 0 t133 fun t134 =>
    load1 t134 h fun t135 =>
    Q (.tuple #[t135, (.bool false), (.bool true)]) h)
    (Map_ii_nodeSet.j5 s0 s5 s9 s10 h Q))
    (Map_ii_nodeSet.j3 t117 t118 s9 h Q)
def Map_ii_nodeSet.j6 (s0 : Value) (s5 : Value) (s9 : Value) (s10 : Value) (h : Heap) (Q : Value → Heap → Prop) : Prop :=
    load1 s9 h fun t59 =>
    load1 s9 h fun t60 =>
    nilck t60 fun t61 =>
    fld 2 t61 fun t62 =>
    load1 t62 h fun t63 =>
    nilck s0 fun t65 =>
    fld 4 t65 fun t66 =>
    loadN 2 t66 h fun t67 =>
    mkSl (if 1 * 2 = 0 then [] else zeros [(.int .i64 0), (.int .i64 0)] 1) 1 [(0 * 2, 2, t67)] 178 h fun t68 h =>
    still1 s9 t59 h ∧ still1 s9 t60 h ∧ still1 t62 t63 h ∧ app 178 2 16 [(.int .i64 0), (.int .i64 0)] t63 t68 h fun t69 h =>
    still1 s9 t59 h ∧ nilck t59 fun t70 =>
    fld 2 t70 fun t71 =>
    store1 t71 t69 h fun h =>
    load1 s9 h fun t72 =>
    nilck t72 fun t73 =>
    fld 2 t73 fun t74 =>
    load1 t74 h fun t75 =>
    arith (· + ·) s10 (.int .i64 1) fun t77 =>
    slc 2 t75 (some t77) none none fun t78 =>
    load1 s9 h fun t79 =>
    nilck t79 fun t80 =>
    fld 2 t80 fun t81 =>
    load1 t81 h fun t82 =>
    slc 2 t82 (some s10) none none fun t84 =>
    cpy 2 t78 t84 h fun t85 h =>
    load1 s9 h fun t86 =>
    nilck t86 fun t87 =>
    fld 2 t87 fun t88 =>
    load1 t88 h fun t89 =>
    loadN 2 s5 h fun t91 =>
    idx 2 t89 s10 fun t92 =>
    storeN 2 t92 t91 h fun h =>
    load1 s9 h fun t93 =>
    nilck t93 fun t94 =>
    fld 1 t94 fun t95 =>
    load1 t95 h fun t96 =>
    arith (· + ·) t96 (.int .i64 1) fun t97 =>
    nilck t93 fun t98 =>
    fld 1 t98 fun t99 =>
    store1 t99 t97 h fun h =>
    nilck s0 fun t101 =>
    fld 4 t101 fun t102 =>
    fld 0 t102 fun t103 =>
    load1 t103 h fun t104 =>
    Q (.tuple #[t104, (.bool false), (.bool false)]) h
def Map_ii_nodeSet.j1 (s0 : Value) (s5 : Value) (s9 : Value) (s10 : Value) (h : Heap) (Q : Value → Heap → Prop) : Prop :=
    load1 s9 h fun t42 =>
    mapNode_ii_leaf.call #[t42] h fun t43 h =>
    ifV t43
    (load1 s9 h fun t44 =>
    nilck t44 fun t45 =>
    fld 2 t45 fun t46 =>
    load1 t46 h fun t47 =>
    lenV t47 fun t48 =>
    nilck s0 fun t50 =>
    fld 7 t50 fun t51 =>
    load1 t51 h fun t52 =>
    cmpI (fun a b => a == b) t48 t52 fun t53 =>
    ifV t53
    (nilck s0 fun t55 =>
    fld 4 t55 fun t56 =>
    fld 0 t56 fun t57 =>
    load1 t57 h fun t58 =>
    Q (.tuple #[t58, (.bool false), (.bool true)]) h)
    (Map_ii_nodeSet.j6 s0 s5 s9 s10 h Q))
    (Map_ii_nodeSet.j2 s0 s5 s9 s10 h Q)
def Map_ii_nodeSet.sh (a0 : Value) (a1 : Value) (a2 : Value) (h : Heap) (Q : Value → Heap → Prop) : Prop :=
    box 178 a2 h fun t5 h =>
    Map_ii_isoLoad.call #[a0, a1, (.bool true)] h fun t16 h =>
    alloc [(.pointer none)] 173 h fun t9 h =>
    store1 t9 t16 h fun h =>
    load1 t9 h fun t19 =>
    fld 1 t5 fun t20 =>
    load1 t20 h fun t21 =>
    Map_ii_search.call #[a0, t19, t21] h fun t22 h =>
    extr 0 t22 fun t23 =>
    extr 1 t22 fun t24 =>
    ifV t24
    (load1 t9 h fun t26 =>
    nilck t26 fun t27 =>
    fld 2 t27 fun t28 =>
    load1 t28 h fun t29 =>
    idx 2 t29 t23 fun t31 =>
    fld 0 t31 fun t32 =>
    load1 t32 h fun t33 =>
    load1 t9 h fun t34 =>
    nilck t34 fun t35 =>
    fld 2 t35 fun t36 =>
    load1 t36 h fun t37 =>
    loadN 2 t5 h fun t39 =>
    idx 2 t37 t23 fun t40 =>
    storeN 2 t40 t39 h fun h =>
    Q (.tuple #[t33, (.bool true), (.bool false)]) h)
    (Map_ii_nodeSet.j1 a0 t5 t9 t23 h Q)
theorem Map_ii_nodeSet.body (a0 : Value) (a1 : Value) (a2 : Value) (h : Heap) (Q : Value → Heap → Prop) (H : Map_ii_nodeSet.sh a0 a1 a2 h Q) : Map_ii_nodeSet.call #[a0, a1, a2] h Q := by
  refine callsH_of (args := [a0, a1, a2]) Try.func113 rfl rfl ?_
  unfold Map_ii_nodeSet.sh at H
  refine WPc_seq' ?_
  refine W_region (by kernel_rfl) ?_
  refine vl_n ?_
  refine H_box H fun t5 h H => ?_
  refine vl_n ?_
  refine H_of_R (R_assign (v := (.int .i64 0)) rfl ?_)
  refine vl_n ?_
  refine H_of_R (R_assign (v := (.bool false)) rfl ?_)
  refine vl_n ?_
  refine H_of_R (R_assign (v := (.bool false)) rfl ?_)
  refine vl_e ?_
  refine WPc_seq' ?_
  refine W_region (by kernel_rfl) ?_
  refine vl_n ?_
  refine H_of_R (R_move (v := a0) rfl ?_)
  refine vl_n ?_
  refine H_of_R (R_move (v := a1) rfl ?_)
  refine vl_n ?_
  refine H_call HB_125 H fun t16 h H => ?_
  refine vl_n ?_
  refine H_alloc TV_173 H fun t9 h H => ?_
  refine vl_n ?_
  refine H_store1 TS_173 H fun h H => ?_
  refine vl_e ?_
  refine WPc_seq' ?_
  refine W_region (by kernel_rfl) ?_
  refine vl_n ?_
  refine H_of_R (R_move (v := a0) rfl ?_)
  refine vl_n ?_
  refine H_of_R (R_load1 T1_173 H fun _ t19 _ _ H => ?_)
  refine vl_n ?_
  refine H_of_R (R_fld TF_178_1 H fun t20 H => ?_)
  refine vl_n ?_
  refine H_of_R (R_load1 T1_3 H fun _ t21 _ _ H => ?_)
  refine vl_n ?_
  refine H_call HB_156 H fun t22 h H => ?_
  refine vl_n ?_
  refine H_of_R (R_move (v := t22) rfl ?_)
  refine vl_n ?_
  refine H_of_R (R_ext H fun t23 H => ?_)
  refine vl_n ?_
  refine H_of_R (R_ext H fun t24 H => ?_)
  refine vl_n ?_
  refine H_of_R (R_assign (v := t23) rfl ?_)
  refine vl_n ?_
  refine H_of_R (R_assign (v := t24) rfl ?_)
  refine vl_e ?_
  refine WPc_seq (fun e h => Map_ii_nodeSet.j1 (e 0) (e 5) (e 9) (e 10) h Q) ?_ (fun e h H => ?_)
  rotate_left
  · unfold Map_ii_nodeSet.j1 at H
    refine WPc_seq (fun e h => Map_ii_nodeSet.j2 (e 0) (e 5) (e 9) (e 10) h Q) ?_ (fun e h H => ?_)
    rotate_left
    · unfold Map_ii_nodeSet.j2 at H
      refine WPc_seq' ?_
      refine W_drawn [0, 0, 2, 6, 14, 30, 62, 0, 254, 0, 1023, 2047, 4095, 4095, 4095, 8191, 49151, 131071] (.take 0 (.take 1 (.take 2 (.take 3 (.take 4 (.take 5 (.take 6 (.take 7 (.take 8 (.take 9 (.alt 10 (.take 11 (.take 12 (.take 13 (.take 14 (.take 15 (.take 16 (.take 17 .done))))))) .none))))))))))) mixed (by kernel_rfl) ?_
      refine tkP rfl ?_
      refine R_move (v := (e 0)) rfl ⟨fun _ => trivial, ?_⟩
      refine tkL rfl ?_
      refine R_load1 T1_173 H fun at107 t107 hat107 _ H => ?_
      refine tkP rfl ?_
      refine R_nil H fun t108 H => ⟨fun _ => trivial, ?_⟩
      refine tkP rfl ?_
      refine R_fld TF_188_3 H fun t109 H => ⟨fun _ => trivial, ?_⟩
      refine tkL rfl ?_
      refine R_load1 T1_186 H fun at110 t110 hat110 _ H => ?_
      refine tkP rfl ?_
      refine R_nil H fun t111 H => ⟨fun _ => trivial, ?_⟩
      refine tkL rfl ?_
      refine R_load1 T1_194 H fun at112 t112 hat112 _ H => ?_
      refine tkP rfl ?_
      refine R_move (v := (e 10)) rfl ⟨fun _ => trivial, ?_⟩
      refine tkP rfl ?_
      refine R_idx TE_194 H fun t114 H => ⟨fun _ => trivial, ?_⟩
      refine tkL rfl ?_
      refine R_loadN TN_178 H fun at115 xt115 hat115 _ H St115 hSt115 => ?_
      refine alt_n rfl ?_ vp_none
      refine H_call HB_113 H fun t116 h H => ⟨(hskip rfl (hskip rfl (hskip rfl (hskip rfl hnil)))), ?_⟩
      refine tkP rfl ?_
      refine R_move (v := t116) rfl ⟨fun _ => trivial, ?_⟩
      refine tkP rfl ?_
      refine R_ext H fun t117 H => ⟨fun _ => trivial, ?_⟩
      refine tkP rfl ?_
      refine R_ext H fun t118 H => ⟨fun _ => trivial, ?_⟩
      refine tkP rfl ?_
      refine R_ext H fun t119 H => ⟨fun _ => trivial, ?_⟩
      refine tkP rfl ?_
      refine R_assign (v := t117) rfl ⟨fun _ => trivial, ?_⟩
      refine tkP rfl ?_
      refine R_assign (v := t118) rfl ⟨fun _ => trivial, ?_⟩
      refine tkP rfl ?_
      refine R_assign (v := t119) rfl ⟨fun _ => trivial, ?_⟩
      refine vp_done ?_
      refine WPc_seq (fun e h => Map_ii_nodeSet.j3 (e 6) (e 7) (e 9) h Q) ?_ (fun e h H => ?_)
      rotate_left
      · unfold Map_ii_nodeSet.j3 at H
        refine WPc_seq (fun e h => Map_ii_nodeSet.j4 (e 6) (e 7) h Q) ?_ (fun e h H => ?_)
        rotate_left
        · unfold Map_ii_nodeSet.j4 at H
          refine WPc_seq' ?_
          refine W_region (by kernel_rfl) ?_
          refine vl_n ?_
          refine H_of_R (R_move (v := (e 6)) rfl ?_)
          refine vl_n ?_
          refine H_of_R (R_move (v := (e 7)) rfl ?_)
          refine vl_n ?_
          refine H_of_R (R_assign (v := (e 6)) rfl ?_)
          refine vl_n ?_
          refine H_of_R (R_assign (v := (e 7)) rfl ?_)
          refine vl_n ?_
          refine H_of_R (R_assign (v := (.bool false)) rfl ?_)
          refine vl_e ?_
          refine WPc_ret ?_
          refine resH_of rfl ?_
          exact H
        refine WPc_seq' ?_
        refine W_region (by kernel_rfl) ?_
        refine vl_n ?_
        refine H_of_R (R_move (v := (e 7)) rfl ?_)
        refine vl_n ?_
        refine H_of_R (R_not H fun t232 H => ?_)
        refine vl_e ?_
        obtain ⟨b, hc, H1, H2⟩ := H
        refine WPc_cond hc (fun hh => ?_) (fun hh => ?_)
        · have H := H1 hh; clear H1 H2
          refine W_region (by kernel_rfl) ?_
          refine vl_n ?_
          refine H_of_R (R_load1 T1_173 H fun _ t233 _ _ H => ?_)
          refine vl_n ?_
          refine H_of_R (R_nil H fun t234 H => ?_)
          refine vl_n ?_
          refine H_of_R (R_fld TF_188_1 H fun t235 H => ?_)
          refine vl_n ?_
          refine H_of_R (R_load1 T1_3 H fun _ t236 _ _ H => ?_)
          refine vl_n ?_
          refine H_of_R (R_add H fun t237 H => ?_)
          refine vl_n ?_
          refine H_of_R (R_nil H fun t238 H => ?_)
          refine vl_n ?_
          refine H_of_R (R_fld TF_188_1 H fun t239 H => ?_)
          refine vl_n ?_
          refine H_store1 TS_3 H fun h H => ?_
          refine vl_e ?_
          exact H
        · have H := H2 hh; clear H1 H2
          refine WPc_skip ?_
          exact H
      refine WPc_seq' ?_
      refine W_region (by kernel_rfl) ?_
      refine vl_n ?_
      refine H_of_R (R_move (v := t119) rfl ?_)
      refine vl_e ?_
      obtain ⟨b, hc, H1, H2⟩ := H
      refine WPc_cond hc (fun hh => ?_) (fun hh => ?_)
      · have H := H1 hh; clear H1 H2
        refine WPc_seq (fun e h => Map_ii_nodeSet.j5 (e 0) (e 5) (e 9) (e 10) h Q) ?_ (fun e h H => ?_)
        rotate_left
        · unfold Map_ii_nodeSet.j5 at H
          refine WPc_seq' ?_
          refine W_region (by kernel_rfl) ?_
          refine vl_n ?_
          refine H_of_R (R_move (v := (e 0)) rfl ?_)
          refine vl_n ?_
          refine H_of_R (R_load1 T1_173 H fun _ t138 _ _ H => ?_)
          refine vl_n ?_
          refine H_of_R (R_nil H fun t139 H => ?_)
          refine vl_n ?_
          refine H_of_R (R_fld TF_188_3 H fun t140 H => ?_)
          refine vl_n ?_
          refine H_of_R (R_load1 T1_186 H fun _ t141 _ _ H => ?_)
          refine vl_n ?_
          refine H_of_R (R_nil H fun t142 H => ?_)
          refine vl_n ?_
          refine H_of_R (R_load1 T1_194 H fun _ t143 _ _ H => ?_)
          refine vl_n ?_
          refine H_of_R (R_move (v := (e 10)) rfl ?_)
          refine vl_n ?_
          refine H_of_R (R_idx TE_194 H fun t145 H => ?_)
          refine vl_n ?_
          refine H_of_R (R_load1 T1_173 H fun _ t146 _ _ H => ?_)
          refine vl_n ?_
          refine H_call HB_114 H fun t147 h H => ?_
          refine vl_n ?_
          refine H_of_R (R_move (v := t147) rfl ?_)
          refine vl_n ?_
          refine H_of_R (R_ext H fun t148 H => ?_)
          refine vl_n ?_
          refine H_of_R (R_ext H fun t149 H => ?_)
          refine vl_n ?_
          refine H_alloc TV_178 H fun t13 h H => ?_
          refine vl_n ?_
          refine H_of_R (R_assign (v := t148) rfl ?_)
          refine vl_n ?_
          refine H_storeN TS_178 H fun h H => ?_
          refine vl_e ?_
          refine WPc_seq' ?_
          refine W_drawn [0, 1, 3, 7, 0, 16, 48, 112, 240, 496, 0, 2032, 4095, 8191] (.take 0 (.take 1 (.take 2 (.take 3 (.take 4 (.take 5 (.take 6 (.take 7 (.take 8 (.take 9 (.alt 10 (.alt 11 (.take 12 (.alt 13 .done .none)) .none) .none))))))))))) mixed (by kernel_rfl) ?_
          refine tkL rfl ?_
          refine R_load1 T1_173 H fun at150 t150 hat150 _ H => ?_
          refine tkP rfl ?_
          refine R_nil H fun t151 H => ⟨fun _ => trivial, ?_⟩
          refine tkP rfl ?_
          refine R_fld TF_188_3 H fun t152 H => ⟨fun _ => trivial, ?_⟩
          refine tkL rfl ?_
          refine R_load1 T1_186 H fun at153 t153 hat153 _ H => ?_
          refine tkL rfl ?_
          refine R_load1 T1_173 H fun at154 t154 hat154 _ H => ?_
          refine tkP rfl ?_
          refine R_nil H fun t155 H => ⟨fun _ => trivial, ?_⟩
          refine tkP rfl ?_
          refine R_fld TF_188_3 H fun t156 H => ⟨fun _ => trivial, ?_⟩
          refine tkL rfl ?_
          refine R_load1 T1_186 H fun at157 t157 hat157 _ H => ?_
          refine tkP rfl ?_
          refine R_nil H fun t158 H => ⟨fun _ => trivial, ?_⟩
          refine tkL rfl ?_
          refine R_load1 T1_194 H fun at159 t159 hat159 _ H => ?_
          refine alt_n rfl ?_ vp_none
          refine H_mkSl TZ_194 (by decide) rfl H rfl fun t160 h ⟨S, S_2, S_3, S_4, S_5, H⟩ => ⟨(hcons rfl (still_1 S_5 hat159) (hcons rfl (still_1 S_4 hat157) (hcons rfl (still_1 S_3 hat154) (hcons rfl (still_1 S_2 hat153) (hcons rfl (still_1 S hat150) hnil))))), ?_⟩
          refine alt_n rfl ?_ vp_none
          refine H_app TZ_194 TU_194 H fun t161 h ⟨S_6, S_7, H⟩ => ⟨(hskip rfl (hskip rfl (hskip rfl (hcons rfl (still_1 S_7 hat153) (hcons rfl (still_1 S_6 hat150) hnil))))), ?_⟩
          refine tkP rfl ?_
          refine R_nil H fun t162 H => ⟨fun _ => trivial, ?_⟩
          refine alt_n rfl ?_ vp_none
          refine H_store1 TS_194 H fun h H => ⟨(hskip rfl (hskip rfl hnil)), ?_⟩
          refine vp_done ?_
          refine WPc_seq' ?_
          refine W_drawn [0, 1, 3, 7, 15, 31, 0, 64, 255, 0, 512, 1536, 3584, 7680, 15872, 0, 65024, 131071] (.take 0 (.take 1 (.take 2 (.take 3 (.take 4 (.take 5 (.take 6 (.take 7 (.take 8 (.take 9 (.take 10 (.take 11 (.take 12 (.take 13 (.take 14 (.take 15 (.take 16 (.alt 17 .done .none)))))))))))))))))) mixed (by kernel_rfl) ?_
          refine tkL rfl ?_
          refine R_load1 T1_173 H fun at163 t163 hat163 _ H => ?_
          refine tkP rfl ?_
          refine R_nil H fun t164 H => ⟨fun _ => trivial, ?_⟩
          refine tkP rfl ?_
          refine R_fld TF_188_3 H fun t165 H => ⟨fun _ => trivial, ?_⟩
          refine tkL rfl ?_
          refine R_load1 T1_186 H fun at166 t166 hat166 _ H => ?_
          refine tkP rfl ?_
          refine R_nil H fun t167 H => ⟨fun _ => trivial, ?_⟩
          refine tkL rfl ?_
          refine R_load1 T1_194 H fun at168 t168 hat168 _ H => ?_
          refine tkP rfl ?_
          refine R_move (v := (e 10)) rfl ⟨fun _ => trivial, ?_⟩
          refine tkP rfl ?_
          refine R_add H fun t170 H => ⟨fun _ => trivial, ?_⟩
          refine tkP rfl ?_
          refine R_slice TE_194 (by decide) H fun t171 H => ⟨fun _ => trivial, ?_⟩
          refine tkL rfl ?_
          refine R_load1 T1_173 H fun at172 t172 hat172 _ H => ?_
          refine tkP rfl ?_
          refine R_nil H fun t173 H => ⟨fun _ => trivial, ?_⟩
          refine tkP rfl ?_
          refine R_fld TF_188_3 H fun t174 H => ⟨fun _ => trivial, ?_⟩
          refine tkL rfl ?_
          refine R_load1 T1_186 H fun at175 t175 hat175 _ H => ?_
          refine tkP rfl ?_
          refine R_nil H fun t176 H => ⟨fun _ => trivial, ?_⟩
          refine tkL rfl ?_
          refine R_load1 T1_194 H fun at177 t177 hat177 _ H => ?_
          refine tkP rfl ?_
          refine R_move (v := (e 10)) rfl ⟨fun _ => trivial, ?_⟩
          refine tkP rfl ?_
          refine R_slice TE_194 (by decide) H fun t179 H => ⟨fun _ => trivial, ?_⟩
          refine alt_n rfl ?_ vp_none
          refine H_cpy TE_194 H fun t180 h H => ⟨(hskip rfl (hskip rfl (hskip rfl (hskip rfl (hskip rfl (hskip rfl hnil)))))), ?_⟩
          refine vp_done ?_
          refine WPc_seq' ?_
          refine W_region (by kernel_rfl) ?_
          refine vl_n ?_
          refine H_of_R (R_load1 T1_173 H fun _ t181 _ _ H => ?_)
          refine vl_n ?_
          refine H_of_R (R_nil H fun t182 H => ?_)
          refine vl_n ?_
          refine H_of_R (R_fld TF_188_3 H fun t183 H => ?_)
          refine vl_n ?_
          refine H_of_R (R_load1 T1_186 H fun _ t184 _ _ H => ?_)
          refine vl_n ?_
          refine H_of_R (R_nil H fun t185 H => ?_)
          refine vl_n ?_
          refine H_of_R (R_load1 T1_194 H fun _ t186 _ _ H => ?_)
          refine vl_n ?_
          refine H_of_R (R_move (v := (e 10)) rfl ?_)
          refine vl_n ?_
          refine H_of_R (R_add H fun t188 H => ?_)
          refine vl_n ?_
          refine H_of_R (R_move (v := t148) rfl ?_)
          refine vl_n ?_
          refine H_of_R (R_idx TE_194 H fun t190 H => ?_)
          refine vl_n ?_
          refine H_store1 TS_173 H fun h H => ?_
          refine vl_e ?_
          refine WPc_seq' ?_
          refine W_drawn [0, 0, 2, 6, 14, 0, 32, 96, 224, 480, 1022, 2047, 4095, 8191] (.take 0 (.take 1 (.take 2 (.take 3 (.take 4 (.take 5 (.take 6 (.take 7 (.take 8 (.alt 9 (.alt 10 (.take 11 (.take 12 (.alt 13 .done .none))) .none) .none)))))))))) mixed (by kernel_rfl) ?_
          refine tkL rfl ?_
          refine R_load1 T1_173 H fun at191 t191 hat191 _ H => ?_
          refine tkL rfl ?_
          refine R_load1 T1_173 H fun at192 t192 hat192 _ H => ?_
          refine tkP rfl ?_
          refine R_nil H fun t193 H => ⟨fun _ => trivial, ?_⟩
          refine tkP rfl ?_
          refine R_fld TF_188_2 H fun t194 H => ⟨fun _ => trivial, ?_⟩
          refine tkL rfl ?_
          refine R_load1 T1_185 H fun at195 t195 hat195 _ H => ?_
          refine tkP rfl ?_
          refine R_move (v := (e 0)) rfl ⟨fun _ => trivial, ?_⟩
          refine tkP rfl ?_
          refine R_nil H fun t197 H => ⟨fun _ => trivial, ?_⟩
          refine tkP rfl ?_
          refine R_fld TF_182_4 H fun t198 H => ⟨fun _ => trivial, ?_⟩
          refine tkL rfl ?_
          refine R_loadN TN_178 H fun at199 xt199 hat199 _ H St199 hSt199 => ?_
          refine alt_n rfl ?_ vp_none
          refine H_mkSl TZ_185 (by decide) rfl H rfl fun t200 h ⟨S_8, S_9, S_10, H⟩ => ⟨(hskip rfl (hcons rfl (still_1 S_10 hat195) (hcons rfl (still_1 S_9 hat192) (hcons rfl (still_1 S_8 hat191) hnil)))), ?_⟩
          refine alt_n rfl ?_ vp_none
          refine H_app TZ_185 TU_185 H fun t201 h ⟨S_11, H⟩ => ⟨(hskip rfl (hskip rfl (hcons rfl (still_1 S_11 hat191) hnil))), ?_⟩
          refine tkP rfl ?_
          refine R_nil H fun t202 H => ⟨fun _ => trivial, ?_⟩
          refine tkP rfl ?_
          refine R_fld TF_188_2 H fun t203 H => ⟨fun _ => trivial, ?_⟩
          refine alt_n rfl ?_ vp_none
          refine H_store1 TS_185 H fun h H => ⟨(hskip rfl hnil), ?_⟩
          refine vp_done ?_
          refine WPc_seq' ?_
          refine W_drawn [0, 1, 3, 7, 0, 16, 63, 0, 128, 384, 896, 0, 3968, 8191] (.take 0 (.take 1 (.take 2 (.take 3 (.take 4 (.take 5 (.take 6 (.take 7 (.take 8 (.take 9 (.take 10 (.take 11 (.take 12 (.alt 13 .done .none)))))))))))))) mixed (by kernel_rfl) ?_
          refine tkL rfl ?_
          refine R_load1 T1_173 H fun at204 t204 hat204 _ H => ?_
          refine tkP rfl ?_
          refine R_nil H fun t205 H => ⟨fun _ => trivial, ?_⟩
          refine tkP rfl ?_
          refine R_fld TF_188_2 H fun t206 H => ⟨fun _ => trivial, ?_⟩
          refine tkL rfl ?_
          refine R_load1 T1_185 H fun at207 t207 hat207 _ H => ?_
          refine tkP rfl ?_
          refine R_move (v := (e 10)) rfl ⟨fun _ => trivial, ?_⟩
          refine tkP rfl ?_
          refine R_add H fun t209 H => ⟨fun _ => trivial, ?_⟩
          refine tkP rfl ?_
          refine R_slice TE_185 (by decide) H fun t210 H => ⟨fun _ => trivial, ?_⟩
          refine tkL rfl ?_
          refine R_load1 T1_173 H fun at211 t211 hat211 _ H => ?_
          refine tkP rfl ?_
          refine R_nil H fun t212 H => ⟨fun _ => trivial, ?_⟩
          refine tkP rfl ?_
          refine R_fld TF_188_2 H fun t213 H => ⟨fun _ => trivial, ?_⟩
          refine tkL rfl ?_
          refine R_load1 T1_185 H fun at214 t214 hat214 _ H => ?_
          refine tkP rfl ?_
          refine R_move (v := (e 10)) rfl ⟨fun _ => trivial, ?_⟩
          refine tkP rfl ?_
          refine R_slice TE_185 (by decide) H fun t216 H => ⟨fun _ => trivial, ?_⟩
          refine alt_n rfl ?_ vp_none
          refine H_cpy TE_185 H fun t217 h H => ⟨(hskip rfl (hskip rfl (hskip rfl (hskip rfl hnil)))), ?_⟩
          refine vp_done ?_
          refine WPc_seq' ?_
          refine W_drawn [0, 1, 3, 7, 0, 0, 63, 127] (.take 0 (.take 1 (.take 2 (.take 3 (.take 4 (.take 5 (.take 6 (.alt 7 .done .none)))))))) mixed (by kernel_rfl) ?_
          refine tkL rfl ?_
          refine R_load1 T1_173 H fun at218 t218 hat218 _ H => ?_
          refine tkP rfl ?_
          refine R_nil H fun t219 H => ⟨fun _ => trivial, ?_⟩
          refine tkP rfl ?_
          refine R_fld TF_188_2 H fun t220 H => ⟨fun _ => trivial, ?_⟩
          refine tkL rfl ?_
          refine R_load1 T1_185 H fun at221 t221 hat221 _ H => ?_
          refine tkP rfl ?_
          refine R_move (v := (e 10)) rfl ⟨fun _ => trivial, ?_⟩
          refine tkL rfl ?_
          refine R_loadN TN_178 H fun at223 xt223 hat223 _ H St223 hSt223 => ?_
          refine tkP rfl ?_
          refine R_idx TE_185 H fun t224 H => ⟨fun _ => trivial, ?_⟩
          refine alt_n rfl ?_ vp_none
          refine H_storeN TS_178 H fun h H => ⟨(hskip rfl (hskip rfl (hskip rfl hnil))), ?_⟩
          refine vp_done ?_
          refine WPc_seq' ?_
          refine W_region (by kernel_rfl) ?_
          refine vl_n ?_
          refine H_of_R (R_move (v := (e 0)) rfl ?_)
          refine vl_n ?_
          refine H_of_R (R_loadN TN_178 H fun _ t226 _ _ H _ _ => ?_)
          refine vl_n ?_
          refine H_call HB_113 H fun t227 h H => ?_
          refine vl_n ?_
          refine H_of_R (R_ext H fun t228 H => ?_)
          refine vl_n ?_
          refine H_of_R (R_ext H fun t229 H => ?_)
          refine vl_n ?_
          refine H_of_R (R_ext H fun t230 H => ?_)
          refine vl_n ?_
          refine H_of_R (R_assign (v := t228) rfl ?_)
          refine vl_n ?_
          refine H_of_R (R_assign (v := t229) rfl ?_)
          refine vl_n ?_
          refine H_of_R (R_assign (v := t230) rfl ?_)
          refine vl_e ?_
          refine WPc_ret ?_
          refine resH_of rfl ?_
          exact H
        refine WPc_seq' ?_
        refine W_drawn [0, 1, 3, 7, 15, 0, 32, 96, 224, 511] (.take 0 (.take 1 (.take 2 (.take 3 (.take 4 (.take 5 (.take 6 (.take 7 (.take 8 (.take 9 .done)))))))))) mixed (by kernel_rfl) ?_
        refine tkL rfl ?_
        refine R_load1 T1_173 H fun at121 t121 hat121 _ H => ?_
        refine tkP rfl ?_
        refine R_nil H fun t122 H => ⟨fun _ => trivial, ?_⟩
        refine tkP rfl ?_
        refine R_fld TF_188_2 H fun t123 H => ⟨fun _ => trivial, ?_⟩
        refine tkL rfl ?_
        refine R_load1 T1_185 H fun at124 t124 hat124 _ H => ?_
        refine tkP rfl ?_
        refine R_len Try.underlying185 H fun t125 H => ⟨fun _ => trivial, ?_⟩
        refine tkP rfl ?_
        refine R_move (v := (e 0)) rfl ⟨fun _ => trivial, ?_⟩
        refine tkP rfl ?_
        refine R_nil H fun t127 H => ⟨fun _ => trivial, ?_⟩
        refine tkP rfl ?_
        refine R_fld TF_182_6 H fun t128 H => ⟨fun _ => trivial, ?_⟩
        refine tkL rfl ?_
        refine R_load1 T1_3 H fun at129 t129 hat129 _ H => ?_
        refine tkP rfl ?_
        refine R_eqI H fun t130 H => ⟨fun _ => trivial, ?_⟩
        refine vp_done ?_
        obtain ⟨b_2, hc_2, H1, H2⟩ := H
        refine WPc_cond hc_2 (fun hh => ?_) (fun hh => ?_)
        · have H := H1 hh; clear H1 H2
          refine WPc_seq' ?_
          refine W_region (by kernel_rfl) ?_
          refine vl_n ?_
          refine H_of_R (R_move (v := (e 0)) rfl ?_)
          refine vl_n ?_
          refine H_of_R (R_nil H fun t132 H => ?_)
          refine vl_n ?_
          refine H_of_R (R_fld TF_182_4 H fun t133 H => ?_)
          refine vl_n ?_
          refine H_of_R (R_fld TF_178_0 H fun t134 H => ?_)
          refine vl_n ?_
          refine H_of_R (R_load1 T1_3 H fun _ t135 _ _ H => ?_)
          refine vl_n ?_
          refine H_of_R (R_assign (v := t135) rfl ?_)
          refine vl_n ?_
          refine H_of_R (R_assign (v := (.bool false)) rfl ?_)
          refine vl_n ?_
          refine H_of_R (R_assign (v := (.bool true)) rfl ?_)
          refine vl_e ?_
          refine WPc_ret ?_
          refine resH_of rfl ?_
          exact H
        · have H := H2 hh; clear H1 H2
          refine WPc_skip ?_
          exact H
      · have H := H2 hh; clear H1 H2
        refine WPc_skip ?_
        exact H
    refine WPc_seq' ?_
    refine W_region (by kernel_rfl) ?_
    refine vl_n ?_
    refine H_of_R (R_load1 T1_173 H fun _ t42 _ _ H => ?_)
    refine vl_n ?_
    refine H_call HB_126 H fun t43 h H => ?_
    refine vl_e ?_
    obtain ⟨b, hc, H1, H2⟩ := H
    refine WPc_cond hc (fun hh => ?_) (fun hh => ?_)
    · have H := H1 hh; clear H1 H2
      refine WPc_seq (fun e h => Map_ii_nodeSet.j6 (e 0) (e 5) (e 9) (e 10) h Q) ?_ (fun e h H => ?_)
      rotate_left
      · unfold Map_ii_nodeSet.j6 at H
        refine WPc_seq' ?_
        refine W_drawn [0, 0, 2, 6, 14, 0, 32, 96, 224, 480, 1022, 2047, 4095, 8191] (.take 0 (.take 1 (.take 2 (.take 3 (.take 4 (.take 5 (.take 6 (.take 7 (.take 8 (.alt 9 (.alt 10 (.take 11 (.take 12 (.alt 13 .done .none))) .none) .none)))))))))) mixed (by kernel_rfl) ?_
        refine tkL rfl ?_
        refine R_load1 T1_173 H fun at59 t59 hat59 _ H => ?_
        refine tkL rfl ?_
        refine R_load1 T1_173 H fun at60 t60 hat60 _ H => ?_
        refine tkP rfl ?_
        refine R_nil H fun t61 H => ⟨fun _ => trivial, ?_⟩
        refine tkP rfl ?_
        refine R_fld TF_188_2 H fun t62 H => ⟨fun _ => trivial, ?_⟩
        refine tkL rfl ?_
        refine R_load1 T1_185 H fun at63 t63 hat63 _ H => ?_
        refine tkP rfl ?_
        refine R_move (v := (e 0)) rfl ⟨fun _ => trivial, ?_⟩
        refine tkP rfl ?_
        refine R_nil H fun t65 H => ⟨fun _ => trivial, ?_⟩
        refine tkP rfl ?_
        refine R_fld TF_182_4 H fun t66 H => ⟨fun _ => trivial, ?_⟩
        refine tkL rfl ?_
        refine R_loadN TN_178 H fun at67 xt67 hat67 _ H St67 hSt67 => ?_
        refine alt_n rfl ?_ vp_none
        refine H_mkSl TZ_185 (by decide) rfl H rfl fun t68 h ⟨S, S_2, S_3, H⟩ => ⟨(hskip rfl (hcons rfl (still_1 S_3 hat63) (hcons rfl (still_1 S_2 hat60) (hcons rfl (still_1 S hat59) hnil)))), ?_⟩
        refine alt_n rfl ?_ vp_none
        refine H_app TZ_185 TU_185 H fun t69 h ⟨S_4, H⟩ => ⟨(hskip rfl (hskip rfl (hcons rfl (still_1 S_4 hat59) hnil))), ?_⟩
        refine tkP rfl ?_
        refine R_nil H fun t70 H => ⟨fun _ => trivial, ?_⟩
        refine tkP rfl ?_
        refine R_fld TF_188_2 H fun t71 H => ⟨fun _ => trivial, ?_⟩
        refine alt_n rfl ?_ vp_none
        refine H_store1 TS_185 H fun h H => ⟨(hskip rfl hnil), ?_⟩
        refine vp_done ?_
        refine WPc_seq' ?_
        refine W_drawn [0, 1, 3, 7, 0, 16, 63, 0, 128, 384, 896, 0, 3968, 8191] (.take 0 (.take 1 (.take 2 (.take 3 (.take 4 (.take 5 (.take 6 (.take 7 (.take 8 (.take 9 (.take 10 (.take 11 (.take 12 (.alt 13 .done .none)))))))))))))) mixed (by kernel_rfl) ?_
        refine tkL rfl ?_
        refine R_load1 T1_173 H fun at72 t72 hat72 _ H => ?_
        refine tkP rfl ?_
        refine R_nil H fun t73 H => ⟨fun _ => trivial, ?_⟩
        refine tkP rfl ?_
        refine R_fld TF_188_2 H fun t74 H => ⟨fun _ => trivial, ?_⟩
        refine tkL rfl ?_
        refine R_load1 T1_185 H fun at75 t75 hat75 _ H => ?_
        refine tkP rfl ?_
        refine R_move (v := (e 10)) rfl ⟨fun _ => trivial, ?_⟩
        refine tkP rfl ?_
        refine R_add H fun t77 H => ⟨fun _ => trivial, ?_⟩
        refine tkP rfl ?_
        refine R_slice TE_185 (by decide) H fun t78 H => ⟨fun _ => trivial, ?_⟩
        refine tkL rfl ?_
        refine R_load1 T1_173 H fun at79 t79 hat79 _ H => ?_
        refine tkP rfl ?_
        refine R_nil H fun t80 H => ⟨fun _ => trivial, ?_⟩
        refine tkP rfl ?_
        refine R_fld TF_188_2 H fun t81 H => ⟨fun _ => trivial, ?_⟩
        refine tkL rfl ?_
        refine R_load1 T1_185 H fun at82 t82 hat82 _ H => ?_
        refine tkP rfl ?_
        refine R_move (v := (e 10)) rfl ⟨fun _ => trivial, ?_⟩
        refine tkP rfl ?_
        refine R_slice TE_185 (by decide) H fun t84 H => ⟨fun _ => trivial, ?_⟩
        refine alt_n rfl ?_ vp_none
        refine H_cpy TE_185 H fun t85 h H => ⟨(hskip rfl (hskip rfl (hskip rfl (hskip rfl hnil)))), ?_⟩
        refine vp_done ?_
        refine WPc_seq' ?_
        refine W_drawn [0, 1, 3, 7, 0, 0, 63, 127] (.take 0 (.take 1 (.take 2 (.take 3 (.take 4 (.take 5 (.take 6 (.alt 7 .done .none)))))))) mixed (by kernel_rfl) ?_
        refine tkL rfl ?_
        refine R_load1 T1_173 H fun at86 t86 hat86 _ H => ?_
        refine tkP rfl ?_
        refine R_nil H fun t87 H => ⟨fun _ => trivial, ?_⟩
        refine tkP rfl ?_
        refine R_fld TF_188_2 H fun t88 H => ⟨fun _ => trivial, ?_⟩
        refine tkL rfl ?_
        refine R_load1 T1_185 H fun at89 t89 hat89 _ H => ?_
        refine tkP rfl ?_
        refine R_move (v := (e 10)) rfl ⟨fun _ => trivial, ?_⟩
        refine tkL rfl ?_
        refine R_loadN TN_178 H fun at91 xt91 hat91 _ H St91 hSt91 => ?_
        refine tkP rfl ?_
        refine R_idx TE_185 H fun t92 H => ⟨fun _ => trivial, ?_⟩
        refine alt_n rfl ?_ vp_none
        refine H_storeN TS_178 H fun h H => ⟨(hskip rfl (hskip rfl (hskip rfl hnil))), ?_⟩
        refine vp_done ?_
        refine WPc_seq' ?_
        refine W_region (by kernel_rfl) ?_
        refine vl_n ?_
        refine H_of_R (R_load1 T1_173 H fun _ t93 _ _ H => ?_)
        refine vl_n ?_
        refine H_of_R (R_nil H fun t94 H => ?_)
        refine vl_n ?_
        refine H_of_R (R_fld TF_188_1 H fun t95 H => ?_)
        refine vl_n ?_
        refine H_of_R (R_load1 T1_3 H fun _ t96 _ _ H => ?_)
        refine vl_n ?_
        refine H_of_R (R_add H fun t97 H => ?_)
        refine vl_n ?_
        refine H_of_R (R_nil H fun t98 H => ?_)
        refine vl_n ?_
        refine H_of_R (R_fld TF_188_1 H fun t99 H => ?_)
        refine vl_n ?_
        refine H_store1 TS_3 H fun h H => ?_
        refine vl_e ?_
        refine WPc_seq' ?_
        refine W_region (by kernel_rfl) ?_
        refine vl_n ?_
        refine H_of_R (R_move (v := (e 0)) rfl ?_)
        refine vl_n ?_
        refine H_of_R (R_nil H fun t101 H => ?_)
        refine vl_n ?_
        refine H_of_R (R_fld TF_182_4 H fun t102 H => ?_)
        refine vl_n ?_
        refine H_of_R (R_fld TF_178_0 H fun t103 H => ?_)
        refine vl_n ?_
        refine H_of_R (R_load1 T1_3 H fun _ t104 _ _ H => ?_)
        refine vl_n ?_
        refine H_of_R (R_assign (v := t104) rfl ?_)
        refine vl_n ?_
        refine H_of_R (R_assign (v := (.bool false)) rfl ?_)
        refine vl_n ?_
        refine H_of_R (R_assign (v := (.bool false)) rfl ?_)
        refine vl_e ?_
        refine WPc_ret ?_
        refine resH_of rfl ?_
        exact H
      refine WPc_seq' ?_
      refine W_drawn [0, 1, 3, 7, 15, 0, 32, 96, 224, 511] (.take 0 (.take 1 (.take 2 (.take 3 (.take 4 (.take 5 (.take 6 (.take 7 (.take 8 (.take 9 .done)))))))))) mixed (by kernel_rfl) ?_
      refine tkL rfl ?_
      refine R_load1 T1_173 H fun at44 t44 hat44 _ H => ?_
      refine tkP rfl ?_
      refine R_nil H fun t45 H => ⟨fun _ => trivial, ?_⟩
      refine tkP rfl ?_
      refine R_fld TF_188_2 H fun t46 H => ⟨fun _ => trivial, ?_⟩
      refine tkL rfl ?_
      refine R_load1 T1_185 H fun at47 t47 hat47 _ H => ?_
      refine tkP rfl ?_
      refine R_len Try.underlying185 H fun t48 H => ⟨fun _ => trivial, ?_⟩
      refine tkP rfl ?_
      refine R_move (v := (e 0)) rfl ⟨fun _ => trivial, ?_⟩
      refine tkP rfl ?_
      refine R_nil H fun t50 H => ⟨fun _ => trivial, ?_⟩
      refine tkP rfl ?_
      refine R_fld TF_182_6 H fun t51 H => ⟨fun _ => trivial, ?_⟩
      refine tkL rfl ?_
      refine R_load1 T1_3 H fun at52 t52 hat52 _ H => ?_
      refine tkP rfl ?_
      refine R_eqI H fun t53 H => ⟨fun _ => trivial, ?_⟩
      refine vp_done ?_
      obtain ⟨b_2, hc_2, H1, H2⟩ := H
      refine WPc_cond hc_2 (fun hh => ?_) (fun hh => ?_)
      · have H := H1 hh; clear H1 H2
        refine WPc_seq' ?_
        refine W_region (by kernel_rfl) ?_
        refine vl_n ?_
        refine H_of_R (R_move (v := (e 0)) rfl ?_)
        refine vl_n ?_
        refine H_of_R (R_nil H fun t55 H => ?_)
        refine vl_n ?_
        refine H_of_R (R_fld TF_182_4 H fun t56 H => ?_)
        refine vl_n ?_
        refine H_of_R (R_fld TF_178_0 H fun t57 H => ?_)
        refine vl_n ?_
        refine H_of_R (R_load1 T1_3 H fun _ t58 _ _ H => ?_)
        refine vl_n ?_
        refine H_of_R (R_assign (v := t58) rfl ?_)
        refine vl_n ?_
        refine H_of_R (R_assign (v := (.bool false)) rfl ?_)
        refine vl_n ?_
        refine H_of_R (R_assign (v := (.bool true)) rfl ?_)
        refine vl_e ?_
        refine WPc_ret ?_
        refine resH_of rfl ?_
        exact H
      · have H := H2 hh; clear H1 H2
        refine WPc_skip ?_
        exact H
    · have H := H2 hh; clear H1 H2
      refine WPc_skip ?_
      exact H
  refine WPc_seq' ?_
  refine W_region (by kernel_rfl) ?_
  refine vl_n ?_
  refine H_of_R (R_move (v := t24) rfl ?_)
  refine vl_e ?_
  obtain ⟨b, hc, H1, H2⟩ := H
  refine WPc_cond hc (fun hh => ?_) (fun hh => ?_)
  · have H := H1 hh; clear H1 H2
    refine WPc_seq' ?_
    refine W_region (by kernel_rfl) ?_
    refine vl_n ?_
    refine H_of_R (R_load1 T1_173 H fun _ t26 _ _ H => ?_)
    refine vl_n ?_
    refine H_of_R (R_nil H fun t27 H => ?_)
    refine vl_n ?_
    refine H_of_R (R_fld TF_188_2 H fun t28 H => ?_)
    refine vl_n ?_
    refine H_of_R (R_load1 T1_185 H fun _ t29 _ _ H => ?_)
    refine vl_n ?_
    refine H_of_R (R_move (v := t23) rfl ?_)
    refine vl_n ?_
    refine H_of_R (R_idx TE_185 H fun t31 H => ?_)
    refine vl_n ?_
    refine H_of_R (R_fld TF_178_0 H fun t32 H => ?_)
    refine vl_n ?_
    refine H_of_R (R_load1 T1_3 H fun _ t33 _ _ H => ?_)
    refine vl_n ?_
    refine H_of_R (R_assign (v := t33) rfl ?_)
    refine vl_e ?_
    refine WPc_seq' ?_
    refine W_drawn [0, 1, 3, 7, 0, 0, 63, 127] (.take 0 (.take 1 (.take 2 (.take 3 (.take 4 (.take 5 (.take 6 (.alt 7 .done .none)))))))) mixed (by kernel_rfl) ?_
    refine tkL rfl ?_
    refine R_load1 T1_173 H fun at34 t34 hat34 _ H => ?_
    refine tkP rfl ?_
    refine R_nil H fun t35 H => ⟨fun _ => trivial, ?_⟩
    refine tkP rfl ?_
    refine R_fld TF_188_2 H fun t36 H => ⟨fun _ => trivial, ?_⟩
    refine tkL rfl ?_
    refine R_load1 T1_185 H fun at37 t37 hat37 _ H => ?_
    refine tkP rfl ?_
    refine R_move (v := t23) rfl ⟨fun _ => trivial, ?_⟩
    refine tkL rfl ?_
    refine R_loadN TN_178 H fun at39 xt39 hat39 _ H St39 hSt39 => ?_
    refine tkP rfl ?_
    refine R_idx TE_185 H fun t40 H => ⟨fun _ => trivial, ?_⟩
    refine alt_n rfl ?_ vp_none
    refine H_storeN TS_178 H fun h H => ⟨(hskip rfl (hskip rfl (hskip rfl hnil))), ?_⟩
    refine vp_done ?_
    refine WPc_seq' ?_
    refine W_region (by kernel_rfl) ?_
    refine vl_n ?_
    refine H_of_R (R_move (v := t33) rfl ?_)
    refine vl_n ?_
    refine H_of_R (R_assign (v := t33) rfl ?_)
    refine vl_n ?_
    refine H_of_R (R_assign (v := (.bool true)) rfl ?_)
    refine vl_n ?_
    refine H_of_R (R_assign (v := (.bool false)) rfl ?_)
    refine vl_e ?_
    refine WPc_ret ?_
    refine resH_of rfl ?_
    exact H
  · have H := H2 hh; clear H1 H2
    refine WPc_skip ?_
    exact H

end Go.Proofs.Ytlihjljdndbpdaa
