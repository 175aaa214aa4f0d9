/-
  Shallow forms of the walked functions, and that each call comes to its form. Written by a program of this repo (gen.py). Conditions: none.
-/
import Derived.Test.YtdealonhngiaiaaST
namespace Go.Proofs.Ytdealonhngiaiaa
open Go.Hp
set_option maxRecDepth 100000
set_option maxHeartbeats 8000000
set_option linter.unusedVariables false
set_option linter.unusedSimpArgs false

/-! ### spec.Valid -/
def s_Valid.j1 (s2 : Value) (s3 : Value) (h : Heap) (Q : Value → Heap → Prop) : Prop :=
    loadN 3 s3 h fun t18 =>
    s_Levels.call #[t18] h fun t19 h =>
    extr 0 t19 fun t20 =>
    extr 1 t19 fun t21 =>
    br t21 true (fld 1 s2 fun t24 =>
    load1 t24 h fun t25 =>
    loadN 3 s3 h fun t27 =>
    s_Width.call #[t25] h fun t26 h =>
    stillN 3 s3 t27 h ∧ s_Filled.call #[t26, (.int .i64 1), t27] h fun t28 h =>
    br t28 true (fld 0 s2 fun t31 =>
    load1 t31 h fun t32 =>
    loadN 3 s3 h fun t33 =>
    s_NodeItems.call #[t33] h fun t34 h =>
    still1 t31 t32 h ∧ s_Rising.call #[t32, t34] h fun t35 h =>
    Q t35 h) (Q (.bool false) h)) (Q (.bool false) h)
def s_Valid.sh (a0 : Value) (a1 : Value) (h : Heap) (Q : Value → Heap → Prop) : Prop :=
    box 49 a0 h fun t2 h =>
    box 34 a1 h fun t3 h =>
    fld 0 t3 fun t7 =>
    load1 t7 h fun t8 =>
    lenV t8 fun t9 =>
    cmpI (fun a b => a == b) t9 (.int .i64 0) fun t10 =>
    br t10 true (fld 1 t3 fun t12 =>
    load1 t12 h fun t13 =>
    lenV t13 fun t14 =>
    cmpI (fun a b => a == b) t14 (.int .i64 0) fun t15 =>
    ifV t15
    (Q (.bool true) h)
    (s_Valid.j1 t2 t3 h Q)) (s_Valid.j1 t2 t3 h Q)
theorem s_Valid.body (a0 : Value) (a1 : Value) (h : Heap) (Q : Value → Heap → Prop) (H : s_Valid.sh a0 a1 h Q) : s_Valid.call #[a0, a1] h Q := by
  refine callsH_of (args := [a0, a1]) Try.func34 rfl rfl ?_
  unfold s_Valid.sh at H
  refine WPc_seq' ?_
  refine W_region (by kernel_rfl) ?_
  refine vl_n ?_
  refine H_box H fun t2 h H => ?_
  refine vl_n ?_
  refine H_box H fun t3 h H => ?_
  refine vl_n ?_
  refine H_of_R (R_assign (v := (.bool false)) rfl ?_)
  refine vl_e ?_
  refine WPc_seq (fun e h => s_Valid.j1 (e 2) (e 3) h Q) ?_ (fun e h H => ?_)
  rotate_left
  · unfold s_Valid.j1 at H
    refine WPc_seq' ?_
    refine W_region (by kernel_rfl) ?_
    refine vl_n ?_
    refine H_of_R (R_loadN TN_34 H fun _ t18 _ _ H _ _ => ?_)
    refine vl_n ?_
    refine H_call HB_47 H fun t19 h H => ?_
    refine vl_n ?_
    refine H_of_R (R_move (v := t19) rfl ?_)
    refine vl_n ?_
    refine H_of_R (R_ext H fun t20 H => ?_)
    refine vl_n ?_
    refine H_of_R (R_ext H fun t21 H => ?_)
    refine vl_n ?_
    refine H_of_R (R_assign (v := t20) rfl ?_)
    refine vl_n ?_
    refine H_of_R (R_assign (v := t21) rfl ?_)
    refine vl_e ?_
    refine WPc_seq' ?_
    refine W_drawn [0, 1, 3, 7, 15, 3, 63, 127, 255, 511, 1023, 511, 2559, 8191, 16383, 32767] (.take 0 (.take 1 (.take 2 (.take 3 (.take 5 (.alt 4 (.alt 6 (.take 7 (.take 8 (.take 9 (.take 10 (.take 11 (.alt 12 (.alt 13 (.take 14 (.take 15 .done)) .none) .none)))))) .none) .none)))))) mixed (by kernel_rfl) ?_
    refine tkP rfl ?_
    refine R_move (v := t21) rfl ⟨fun _ => trivial, ?_⟩
    refine tkP rfl ?_
    refine R_move (v := t21) rfl ⟨fun _ => trivial, ?_⟩
    obtain ⟨b, hb, H1, H2⟩ := H
    cases b
    · have H := H2 rfl; clear H1 H2
      refine tk_s rfl rfl (nbT hb) ?_
      refine tk_s rfl rfl (nbT hb) ?_
      refine tk_s rfl rfl (nbT hb) ?_
      refine alt_s rfl rfl (nbT hb) ?_ vp_none
      refine alt_s rfl rfl (nbT hb) ?_ vp_none
      refine tkP rfl ?_
      refine R_pickC (v := (.bool false)) false hb rfl ⟨fun _ => trivial, ?_⟩
      refine tkP rfl ?_
      refine R_move (v := (.bool false)) rfl ⟨fun _ => trivial, ?_⟩
      refine tk_s rfl rfl (nbT rfl) ?_
      refine tk_s rfl rfl (nbT rfl) ?_
      refine tk_s rfl rfl (nbT rfl) ?_
      refine alt_s rfl rfl (nbT rfl) ?_ vp_none
      refine alt_s rfl rfl (nbT rfl) ?_ vp_none
      refine tkP rfl ?_
      refine R_pickC (v := (.bool false)) false rfl rfl ⟨fun _ => trivial, ?_⟩
      refine tkP rfl ?_
      refine R_assign (v := (.bool false)) rfl ⟨fun _ => trivial, ?_⟩
      refine vp_done ?_
      refine WPc_ret ?_
      refine resH_of rfl ?_
      exact H
    · have H := H1 rfl; clear H1 H2
      refine tkPy rfl rfl hb ?_
      refine R_fld TF_49_1 H fun t24 H => ⟨fun _ => trivial, ?_⟩
      refine tkLy rfl rfl hb ?_
      refine R_load1 T1_3 H fun at25 t25 hat25 _ H => ?_
      refine tkLy rfl rfl hb ?_
      refine R_loadN TN_34 H fun at27 xt27 hat27 _ H St27 hSt27 => ?_
      refine alt_y rfl rfl hb ?_ vp_none
      refine H_call HB_43 H fun t26 h ⟨S, H⟩ => ⟨(hcons rfl (hSt27 _ (still_N S hat27 rfl)) (hskip rfl hnil)), ?_⟩
      refine alt_y rfl rfl hb ?_ vp_none
      refine H_call HB_62 H fun t28 h H => ⟨(hskip rfl hnil), ?_⟩
      refine tkP rfl ?_
      refine R_pickC (v := t28) true hb rfl ⟨fun _ => trivial, ?_⟩
      refine tkP rfl ?_
      refine R_move (v := t28) rfl ⟨fun _ => trivial, ?_⟩
      obtain ⟨b_2, hb_2, H1, H2⟩ := H
      cases b_2
      · have H := H2 rfl; clear H1 H2
        refine tk_s rfl rfl (nbT hb_2) ?_
        refine tk_s rfl rfl (nbT hb_2) ?_
        refine tk_s rfl rfl (nbT hb_2) ?_
        refine alt_s rfl rfl (nbT hb_2) ?_ vp_none
        refine alt_s rfl rfl (nbT hb_2) ?_ vp_none
        refine tkP rfl ?_
        refine R_pickC (v := (.bool false)) false hb_2 rfl ⟨fun _ => trivial, ?_⟩
        refine tkP rfl ?_
        refine R_assign (v := (.bool false)) rfl ⟨fun _ => trivial, ?_⟩
        refine vp_done ?_
        refine WPc_ret ?_
        refine resH_of rfl ?_
        exact H
      · have H := H1 rfl; clear H1 H2
        refine tkPy rfl rfl hb_2 ?_
        refine R_fld TF_49_0 H fun t31 H => ⟨fun _ => trivial, ?_⟩
        refine tkLy rfl rfl hb_2 ?_
        refine R_load1 T1_47 H fun at32 t32 hat32 _ H => ?_
        refine tkLy rfl rfl hb_2 ?_
        refine R_loadN TN_34 H fun at33 xt33 hat33 _ H St33 hSt33 => ?_
        refine alt_y rfl rfl hb_2 ?_ vp_none
        refine H_call HB_17 H fun t34 h ⟨S_2, H⟩ => ⟨(hskip rfl (hcons rfl (still_1 S_2 hat32) hnil)), ?_⟩
        refine alt_y rfl rfl hb_2 ?_ vp_none
        refine H_call HB_9 H fun t35 h H => ⟨(hskip rfl hnil), ?_⟩
        refine tkP rfl ?_
        refine R_pickC (v := t35) true hb_2 rfl ⟨fun _ => trivial, ?_⟩
        refine tkP rfl ?_
        refine R_assign (v := t35) rfl ⟨fun _ => trivial, ?_⟩
        refine vp_done ?_
        refine WPc_ret ?_
        refine resH_of rfl ?_
        exact H
  refine WPc_seq' ?_
  refine W_region (by kernel_rfl) ?_
  refine vl_n ?_
  refine H_of_R (R_fld TF_34_0 H fun t7 H => ?_)
  refine vl_n ?_
  refine H_of_R (R_load1 T1_22 H fun _ t8 _ _ H => ?_)
  refine vl_n ?_
  refine H_of_R (R_len Try.underlying22 H fun t9 H => ?_)
  refine vl_n ?_
  refine H_of_R (R_eqI H fun t10 H => ?_)
  refine vl_n ?_
  refine H_of_R (R_move (v := t10) rfl ?_)
  obtain ⟨b, hb, H1, H2⟩ := H
  cases b
  · have H := H2 rfl; clear H1 H2
    refine vl_s rfl (nbT hb) ?_
    refine vl_s rfl (nbT hb) ?_
    refine vl_s rfl (nbT hb) ?_
    refine vl_s rfl (nbT hb) ?_
    refine vl_n ?_
    refine H_of_R (R_pickC (v := (.bool false)) false hb rfl ?_)
    refine vl_e ?_
    refine WPc_cond (t := false) rfl (fun hh => by cases hh) (fun _ => ?_)
    refine WPc_skip ?_
    exact H
  · have H := H1 rfl; clear H1 H2
    refine vl_y rfl hb ?_
    refine H_of_R (R_fld TF_34_1 H fun t12 H => ?_)
    refine vl_y rfl hb ?_
    refine H_of_R (R_load1 T1_32 H fun _ t13 _ _ H => ?_)
    refine vl_y rfl hb ?_
    refine H_of_R (R_len Try.underlying32 H fun t14 H => ?_)
    refine vl_y rfl hb ?_
    refine H_of_R (R_eqI H fun t15 H => ?_)
    refine vl_n ?_
    refine H_of_R (R_pickC (v := t15) true hb rfl ?_)
    refine vl_e ?_
    obtain ⟨b_2, hc, H1, H2⟩ := H
    refine WPc_cond hc (fun hh => ?_) (fun hh => ?_)
    · have H := H1 hh; clear H1 H2
      refine WPc_seq' ?_
      refine W_region (by kernel_rfl) ?_
      refine vl_n ?_
      refine H_of_R (R_assign (v := (.bool true)) rfl ?_)
      refine vl_e ?_
      refine WPc_ret ?_
      refine resH_of rfl ?_
      exact H
    · have H := H2 hh; clear H1 H2
      refine WPc_skip ?_
      exact H
/-! ### laws.validD -/
def l_validD.sh (a0 : Value) (a1 : Value) (h : Heap) (Q : Value → Heap → Prop) : Prop :=
    box 34 a1 h fun t3 h =>
    l_fit.call #[a0] h fun t6 h =>
    br t6 true (buildV [(.slice none 0 0), (.int .i64 0), (.bool false)] [(1, 1, a0)] fun t9 =>
    loadN 3 t3 h fun t10 =>
    s_Valid.call #[t9, t10] h fun t11 h =>
    Q t11 h) (Q (.bool false) h)
theorem l_validD.body (a0 : Value) (a1 : Value) (h : Heap) (Q : Value → Heap → Prop) (H : l_validD.sh a0 a1 h Q) : l_validD.call #[a0, a1] h Q := by
  refine callsH_of (args := [a0, a1]) Try.func14 rfl rfl ?_
  unfold l_validD.sh at H
  refine WPc_seq' ?_
  refine W_region (by kernel_rfl) ?_
  refine vl_n ?_
  refine H_box H fun t3 h H => ?_
  refine vl_n ?_
  refine H_of_R (R_assign (v := (.bool false)) rfl ?_)
  refine vl_e ?_
  refine WPc_seq' ?_
  refine W_region (by kernel_rfl) ?_
  refine vl_n ?_
  refine H_of_R (R_move (v := a0) rfl ?_)
  refine vl_n ?_
  refine H_call HB_8 H fun t6 h H => ?_
  refine vl_n ?_
  refine H_of_R (R_move (v := t6) rfl ?_)
  obtain ⟨b, hb, H1, H2⟩ := H
  cases b
  · have H := H2 rfl; clear H1 H2
    refine vl_s rfl (nbT hb) ?_
    refine vl_s rfl (nbT hb) ?_
    refine vl_s rfl (nbT hb) ?_
    refine vl_s rfl (nbT hb) ?_
    refine vl_n ?_
    refine H_of_R (R_pickC (v := (.bool false)) false hb rfl ?_)
    refine vl_n ?_
    refine H_of_R (R_assign (v := (.bool false)) rfl ?_)
    refine vl_e ?_
    refine WPc_ret ?_
    refine resH_of rfl ?_
    exact H
  · have H := H1 rfl; clear H1 H2
    refine vl_y rfl hb ?_
    refine H_of_R (R_move (v := a0) rfl ?_)
    refine vl_y rfl hb ?_
    refine H_of_R (R_build TB_49 rfl (by decide) H fun t9 H => ?_)
    refine vl_y rfl hb ?_
    refine H_of_R (R_loadN TN_34 H fun _ t10 _ _ H _ _ => ?_)
    refine vl_y rfl hb ?_
    refine H_call HB_34 H fun t11 h H => ?_
    refine vl_n ?_
    refine H_of_R (R_pickC (v := t11) true hb rfl ?_)
    refine vl_n ?_
    refine H_of_R (R_assign (v := t11) rfl ?_)
    refine vl_e ?_
    refine WPc_ret ?_
    refine resH_of rfl ?_
    exact H
/-! ### impl.found -/
def i_found.j1 (s2 : Value) (s4 : Value) (h : Heap) (Q : Value → Heap → Prop) : Prop :=
    loadN 2 s2 h fun t8 =>
    buildV [(.int .i64 0), (.int .i64 0), (.bool false)] [(0, 2, t8), (2, 1, (.bool true))] fun t9 =>
    storeN 3 s4 t9 h fun h =>
    loadN 3 s4 h fun r4 =>
    Q r4 h
def i_found.sh (a0 : Value) (a1 : Value) (h : Heap) (Q : Value → Heap → Prop) : Prop :=
    box 30 a0 h fun t2 h =>
    alloc [(.int .i64 0), (.int .i64 0), (.bool false)] 38 h fun t4 h =>
    notV a1 fun t6 =>
    ifV t6
    (buildV [(.int .i64 0), (.int .i64 0), (.bool false)] [] fun t7 =>
    storeN 3 t4 t7 h fun h =>
    loadN 3 t4 h fun r4 =>
    Q r4 h)
    (i_found.j1 t2 t4 h Q)
theorem i_found.body (a0 : Value) (a1 : Value) (h : Heap) (Q : Value → Heap → Prop) (H : i_found.sh a0 a1 h Q) : i_found.call #[a0, a1] h Q := by
  refine callsH_of (args := [a0, a1]) Try.func63 rfl rfl ?_
  unfold i_found.sh at H
  refine WPc_seq' ?_
  refine W_region (by kernel_rfl) ?_
  refine vl_n ?_
  refine H_box H fun t2 h H => ?_
  refine vl_n ?_
  refine H_alloc TV_38 H fun t4 h H => ?_
  refine vl_e ?_
  refine WPc_seq (fun e h => i_found.j1 (e 2) (e 4) h Q) ?_ (fun e h H => ?_)
  rotate_left
  · unfold i_found.j1 at H
    refine WPc_seq' ?_
    refine W_region (by kernel_rfl) ?_
    refine vl_n ?_
    refine H_of_R (R_loadN TN_30 H fun _ t8 _ _ H _ _ => ?_)
    refine vl_n ?_
    refine H_of_R (R_build TB_38 rfl (by decide) H fun t9 H => ?_)
    refine vl_n ?_
    refine H_storeN TS_38 H fun h H => ?_
    refine vl_e ?_
    refine WPc_ret ?_
    refine resH_of rfl ?_
    refine resL_N TN_38 ?_
    refine loadN_imp H fun r4 H => ?_
    exact H
  refine WPc_seq' ?_
  refine W_region (by kernel_rfl) ?_
  refine vl_n ?_
  refine H_of_R (R_move (v := a1) rfl ?_)
  refine vl_n ?_
  refine H_of_R (R_not H fun t6 H => ?_)
  refine vl_e ?_
  obtain ⟨b, hc, H1, H2⟩ := H
  refine WPc_cond hc (fun hh => ?_) (fun hh => ?_)
  · have H := H1 hh; clear H1 H2
    refine WPc_seq' ?_
    refine W_region (by kernel_rfl) ?_
    refine vl_n ?_
    refine H_of_R (R_build TB_38 rfl (by decide) H fun t7 H => ?_)
    refine vl_n ?_
    refine H_storeN TS_38 H fun h H => ?_
    refine vl_e ?_
    refine WPc_ret ?_
    refine resH_of rfl ?_
    refine resL_N TN_38 ?_
    refine loadN_imp H fun r4 H => ?_
    exact H
  · have H := H2 hh; clear H1 H2
    refine WPc_skip ?_
    exact H
/-! ### impl.pair -/
def i_pair.sh (a0 : Value) (a1 : Value) (a2 : Value) (h : Heap) (Q : Value → Heap → Prop) : Prop :=
    alloc [(.int .i64 0), (.int .i64 0), (.bool false)] 38 h fun t6 h =>
    buildV [(.int .i64 0), (.int .i64 0)] [(0, 1, a0), (1, 1, a1)] fun t9 =>
    i_found.call #[t9, a2] h fun t11 h =>
    storeN 3 t6 t11 h fun h =>
    loadN 3 t6 h fun r6 =>
    Q r6 h
theorem i_pair.body (a0 : Value) (a1 : Value) (a2 : Value) (h : Heap) (Q : Value → Heap → Prop) (H : i_pair.sh a0 a1 a2 h Q) : i_pair.call #[a0, a1, a2] h Q := by
  refine callsH_of (args := [a0, a1, a2]) Try.func35 rfl rfl ?_
  unfold i_pair.sh at H
  refine WPc_seq' ?_
  refine W_region (by kernel_rfl) ?_
  refine vl_n ?_
  refine H_alloc TV_38 H fun t6 h H => ?_
  refine vl_e ?_
  refine WPc_seq' ?_
  refine W_region (by kernel_rfl) ?_
  refine vl_n ?_
  refine H_of_R (R_move (v := a0) rfl ?_)
  refine vl_n ?_
  refine H_of_R (R_move (v := a1) rfl ?_)
  refine vl_n ?_
  refine H_of_R (R_build TB_30 rfl (by decide) H fun t9 H => ?_)
  refine vl_n ?_
  refine H_of_R (R_move (v := a2) rfl ?_)
  refine vl_n ?_
  refine H_call HB_63 H fun t11 h H => ?_
  refine vl_n ?_
  refine H_storeN TS_38 H fun h H => ?_
  refine vl_e ?_
  refine WPc_ret ?_
  refine resH_of rfl ?_
  refine resL_N TN_38 ?_
  refine loadN_imp H fun r6 H => ?_
  exact H
/-! ### (*pub/tidwallbtree.Map[int, int]).getAt -/
def Map_ii_getAt.j4 (s0 : Value) (s1 : Value) (s2 : Value) (s9 : Value) (s10 : Value) (h : Heap) (K1 : List Value → Heap → Prop) (Q : Value → Heap → Prop) : Prop :=
    nilck s9 fun t132 =>
    fld 3 t132 fun t133 =>
    load1 t133 h fun t134 =>
    nilck t134 fun t135 =>
    load1 t135 h fun t136 =>
    idx 1 t136 s10 fun t138 =>
    Map_ii_isoLoad.call #[s0, t138, s2] h fun t140 h =>
    K1 [s1, t140] h
def Map_ii_getAt.j7 (s0 : Value) (s1 : Value) (s2 : Value) (s9 : Value) (s10 : Value) (h : Heap) (K1 : List Value → Heap → Prop) (K2 : List Value → Heap → Prop) (Q : Value → Heap → Prop) : Prop :=
    arith (· + ·) s10 (.int .i64 1) fun t70 =>
    K2 [s1, t70] h
def Map_ii_getAt.j8 (s0 : Value) (s1 : Value) (s2 : Value) (s9 : Value) (s10 : Value) (h : Heap) (K1 : List Value → Heap → Prop) (K2 : List Value → Heap → Prop) (Q : Value → Heap → Prop) : Prop :=
    nilck s9 fun t117 =>
    fld 3 t117 fun t118 =>
    load1 t118 h fun t119 =>
    nilck t119 fun t120 =>
    load1 t120 h fun t121 =>
    idx 1 t121 s10 fun t123 =>
    load1 t123 h fun t124 =>
    nilck t124 fun t125 =>
    fld 1 t125 fun t126 =>
    load1 t126 h fun t127 =>
    arith (· + ·) t127 (.int .i64 1) fun t128 =>
    arith (· - ·) s1 t128 fun t129 =>
    Map_ii_getAt.j7 s0 t129 s2 s9 s10 h K1 K2 Q
def Map_ii_getAt.j6 (s0 : Value) (s1 : Value) (s2 : Value) (s9 : Value) (s10 : Value) (h : Heap) (K1 : List Value → Heap → Prop) (K2 : List Value → Heap → Prop) (Q : Value → Heap → Prop) : Prop :=
    nilck s9 fun t73 =>
    fld 3 t73 fun t74 =>
    load1 t74 h fun t75 =>
    nilck t75 fun t76 =>
    load1 t76 h fun t77 =>
    idx 1 t77 s10 fun t79 =>
    load1 t79 h fun t80 =>
    nilck t80 fun t81 =>
    fld 1 t81 fun t82 =>
    load1 t82 h fun t83 =>
    cmpI (fun a b => decide (a < b)) s1 t83 fun t84 =>
    ifV t84
    (Map_ii_getAt.j4 s0 s1 s2 s9 s10 h K1 Q)
    (nilck s9 fun t87 =>
    fld 3 t87 fun t88 =>
    load1 t88 h fun t89 =>
    nilck t89 fun t90 =>
    load1 t90 h fun t91 =>
    idx 1 t91 s10 fun t93 =>
    load1 t93 h fun t94 =>
    nilck t94 fun t95 =>
    fld 1 t95 fun t96 =>
    load1 t96 h fun t97 =>
    cmpI (fun a b => a == b) s1 t97 fun t98 =>
    ifV t98
    (nilck s9 fun t100 =>
    fld 2 t100 fun t101 =>
    load1 t101 h fun t102 =>
    idx 2 t102 s10 fun t104 =>
    fld 1 t104 fun t105 =>
    load1 t105 h fun t106 =>
    nilck s9 fun t108 =>
    fld 2 t108 fun t109 =>
    load1 t109 h fun t110 =>
    idx 2 t110 s10 fun t112 =>
    fld 0 t112 fun t113 =>
    load1 t113 h fun t114 =>
    Q (.tuple #[t106, t114, (.bool true)]) h)
    (Map_ii_getAt.j8 s0 s1 s2 s9 s10 h K1 K2 Q))
def Map_ii_getAt.l5.b (c0 : Value) (c2 : Value) (c9 : Value) (s1 : Value) (s10 : Value) (h : Heap) (K1 : List Value → Heap → Prop) (K2 : List Value → Heap → Prop) (Q : Value → Heap → Prop) : Prop :=
    nilck c9 fun t64 =>
    fld 2 t64 fun t65 =>
    load1 t65 h fun t66 =>
    lenV t66 fun t67 =>
    cmpI (fun a b => decide (a < b)) s10 t67 fun t68 =>
    ifV t68
    (Map_ii_getAt.j6 c0 s1 c2 c9 s10 h K1 K2 Q)
    (Map_ii_getAt.j4 c0 s1 c2 c9 s10 h K1 Q)
def Map_ii_getAt.j3 (s0 : Value) (s1 : Value) (s2 : Value) (s9 : Value) (h : Heap) (K1 : List Value → Heap → Prop) (Q : Value → Heap → Prop) : Prop :=
    loopC (fun c s h K2 => Map_ii_getAt.l5.b (c.getD 0 undef) (c.getD 1 undef) (c.getD 2 undef) (s.getD 0 undef) (s.getD 1 undef) h K1 K2 Q) [s0, s2, s9] [s1, (.int .i64 0)] h
def Map_ii_getAt.l2.b (c0 : Value) (c2 : Value) (s1 : Value) (s9 : Value) (h : Heap) (K1 : List Value → Heap → Prop) (Q : Value → Heap → Prop) : Prop :=
    mapNode_ii_leaf.call #[s9] h fun t45 h =>
    ifV t45
    (nilck s9 fun t47 =>
    fld 2 t47 fun t48 =>
    load1 t48 h fun t49 =>
    idx 2 t49 s1 fun t51 =>
    fld 1 t51 fun t52 =>
    load1 t52 h fun t53 =>
    nilck s9 fun t55 =>
    fld 2 t55 fun t56 =>
    load1 t56 h fun t57 =>
    idx 2 t57 s1 fun t59 =>
    fld 0 t59 fun t60 =>
    load1 t60 h fun t61 =>
    Q (.tuple #[t53, t61, (.bool true)]) h)
    (Map_ii_getAt.j3 c0 s1 c2 s9 h K1 Q)
def Map_ii_getAt.j1 (s0 : Value) (s1 : Value) (s2 : Value) (h : Heap) (Q : Value → Heap → Prop) : Prop :=
    nilck s0 fun t40 =>
    fld 2 t40 fun t41 =>
    Map_ii_isoLoad.call #[s0, t41, s2] h fun t43 h =>
    loopC (fun c s h K1 => Map_ii_getAt.l2.b (c.getD 0 undef) (c.getD 1 undef) (s.getD 0 undef) (s.getD 1 undef) h K1 Q) [s0, s2] [s1, t43] h
def Map_ii_getAt.sh (a0 : Value) (a1 : Value) (a2 : Value) (h : Heap) (Q : Value → Heap → Prop) : Prop :=
    nilck a0 fun t12 =>
    fld 2 t12 fun t13 =>
    load1 t13 h fun t14 =>
    eqNilP t14 fun t15 =>
    br t15 false (cmpI (fun a b => decide (a < b)) a1 (.int .i64 0) fun t18 =>
    br t18 false (nilck a0 fun t23 =>
    fld 3 t23 fun t24 =>
    load1 t24 h fun t25 =>
    cmpI (fun a b => decide (a ≥ b)) a1 t25 fun t26 =>
    ifV t26
    (nilck a0 fun t29 =>
    fld 4 t29 fun t30 =>
    fld 1 t30 fun t31 =>
    load1 t31 h fun t32 =>
    nilck a0 fun t34 =>
    fld 4 t34 fun t35 =>
    fld 0 t35 fun t36 =>
    load1 t36 h fun t37 =>
    Q (.tuple #[t32, t37, (.bool false)]) h)
    (Map_ii_getAt.j1 a0 a1 a2 h Q)) (nilck a0 fun t29_2 =>
    fld 4 t29_2 fun t30_2 =>
    fld 1 t30_2 fun t31_2 =>
    load1 t31_2 h fun t32_2 =>
    nilck a0 fun t34_2 =>
    fld 4 t34_2 fun t35_2 =>
    fld 0 t35_2 fun t36_2 =>
    load1 t36_2 h fun t37_2 =>
    Q (.tuple #[t32_2, t37_2, (.bool false)]) h)) (nilck a0 fun t29_3 =>
    fld 4 t29_3 fun t30_3 =>
    fld 1 t30_3 fun t31_3 =>
    load1 t31_3 h fun t32_3 =>
    nilck a0 fun t34_3 =>
    fld 4 t34_3 fun t35_3 =>
    fld 0 t35_3 fun t36_3 =>
    load1 t36_3 h fun t37_3 =>
    Q (.tuple #[t32_3, t37_3, (.bool false)]) h)
theorem Map_ii_getAt.body (a0 : Value) (a1 : Value) (a2 : Value) (h : Heap) (Q : Value → Heap → Prop) (H : Map_ii_getAt.sh a0 a1 a2 h Q) : Map_ii_getAt.call #[a0, a1, a2] h Q := by
  refine callsH_of (args := [a0, a1, a2]) Try.func65 rfl rfl ?_
  unfold Map_ii_getAt.sh at H
  refine WPc_seq' ?_
  refine W_region (by kernel_rfl) ?_
  refine vl_n ?_
  refine H_of_R (R_assign (v := (.int .i64 0)) rfl ?_)
  refine vl_n ?_
  refine H_of_R (R_assign (v := (.int .i64 0)) rfl ?_)
  refine vl_n ?_
  refine H_of_R (R_assign (v := (.bool false)) rfl ?_)
  refine vl_e ?_
  refine WPc_seq (fun e h => Map_ii_getAt.j1 (e 0) (e 1) (e 2) h Q) ?_ (fun e h H => ?_)
  rotate_left
  · unfold Map_ii_getAt.j1 at H
    refine WPc_seq' ?_
    refine W_region (by kernel_rfl) ?_
    refine vl_n ?_
    refine H_of_R (R_move (v := (e 0)) rfl ?_)
    refine vl_n ?_
    refine H_of_R (R_move (v := (e 0)) rfl ?_)
    refine vl_n ?_
    refine H_of_R (R_nil H fun t40 H => ?_)
    refine vl_n ?_
    refine H_of_R (R_fld TF_92_2 H fun t41 H => ?_)
    refine vl_n ?_
    refine H_of_R (R_move (v := (e 2)) rfl ?_)
    refine vl_n ?_
    refine H_call HB_77 H fun t43 h H => ?_
    refine vl_n ?_
    refine H_of_R (R_assign (v := t43) rfl ?_)
    refine vl_e ?_
    refine WPc_block ?_
    refine loop_at (fun e => [e 1, e 9]) (fun e => [e 0, e 2]) H rfl rfl ?_
    intro K1 e1 h H hin1
    replace H : Map_ii_getAt.l2.b (e1 0) (e1 2) (e1 1) (e1 9) h K1 Q := H
    unfold Map_ii_getAt.l2.b at H
    clear hin1
    refine WPc_block ?_
    refine WPc_seq (fun e h => Map_ii_getAt.j3 (e 0) (e 1) (e 2) (e 9) h K1 Q ∧ [e1 0, e1 2] = [e 0, e 2]) ?_ (fun e h ⟨H, hq1⟩ => ?_)
    rotate_left
    · unfold Map_ii_getAt.j3 at H
      refine WPc_seq' ?_
      refine W_region (by kernel_rfl) ?_
      refine vl_n ?_
      refine H_of_R (R_assign (v := (.int .i64 0)) rfl ?_)
      refine vl_e ?_
      refine WPc_seq (fun e h => Map_ii_getAt.j4 (e 0) (e 1) (e 2) (e 9) (e 10) h K1 Q ∧ [e1 0, e1 2] = [e 0, e 2]) ?_ (fun e h ⟨H, hq1⟩ => ?_)
      rotate_left
      · unfold Map_ii_getAt.j4 at H
        refine W_region (by kernel_rfl) ?_
        refine vl_n ?_
        refine H_of_R (R_move (v := (e 0)) rfl ?_)
        refine vl_n ?_
        refine H_of_R (R_move (v := (e 9)) rfl ?_)
        refine vl_n ?_
        refine H_of_R (R_nil H fun t132 H => ?_)
        refine vl_n ?_
        refine H_of_R (R_fld TF_105_3 H fun t133 H => ?_)
        refine vl_n ?_
        refine H_of_R (R_load1 T1_103 H fun _ t134 _ _ H => ?_)
        refine vl_n ?_
        refine H_of_R (R_nil H fun t135 H => ?_)
        refine vl_n ?_
        refine H_of_R (R_load1 T1_111 H fun _ t136 _ _ H => ?_)
        refine vl_n ?_
        refine H_of_R (R_move (v := (e 10)) rfl ?_)
        refine vl_n ?_
        refine H_of_R (R_idx TE_111 H fun t138 H => ?_)
        refine vl_n ?_
        refine H_of_R (R_move (v := (e 2)) rfl ?_)
        refine vl_n ?_
        refine H_call HB_77 H fun t140 h H => ?_
        refine vl_n ?_
        refine H_of_R (R_assign (v := t140) rfl ?_)
        refine vl_e ?_
        exact ⟨H, hq1⟩
      refine WPc_block ?_
      refine loop_at (fun e => [e 1, e 10]) (fun e => [e 0, e 2, e 9]) H rfl rfl ?_
      intro K2 e2 h H hin2
      replace H : Map_ii_getAt.l5.b (e2 0) (e2 2) (e2 9) (e2 1) (e2 10) h K1 K2 Q := H
      unfold Map_ii_getAt.l5.b at H
      have hz1 : [e1 0, e1 2] = [e2 0, e2 2] := Eq.trans hq1 (congrArg (fun l : List Value => [l.getD 0 undef, l.getD 1 undef]) hin2)
      clear hin2
      refine WPc_seq (fun e h => Map_ii_getAt.j6 (e 0) (e 1) (e 2) (e 9) (e 10) h K1 K2 Q ∧ [e1 0, e1 2] = [e 0, e 2] ∧ [e2 0, e2 2, e2 9] = [e 0, e 2, e 9]) ?_ (fun e h ⟨H, hq1, hq2⟩ => ?_)
      rotate_left
      · unfold Map_ii_getAt.j6 at H
        refine WPc_seq (fun e h => Map_ii_getAt.j7 (e 0) (e 1) (e 2) (e 9) (e 10) h K1 K2 Q ∧ [e1 0, e1 2] = [e 0, e 2] ∧ [e2 0, e2 2, e2 9] = [e 0, e 2, e 9]) ?_ (fun e h ⟨H, hq1, hq2⟩ => ?_)
        rotate_left
        · unfold Map_ii_getAt.j7 at H
          refine W_region (by kernel_rfl) ?_
          refine vl_n ?_
          refine H_of_R (R_move (v := (e 10)) rfl ?_)
          refine vl_n ?_
          refine H_of_R (R_add H fun t70 H => ?_)
          refine vl_n ?_
          refine H_of_R (R_assign (v := t70) rfl ?_)
          refine vl_e ?_
          exact ⟨H, hq2⟩
        refine WPc_block ?_
        refine WPc_seq (fun e h => Map_ii_getAt.j8 (e 0) (e 1) (e 2) (e 9) (e 10) h K1 K2 Q ∧ [e1 0, e1 2] = [e 0, e 2] ∧ [e2 0, e2 2, e2 9] = [e 0, e 2, e 9]) ?_ (fun e h ⟨H, hq1, hq2⟩ => ?_)
        rotate_left
        · unfold Map_ii_getAt.j8 at H
          refine W_region (by kernel_rfl) ?_
          refine vl_n ?_
          refine H_of_R (R_move (v := (e 1)) rfl ?_)
          refine vl_n ?_
          refine H_of_R (R_move (v := (e 9)) rfl ?_)
          refine vl_n ?_
          refine H_of_R (R_nil H fun t117 H => ?_)
          refine vl_n ?_
          refine H_of_R (R_fld TF_105_3 H fun t118 H => ?_)
          refine vl_n ?_
          refine H_of_R (R_load1 T1_103 H fun _ t119 _ _ H => ?_)
          refine vl_n ?_
          refine H_of_R (R_nil H fun t120 H => ?_)
          refine vl_n ?_
          refine H_of_R (R_load1 T1_111 H fun _ t121 _ _ H => ?_)
          refine vl_n ?_
          refine H_of_R (R_move (v := (e 10)) rfl ?_)
          refine vl_n ?_
          refine H_of_R (R_idx TE_111 H fun t123 H => ?_)
          refine vl_n ?_
          refine H_of_R (R_load1 T1_63 H fun _ t124 _ _ H => ?_)
          refine vl_n ?_
          refine H_of_R (R_nil H fun t125 H => ?_)
          refine vl_n ?_
          refine H_of_R (R_fld TF_105_1 H fun t126 H => ?_)
          refine vl_n ?_
          refine H_of_R (R_load1 T1_3 H fun _ t127 _ _ H => ?_)
          refine vl_n ?_
          refine H_of_R (R_add H fun t128 H => ?_)
          refine vl_n ?_
          refine H_of_R (R_sub H fun t129 H => ?_)
          refine vl_n ?_
          refine H_of_R (R_assign (v := t129) rfl ?_)
          refine vl_e ?_
          exact ⟨H, hq1, hq2⟩
        refine WPc_seq' ?_
        refine W_region (by kernel_rfl) ?_
        refine vl_n ?_
        refine H_of_R (R_move (v := (e 1)) rfl ?_)
        refine vl_n ?_
        refine H_of_R (R_move (v := (e 9)) rfl ?_)
        refine vl_n ?_
        refine H_of_R (R_nil H fun t73 H => ?_)
        refine vl_n ?_
        refine H_of_R (R_fld TF_105_3 H fun t74 H => ?_)
        refine vl_n ?_
        refine H_of_R (R_load1 T1_103 H fun _ t75 _ _ H => ?_)
        refine vl_n ?_
        refine H_of_R (R_nil H fun t76 H => ?_)
        refine vl_n ?_
        refine H_of_R (R_load1 T1_111 H fun _ t77 _ _ H => ?_)
        refine vl_n ?_
        refine H_of_R (R_move (v := (e 10)) rfl ?_)
        refine vl_n ?_
        refine H_of_R (R_idx TE_111 H fun t79 H => ?_)
        refine vl_n ?_
        refine H_of_R (R_load1 T1_63 H fun _ t80 _ _ H => ?_)
        refine vl_n ?_
        refine H_of_R (R_nil H fun t81 H => ?_)
        refine vl_n ?_
        refine H_of_R (R_fld TF_105_1 H fun t82 H => ?_)
        refine vl_n ?_
        refine H_of_R (R_load1 T1_3 H fun _ t83 _ _ H => ?_)
        refine vl_n ?_
        refine H_of_R (R_lss H fun t84 H => ?_)
        refine vl_e ?_
        obtain ⟨b, hc, H1, H2⟩ := H
        refine WPc_cond hc (fun hh => ?_) (fun hh => ?_)
        · have H := H1 hh; clear H1 H2
          refine WPc_exit ?_
          exact ⟨H, hq1⟩
        · have H := H2 hh; clear H1 H2
          refine WPc_seq' ?_
          refine W_region (by kernel_rfl) ?_
          refine vl_n ?_
          refine H_of_R (R_move (v := (e 1)) rfl ?_)
          refine vl_n ?_
          refine H_of_R (R_move (v := (e 9)) rfl ?_)
          refine vl_n ?_
          refine H_of_R (R_nil H fun t87 H => ?_)
          refine vl_n ?_
          refine H_of_R (R_fld TF_105_3 H fun t88 H => ?_)
          refine vl_n ?_
          refine H_of_R (R_load1 T1_103 H fun _ t89 _ _ H => ?_)
          refine vl_n ?_
          refine H_of_R (R_nil H fun t90 H => ?_)
          refine vl_n ?_
          refine H_of_R (R_load1 T1_111 H fun _ t91 _ _ H => ?_)
          refine vl_n ?_
          refine H_of_R (R_move (v := (e 10)) rfl ?_)
          refine vl_n ?_
          refine H_of_R (R_idx TE_111 H fun t93 H => ?_)
          refine vl_n ?_
          refine H_of_R (R_load1 T1_63 H fun _ t94 _ _ H => ?_)
          refine vl_n ?_
          refine H_of_R (R_nil H fun t95 H => ?_)
          refine vl_n ?_
          refine H_of_R (R_fld TF_105_1 H fun t96 H => ?_)
          refine vl_n ?_
          refine H_of_R (R_load1 T1_3 H fun _ t97 _ _ H => ?_)
          refine vl_n ?_
          refine H_of_R (R_eqI H fun t98 H => ?_)
          refine vl_e ?_
          obtain ⟨b_2, hc_2, H1, H2⟩ := H
          refine WPc_cond hc_2 (fun hh => ?_) (fun hh => ?_)
          · have H := H1 hh; clear H1 H2
            refine WPc_seq' ?_
            refine W_drawn [0, 1, 3, 7, 0, 31, 63, 127, 0, 256, 768, 1792, 0, 7936, 16128, 32512, 255, 131071, 262143] (.take 0 (.take 1 (.take 2 (.take 3 (.take 4 (.take 5 (.take 6 (.take 7 (.take 8 (.take 9 (.take 10 (.take 11 (.take 12 (.take 13 (.take 14 (.take 15 (.take 16 (.take 17 (.take 18 .done))))))))))))))))))) mixed (by kernel_rfl) ?_
            refine tkP rfl ?_
            refine R_move (v := (e 9)) rfl ⟨fun _ => trivial, ?_⟩
            refine tkP rfl ?_
            refine R_nil H fun t100 H => ⟨fun _ => trivial, ?_⟩
            refine tkP rfl ?_
            refine R_fld TF_105_2 H fun t101 H => ⟨fun _ => trivial, ?_⟩
            refine tkL rfl ?_
            refine R_load1 T1_102 H fun at102 t102 hat102 _ H => ?_
            refine tkP rfl ?_
            refine R_move (v := (e 10)) rfl ⟨fun _ => trivial, ?_⟩
            refine tkP rfl ?_
            refine R_idx TE_102 H fun t104 H => ⟨fun _ => trivial, ?_⟩
            refine tkP rfl ?_
            refine R_fld TF_90_1 H fun t105 H => ⟨fun _ => trivial, ?_⟩
            refine tkL rfl ?_
            refine R_load1 T1_3 H fun at106 t106 hat106 _ H => ?_
            refine tkP rfl ?_
            refine R_move (v := (e 9)) rfl ⟨fun _ => trivial, ?_⟩
            refine tkP rfl ?_
            refine R_nil H fun t108 H => ⟨fun _ => trivial, ?_⟩
            refine tkP rfl ?_
            refine R_fld TF_105_2 H fun t109 H => ⟨fun _ => trivial, ?_⟩
            refine tkL rfl ?_
            refine R_load1 T1_102 H fun at110 t110 hat110 _ H => ?_
            refine tkP rfl ?_
            refine R_move (v := (e 10)) rfl ⟨fun _ => trivial, ?_⟩
            refine tkP rfl ?_
            refine R_idx TE_102 H fun t112 H => ⟨fun _ => trivial, ?_⟩
            refine tkP rfl ?_
            refine R_fld TF_90_0 H fun t113 H => ⟨fun _ => trivial, ?_⟩
            refine tkL rfl ?_
            refine R_load1 T1_3 H fun at114 t114 hat114 _ H => ?_
            refine tkP rfl ?_
            refine R_assign (v := t106) rfl ⟨fun _ => trivial, ?_⟩
            refine tkP rfl ?_
            refine R_assign (v := t114) rfl ⟨fun _ => trivial, ?_⟩
            refine tkP rfl ?_
            refine R_assign (v := (.bool true)) rfl ⟨fun _ => trivial, ?_⟩
            refine vp_done ?_
            refine WPc_ret ?_
            refine resH_of rfl ?_
            exact H
          · have H := H2 hh; clear H1 H2
            refine WPc_skip ?_
            exact ⟨H, hq1, hq2⟩
      refine WPc_seq' ?_
      refine W_region (by kernel_rfl) ?_
      refine vl_n ?_
      refine H_of_R (R_move (v := (e2 10)) rfl ?_)
      refine vl_n ?_
      refine H_of_R (R_move (v := (e2 9)) rfl ?_)
      refine vl_n ?_
      refine H_of_R (R_nil H fun t64 H => ?_)
      refine vl_n ?_
      refine H_of_R (R_fld TF_105_2 H fun t65 H => ?_)
      refine vl_n ?_
      refine H_of_R (R_load1 T1_102 H fun _ t66 _ _ H => ?_)
      refine vl_n ?_
      refine H_of_R (R_len Try.underlying102 H fun t67 H => ?_)
      refine vl_n ?_
      refine H_of_R (R_lss H fun t68 H => ?_)
      refine vl_e ?_
      obtain ⟨b, hc, H1, H2⟩ := H
      refine WPc_cond hc (fun hh => ?_) (fun hh => ?_)
      · have H := H1 hh; clear H1 H2
        refine WPc_skip ?_
        exact ⟨H, hz1, rfl⟩
      · have H := H2 hh; clear H1 H2
        refine WPc_exit ?_
        exact ⟨H, hz1⟩
    refine WPc_seq' ?_
    refine W_region (by kernel_rfl) ?_
    refine vl_n ?_
    refine H_of_R (R_move (v := (e1 9)) rfl ?_)
    refine vl_n ?_
    refine H_call HB_78 H fun t45 h H => ?_
    refine vl_e ?_
    obtain ⟨b, hc, H1, H2⟩ := H
    refine WPc_cond hc (fun hh => ?_) (fun hh => ?_)
    · have H := H1 hh; clear H1 H2
      refine WPc_seq' ?_
      refine W_drawn [0, 1, 3, 7, 0, 31, 63, 127, 0, 256, 768, 1792, 0, 7936, 16128, 32512, 255, 131071, 262143] (.take 0 (.take 1 (.take 2 (.take 3 (.take 4 (.take 5 (.take 6 (.take 7 (.take 8 (.take 9 (.take 10 (.take 11 (.take 12 (.take 13 (.take 14 (.take 15 (.take 16 (.take 17 (.take 18 .done))))))))))))))))))) mixed (by kernel_rfl) ?_
      refine tkP rfl ?_
      refine R_move (v := (e1 9)) rfl ⟨fun _ => trivial, ?_⟩
      refine tkP rfl ?_
      refine R_nil H fun t47 H => ⟨fun _ => trivial, ?_⟩
      refine tkP rfl ?_
      refine R_fld TF_105_2 H fun t48 H => ⟨fun _ => trivial, ?_⟩
      refine tkL rfl ?_
      refine R_load1 T1_102 H fun at49 t49 hat49 _ H => ?_
      refine tkP rfl ?_
      refine R_move (v := (e1 1)) rfl ⟨fun _ => trivial, ?_⟩
      refine tkP rfl ?_
      refine R_idx TE_102 H fun t51 H => ⟨fun _ => trivial, ?_⟩
      refine tkP rfl ?_
      refine R_fld TF_90_1 H fun t52 H => ⟨fun _ => trivial, ?_⟩
      refine tkL rfl ?_
      refine R_load1 T1_3 H fun at53 t53 hat53 _ H => ?_
      refine tkP rfl ?_
      refine R_move (v := (e1 9)) rfl ⟨fun _ => trivial, ?_⟩
      refine tkP rfl ?_
      refine R_nil H fun t55 H => ⟨fun _ => trivial, ?_⟩
      refine tkP rfl ?_
      refine R_fld TF_105_2 H fun t56 H => ⟨fun _ => trivial, ?_⟩
      refine tkL rfl ?_
      refine R_load1 T1_102 H fun at57 t57 hat57 _ H => ?_
      refine tkP rfl ?_
      refine R_move (v := (e1 1)) rfl ⟨fun _ => trivial, ?_⟩
      refine tkP rfl ?_
      refine R_idx TE_102 H fun t59 H => ⟨fun _ => trivial, ?_⟩
      refine tkP rfl ?_
      refine R_fld TF_90_0 H fun t60 H => ⟨fun _ => trivial, ?_⟩
      refine tkL rfl ?_
      refine R_load1 T1_3 H fun at61 t61 hat61 _ H => ?_
      refine tkP rfl ?_
      refine R_assign (v := t53) rfl ⟨fun _ => trivial, ?_⟩
      refine tkP rfl ?_
      refine R_assign (v := t61) rfl ⟨fun _ => trivial, ?_⟩
      refine tkP rfl ?_
      refine R_assign (v := (.bool true)) rfl ⟨fun _ => trivial, ?_⟩
      refine vp_done ?_
      refine WPc_ret ?_
      refine resH_of rfl ?_
      exact H
    · have H := H2 hh; clear H1 H2
      refine WPc_skip ?_
      exact ⟨H, rfl⟩
  refine WPc_seq' ?_
  refine W_region (by kernel_rfl) ?_
  refine vl_n ?_
  refine H_of_R (R_move (v := a0) rfl ?_)
  refine vl_n ?_
  refine H_of_R (R_nil H fun t12 H => ?_)
  refine vl_n ?_
  refine H_of_R (R_fld TF_92_2 H fun t13 H => ?_)
  refine vl_n ?_
  refine H_of_R (R_load1 T1_63 H fun _ t14 _ _ H => ?_)
  refine vl_n ?_
  refine H_of_R (R_eqNilP Try.underlying63 rfl H fun t15 H => ?_)
  refine vl_n ?_
  refine H_of_R (R_move (v := t15) rfl ?_)
  obtain ⟨b, hb, H1, H2⟩ := H
  cases b
  · have H := H1 rfl; clear H1 H2
    refine vl_y rfl hb ?_
    refine H_of_R (R_move (v := a1) rfl ?_)
    refine vl_y rfl hb ?_
    refine H_of_R (R_lss H fun t18 H => ?_)
    refine vl_n ?_
    refine H_of_R (R_pickC (v := t18) false hb rfl ?_)
    refine vl_n ?_
    refine H_of_R (R_move (v := t18) rfl ?_)
    obtain ⟨b_2, hb_2, H1, H2⟩ := H
    cases b_2
    · have H := H1 rfl; clear H1 H2
      refine vl_y rfl hb_2 ?_
      refine H_of_R (R_move (v := a1) rfl ?_)
      refine vl_y rfl hb_2 ?_
      refine H_of_R (R_move (v := a0) rfl ?_)
      refine vl_y rfl hb_2 ?_
      refine H_of_R (R_nil H fun t23 H => ?_)
      refine vl_y rfl hb_2 ?_
      refine H_of_R (R_fld TF_92_3 H fun t24 H => ?_)
      refine vl_y rfl hb_2 ?_
      refine H_of_R (R_load1 T1_3 H fun _ t25 _ _ H => ?_)
      refine vl_y rfl hb_2 ?_
      refine H_of_R (R_geq H fun t26 H => ?_)
      refine vl_n ?_
      refine H_of_R (R_pickC (v := t26) false hb_2 rfl ?_)
      refine vl_e ?_
      obtain ⟨b_3, hc, H1, H2⟩ := H
      refine WPc_cond hc (fun hh => ?_) (fun hh => ?_)
      · have H := H1 hh; clear H1 H2
        refine WPc_seq' ?_
        refine W_drawn [0, 1, 3, 7, 15, 0, 32, 96, 224, 480, 31, 2047, 4095] (.take 0 (.take 1 (.take 2 (.take 3 (.take 4 (.take 5 (.take 6 (.take 7 (.take 8 (.take 9 (.take 10 (.take 11 (.take 12 .done))))))))))))) mixed (by kernel_rfl) ?_
        refine tkP rfl ?_
        refine R_move (v := a0) rfl ⟨fun _ => trivial, ?_⟩
        refine tkP rfl ?_
        refine R_nil H fun t29 H => ⟨fun _ => trivial, ?_⟩
        refine tkP rfl ?_
        refine R_fld TF_92_4 H fun t30 H => ⟨fun _ => trivial, ?_⟩
        refine tkP rfl ?_
        refine R_fld TF_90_1 H fun t31 H => ⟨fun _ => trivial, ?_⟩
        refine tkL rfl ?_
        refine R_load1 T1_3 H fun at32 t32 hat32 _ H => ?_
        refine tkP rfl ?_
        refine R_move (v := a0) rfl ⟨fun _ => trivial, ?_⟩
        refine tkP rfl ?_
        refine R_nil H fun t34 H => ⟨fun _ => trivial, ?_⟩
        refine tkP rfl ?_
        refine R_fld TF_92_4 H fun t35 H => ⟨fun _ => trivial, ?_⟩
        refine tkP rfl ?_
        refine R_fld TF_90_0 H fun t36 H => ⟨fun _ => trivial, ?_⟩
        refine tkL rfl ?_
        refine R_load1 T1_3 H fun at37 t37 hat37 _ H => ?_
        refine tkP rfl ?_
        refine R_assign (v := t32) rfl ⟨fun _ => trivial, ?_⟩
        refine tkP rfl ?_
        refine R_assign (v := t37) rfl ⟨fun _ => trivial, ?_⟩
        refine tkP rfl ?_
        refine R_assign (v := (.bool false)) rfl ⟨fun _ => trivial, ?_⟩
        refine vp_done ?_
        refine WPc_ret ?_
        refine resH_of rfl ?_
        exact H
      · have H := H2 hh; clear H1 H2
        refine WPc_skip ?_
        exact H
    · have H := H2 rfl; clear H1 H2
      refine vl_s rfl (nbF hb_2) ?_
      refine vl_s rfl (nbF hb_2) ?_
      refine vl_s rfl (nbF hb_2) ?_
      refine vl_s rfl (nbF hb_2) ?_
      refine vl_s rfl (nbF hb_2) ?_
      refine vl_s rfl (nbF hb_2) ?_
      refine vl_n ?_
      refine H_of_R (R_pickC (v := (.bool true)) true hb_2 rfl ?_)
      refine vl_e ?_
      refine WPc_cond (t := true) rfl (fun _ => ?_) (fun hh => by cases hh)
      refine WPc_seq' ?_
      refine W_drawn [0, 1, 3, 7, 15, 0, 32, 96, 224, 480, 31, 2047, 4095] (.take 0 (.take 1 (.take 2 (.take 3 (.take 4 (.take 5 (.take 6 (.take 7 (.take 8 (.take 9 (.take 10 (.take 11 (.take 12 .done))))))))))))) mixed (by kernel_rfl) ?_
      refine tkP rfl ?_
      refine R_move (v := a0) rfl ⟨fun _ => trivial, ?_⟩
      refine tkP rfl ?_
      refine R_nil H fun t29_2 H => ⟨fun _ => trivial, ?_⟩
      refine tkP rfl ?_
      refine R_fld TF_92_4 H fun t30_2 H => ⟨fun _ => trivial, ?_⟩
      refine tkP rfl ?_
      refine R_fld TF_90_1 H fun t31_2 H => ⟨fun _ => trivial, ?_⟩
      refine tkL rfl ?_
      refine R_load1 T1_3 H fun at32_2 t32_2 hat32_2 _ H => ?_
      refine tkP rfl ?_
      refine R_move (v := a0) rfl ⟨fun _ => trivial, ?_⟩
      refine tkP rfl ?_
      refine R_nil H fun t34_2 H => ⟨fun _ => trivial, ?_⟩
      refine tkP rfl ?_
      refine R_fld TF_92_4 H fun t35_2 H => ⟨fun _ => trivial, ?_⟩
      refine tkP rfl ?_
      refine R_fld TF_90_0 H fun t36_2 H => ⟨fun _ => trivial, ?_⟩
      refine tkL rfl ?_
      refine R_load1 T1_3 H fun at37_2 t37_2 hat37_2 _ H => ?_
      refine tkP rfl ?_
      refine R_assign (v := t32_2) rfl ⟨fun _ => trivial, ?_⟩
      refine tkP rfl ?_
      refine R_assign (v := t37_2) rfl ⟨fun _ => trivial, ?_⟩
      refine tkP rfl ?_
      refine R_assign (v := (.bool false)) rfl ⟨fun _ => trivial, ?_⟩
      refine vp_done ?_
      refine WPc_ret ?_
      refine resH_of rfl ?_
      exact H
  · have H := H2 rfl; clear H1 H2
    refine vl_s rfl (nbF hb) ?_
    refine vl_s rfl (nbF hb) ?_
    refine vl_n ?_
    refine H_of_R (R_pickC (v := (.bool true)) true hb rfl ?_)
    refine vl_n ?_
    refine H_of_R (R_move (v := (.bool true)) rfl ?_)
    refine vl_s rfl (nbF rfl) ?_
    refine vl_s rfl (nbF rfl) ?_
    refine vl_s rfl (nbF rfl) ?_
    refine vl_s rfl (nbF rfl) ?_
    refine vl_s rfl (nbF rfl) ?_
    refine vl_s rfl (nbF rfl) ?_
    refine vl_n ?_
    refine H_of_R (R_pickC (v := (.bool true)) true rfl rfl ?_)
    refine vl_e ?_
    refine WPc_cond (t := true) rfl (fun _ => ?_) (fun hh => by cases hh)
    refine WPc_seq' ?_
    refine W_drawn [0, 1, 3, 7, 15, 0, 32, 96, 224, 480, 31, 2047, 4095] (.take 0 (.take 1 (.take 2 (.take 3 (.take 4 (.take 5 (.take 6 (.take 7 (.take 8 (.take 9 (.take 10 (.take 11 (.take 12 .done))))))))))))) mixed (by kernel_rfl) ?_
    refine tkP rfl ?_
    refine R_move (v := a0) rfl ⟨fun _ => trivial, ?_⟩
    refine tkP rfl ?_
    refine R_nil H fun t29_3 H => ⟨fun _ => trivial, ?_⟩
    refine tkP rfl ?_
    refine R_fld TF_92_4 H fun t30_3 H => ⟨fun _ => trivial, ?_⟩
    refine tkP rfl ?_
    refine R_fld TF_90_1 H fun t31_3 H => ⟨fun _ => trivial, ?_⟩
    refine tkL rfl ?_
    refine R_load1 T1_3 H fun at32_3 t32_3 hat32_3 _ H => ?_
    refine tkP rfl ?_
    refine R_move (v := a0) rfl ⟨fun _ => trivial, ?_⟩
    refine tkP rfl ?_
    refine R_nil H fun t34_3 H => ⟨fun _ => trivial, ?_⟩
    refine tkP rfl ?_
    refine R_fld TF_92_4 H fun t35_3 H => ⟨fun _ => trivial, ?_⟩
    refine tkP rfl ?_
    refine R_fld TF_90_0 H fun t36_3 H => ⟨fun _ => trivial, ?_⟩
    refine tkL rfl ?_
    refine R_load1 T1_3 H fun at37_3 t37_3 hat37_3 _ H => ?_
    refine tkP rfl ?_
    refine R_assign (v := t32_3) rfl ⟨fun _ => trivial, ?_⟩
    refine tkP rfl ?_
    refine R_assign (v := t37_3) rfl ⟨fun _ => trivial, ?_⟩
    refine tkP rfl ?_
    refine R_assign (v := (.bool false)) rfl ⟨fun _ => trivial, ?_⟩
    refine vp_done ?_
    refine WPc_ret ?_
    refine resH_of rfl ?_
    exact H
/-! ### (*pub/tidwallbtree.Map[int, int]).GetAt -/
def Map_ii_GetAt.sh (a0 : Value) (a1 : Value) (h : Heap) (Q : Value → Heap → Prop) : Prop :=
    Map_ii_getAt.call #[a0, a1, (.bool false)] h fun t9 h =>
    extr 0 t9 fun t10 =>
    extr 1 t9 fun t11 =>
    extr 2 t9 fun t12 =>
    Q (.tuple #[t10, t11, t12]) h
theorem Map_ii_GetAt.body (a0 : Value) (a1 : Value) (h : Heap) (Q : Value → Heap → Prop) (H : Map_ii_GetAt.sh a0 a1 h Q) : Map_ii_GetAt.call #[a0, a1] h Q := by
  refine callsH_of (args := [a0, a1]) Try.func37 rfl rfl ?_
  unfold Map_ii_GetAt.sh at H
  refine WPc_seq' ?_
  refine W_region (by kernel_rfl) ?_
  refine vl_n ?_
  refine H_of_R (R_assign (v := (.int .i64 0)) rfl ?_)
  refine vl_n ?_
  refine H_of_R (R_assign (v := (.int .i64 0)) rfl ?_)
  refine vl_n ?_
  refine H_of_R (R_assign (v := (.bool false)) rfl ?_)
  refine vl_e ?_
  refine WPc_seq' ?_
  refine W_region (by kernel_rfl) ?_
  refine vl_n ?_
  refine H_of_R (R_move (v := a0) rfl ?_)
  refine vl_n ?_
  refine H_of_R (R_move (v := a1) rfl ?_)
  refine vl_n ?_
  refine H_call HB_65 H fun t9 h H => ?_
  refine vl_n ?_
  refine H_of_R (R_ext H fun t10 H => ?_)
  refine vl_n ?_
  refine H_of_R (R_ext H fun t11 H => ?_)
  refine vl_n ?_
  refine H_of_R (R_ext H fun t12 H => ?_)
  refine vl_n ?_
  refine H_of_R (R_assign (v := t10) rfl ?_)
  refine vl_n ?_
  refine H_of_R (R_assign (v := t11) rfl ?_)
  refine vl_n ?_
  refine H_of_R (R_assign (v := t12) rfl ?_)
  refine vl_e ?_
  refine WPc_ret ?_
  refine resH_of rfl ?_
  exact H
/-! ### impl.DGetAt -/
def i_DGetAt.sh (a0 : Value) (a1 : Value) (a2 : Value) (h : Heap) (Q : Value → Heap → Prop) : Prop :=
    box 34 a1 h fun t4 h =>
    alloc [(.int .i64 0), (.int .i64 0), (.bool false)] 38 h fun t6 h =>
    loadN 3 t4 h fun t8 =>
    i_standMap.call #[a0, t8] h fun t9 h =>
    Map_ii_GetAt.call #[t9, a2] h fun t11 h =>
    extr 0 t11 fun t12 =>
    extr 1 t11 fun t13 =>
    extr 2 t11 fun t14 =>
    i_pair.call #[t12, t13, t14] h fun t15 h =>
    storeN 3 t6 t15 h fun h =>
    loadN 3 t6 h fun r6 =>
    Q r6 h
theorem i_DGetAt.body (a0 : Value) (a1 : Value) (a2 : Value) (h : Heap) (Q : Value → Heap → Prop) (H : i_DGetAt.sh a0 a1 a2 h Q) : i_DGetAt.call #[a0, a1, a2] h Q := by
  refine callsH_of (args := [a0, a1, a2]) Try.func15 rfl rfl ?_
  unfold i_DGetAt.sh at H
  refine WPc_seq' ?_
  refine W_region (by kernel_rfl) ?_
  refine vl_n ?_
  refine H_box H fun t4 h H => ?_
  refine vl_n ?_
  refine H_alloc TV_38 H fun t6 h H => ?_
  refine vl_e ?_
  refine WPc_seq' ?_
  refine W_region (by kernel_rfl) ?_
  refine vl_n ?_
  refine H_of_R (R_move (v := a0) rfl ?_)
  refine vl_n ?_
  refine H_of_R (R_loadN TN_34 H fun _ t8 _ _ H _ _ => ?_)
  refine vl_n ?_
  refine H_call HB_36 H fun t9 h H => ?_
  refine vl_n ?_
  refine H_of_R (R_move (v := a2) rfl ?_)
  refine vl_n ?_
  refine H_call HB_37 H fun t11 h H => ?_
  refine vl_n ?_
  refine H_of_R (R_ext H fun t12 H => ?_)
  refine vl_n ?_
  refine H_of_R (R_ext H fun t13 H => ?_)
  refine vl_n ?_
  refine H_of_R (R_ext H fun t14 H => ?_)
  refine vl_n ?_
  refine H_call HB_35 H fun t15 h H => ?_
  refine vl_n ?_
  refine H_storeN TS_38 H fun h H => ?_
  refine vl_e ?_
  refine WPc_ret ?_
  refine resH_of rfl ?_
  refine resL_N TN_38 ?_
  refine loadN_imp H fun r6 H => ?_
  exact H
/-! ### spec.Cut -/
def s_Cut.j1 (s0 : Value) (s1 : Value) (s5 : Value) (h : Heap) (Q : Value → Heap → Prop) : Prop :=
    slc 2 s0 none (some s1) none fun t19 =>
    arith (· + ·) s1 (.int .i64 1) fun t23 =>
    slc 2 s0 (some t23) none none fun t24 =>
    idx 2 s0 s1 fun t28 =>
    loadN 2 t28 h fun t29 =>
    buildV [(.int .i64 0), (.int .i64 0), (.bool false)] [(0, 2, t29), (2, 1, (.bool true))] fun t30 =>
    mkSl (if 0 * 2 = 0 then [] else zeros [(.int .i64 0), (.int .i64 0)] 0) 0 [] 30 h fun t16 h =>
    stillN 2 t28 t29 h ∧ app 30 2 16 [(.int .i64 0), (.int .i64 0)] t16 t19 h fun t20 h =>
    stillN 2 t28 t29 h ∧ app 30 2 16 [(.int .i64 0), (.int .i64 0)] t20 t24 h fun t25 h =>
    stillN 2 t28 t29 h ∧ storeN 3 s5 t30 h fun h =>
    loadN 3 s5 h fun r5 =>
    Q (.tuple #[t25, r5]) h
def s_Cut.sh (a0 : Value) (a1 : Value) (h : Heap) (Q : Value → Heap → Prop) : Prop :=
    alloc [(.int .i64 0), (.int .i64 0), (.bool false)] 38 h fun t5 h =>
    cmpI (fun a b => decide (a < b)) a1 (.int .i64 0) fun t7 =>
    br t7 false (lenV a0 fun t11 =>
    cmpI (fun a b => decide (a ≥ b)) a1 t11 fun t12 =>
    ifV t12
    (buildV [(.int .i64 0), (.int .i64 0), (.bool false)] [] fun t15 =>
    storeN 3 t5 t15 h fun h =>
    loadN 3 t5 h fun r5 =>
    Q (.tuple #[a0, r5]) h)
    (s_Cut.j1 a0 a1 t5 h Q)) (buildV [(.int .i64 0), (.int .i64 0), (.bool false)] [] fun t15_2 =>
    storeN 3 t5 t15_2 h fun h =>
    loadN 3 t5 h fun r5_2 =>
    Q (.tuple #[a0, r5_2]) h)
theorem s_Cut.body (a0 : Value) (a1 : Value) (h : Heap) (Q : Value → Heap → Prop) (H : s_Cut.sh a0 a1 h Q) : s_Cut.call #[a0, a1] h Q := by
  refine callsH_of (args := [a0, a1]) Try.func38 rfl rfl ?_
  unfold s_Cut.sh at H
  refine WPc_seq' ?_
  refine W_region (by kernel_rfl) ?_
  refine vl_n ?_
  refine H_of_R (R_assign (v := (.slice none 0 0)) rfl ?_)
  refine vl_n ?_
  refine H_alloc TV_38 H fun t5 h H => ?_
  refine vl_e ?_
  refine WPc_seq (fun e h => s_Cut.j1 (e 0) (e 1) (e 5) h Q) ?_ (fun e h H => ?_)
  rotate_left
  · unfold s_Cut.j1 at H
    refine WPc_seq' ?_
    refine W_drawn [0, 0, 0, 6, 15, 0, 0, 64, 224, 511, 0, 0, 3072, 7168, 15360, 1023, 65535] (.take 1 (.take 2 (.take 3 (.take 5 (.take 6 (.take 7 (.take 8 (.take 10 (.take 11 (.take 12 (.take 13 (.take 14 (.alt 0 (.alt 4 (.alt 9 (.take 15 (.alt 16 .done .none)) .none) .none) .none))))))))))))) mixed (by kernel_rfl) ?_
    refine tkP rfl ?_
    refine R_move (v := (e 0)) rfl ⟨fun _ => trivial, ?_⟩
    refine tkP rfl ?_
    refine R_move (v := (e 1)) rfl ⟨fun _ => trivial, ?_⟩
    refine tkP rfl ?_
    refine R_slice TE_22 (by decide) H fun t19 H => ⟨fun _ => trivial, ?_⟩
    refine tkP rfl ?_
    refine R_move (v := (e 0)) rfl ⟨fun _ => trivial, ?_⟩
    refine tkP rfl ?_
    refine R_move (v := (e 1)) rfl ⟨fun _ => trivial, ?_⟩
    refine tkP rfl ?_
    refine R_add H fun t23 H => ⟨fun _ => trivial, ?_⟩
    refine tkP rfl ?_
    refine R_slice TE_22 (by decide) H fun t24 H => ⟨fun _ => trivial, ?_⟩
    refine tkP rfl ?_
    refine R_move (v := (e 0)) rfl ⟨fun _ => trivial, ?_⟩
    refine tkP rfl ?_
    refine R_move (v := (e 1)) rfl ⟨fun _ => trivial, ?_⟩
    refine tkP rfl ?_
    refine R_idx TE_22 H fun t28 H => ⟨fun _ => trivial, ?_⟩
    refine tkL rfl ?_
    refine R_loadN TN_30 H fun at29 xt29 hat29 _ H St29 hSt29 => ?_
    refine tkP rfl ?_
    refine R_build TB_38 rfl (by decide) H fun t30 H => ⟨fun _ => trivial, ?_⟩
    refine alt_n rfl ?_ vp_none
    refine H_mkSl TZ_22 (by decide) rfl H rfl fun t16 h ⟨S, H⟩ => ⟨(hcons rfl (hSt29 _ (still_N S hat29 rfl)) hnil), ?_⟩
    refine alt_n rfl ?_ vp_none
    refine H_app TZ_22 TU_22 H fun t20 h ⟨S_2, H⟩ => ⟨(hcons rfl (hSt29 _ (still_N S_2 hat29 rfl)) hnil), ?_⟩
    refine alt_n rfl ?_ vp_none
    refine H_app TZ_22 TU_22 H fun t25 h ⟨S_3, H⟩ => ⟨(hcons rfl (hSt29 _ (still_N S_3 hat29 rfl)) hnil), ?_⟩
    refine tkP rfl ?_
    refine R_assign (v := t25) rfl ⟨fun _ => trivial, ?_⟩
    refine alt_n rfl ?_ vp_none
    refine H_storeN TS_38 H fun h H => ⟨(hskip rfl hnil), ?_⟩
    refine vp_done ?_
    refine WPc_ret ?_
    refine resH_of rfl ?_
    refine resL_t ?_
    refine resL_N TN_38 ?_
    refine loadN_imp H fun r5 H => ?_
    exact H
  refine WPc_seq' ?_
  refine W_region (by kernel_rfl) ?_
  refine vl_n ?_
  refine H_of_R (R_move (v := a1) rfl ?_)
  refine vl_n ?_
  refine H_of_R (R_lss H fun t7 H => ?_)
  refine vl_n ?_
  refine H_of_R (R_move (v := t7) rfl ?_)
  obtain ⟨b, hb, H1, H2⟩ := H
  cases b
  · have H := H1 rfl; clear H1 H2
    refine vl_y rfl hb ?_
    refine H_of_R (R_move (v := a1) rfl ?_)
    refine vl_y rfl hb ?_
    refine H_of_R (R_move (v := a0) rfl ?_)
    refine vl_y rfl hb ?_
    refine H_of_R (R_len Try.underlying22 H fun t11 H => ?_)
    refine vl_y rfl hb ?_
    refine H_of_R (R_geq H fun t12 H => ?_)
    refine vl_n ?_
    refine H_of_R (R_pickC (v := t12) false hb rfl ?_)
    refine vl_e ?_
    obtain ⟨b_2, hc, H1, H2⟩ := H
    refine WPc_cond hc (fun hh => ?_) (fun hh => ?_)
    · have H := H1 hh; clear H1 H2
      refine WPc_seq' ?_
      refine W_region (by kernel_rfl) ?_
      refine vl_n ?_
      refine H_of_R (R_move (v := a0) rfl ?_)
      refine vl_n ?_
      refine H_of_R (R_build TB_38 rfl (by decide) H fun t15 H => ?_)
      refine vl_n ?_
      refine H_of_R (R_assign (v := a0) rfl ?_)
      refine vl_n ?_
      refine H_storeN TS_38 H fun h H => ?_
      refine vl_e ?_
      refine WPc_ret ?_
      refine resH_of rfl ?_
      refine resL_t ?_
      refine resL_N TN_38 ?_
      refine loadN_imp H fun r5 H => ?_
      exact H
    · have H := H2 hh; clear H1 H2
      refine WPc_skip ?_
      exact H
  · have H := H2 rfl; clear H1 H2
    refine vl_s rfl (nbF hb) ?_
    refine vl_s rfl (nbF hb) ?_
    refine vl_s rfl (nbF hb) ?_
    refine vl_s rfl (nbF hb) ?_
    refine vl_n ?_
    refine H_of_R (R_pickC (v := (.bool true)) true hb rfl ?_)
    refine vl_e ?_
    refine WPc_cond (t := true) rfl (fun _ => ?_) (fun hh => by cases hh)
    refine WPc_seq' ?_
    refine W_region (by kernel_rfl) ?_
    refine vl_n ?_
    refine H_of_R (R_move (v := a0) rfl ?_)
    refine vl_n ?_
    refine H_of_R (R_build TB_38 rfl (by decide) H fun t15_2 H => ?_)
    refine vl_n ?_
    refine H_of_R (R_assign (v := a0) rfl ?_)
    refine vl_n ?_
    refine H_storeN TS_38 H fun h H => ?_
    refine vl_e ?_
    refine WPc_ret ?_
    refine resH_of rfl ?_
    refine resL_t ?_
    refine resL_N TN_38 ?_
    refine loadN_imp H fun r5_2 H => ?_
    exact H
/-! ### spec.At -/
def s_At.sh (a0 : Value) (a1 : Value) (h : Heap) (Q : Value → Heap → Prop) : Prop :=
    alloc [(.int .i64 0), (.int .i64 0), (.bool false)] 38 h fun t4 h =>
    s_Cut.call #[a0, a1] h fun t10 h =>
    extr 0 t10 fun t11 =>
    extr 1 t10 fun t12 =>
    alloc [(.int .i64 0), (.int .i64 0), (.bool false)] 38 h fun t6 h =>
    storeN 3 t6 t12 h fun h =>
    loadN 3 t6 h fun t13 =>
    storeN 3 t4 t13 h fun h =>
    loadN 3 t4 h fun r4 =>
    Q r4 h
theorem s_At.body (a0 : Value) (a1 : Value) (h : Heap) (Q : Value → Heap → Prop) (H : s_At.sh a0 a1 h Q) : s_At.call #[a0, a1] h Q := by
  refine callsH_of (args := [a0, a1]) Try.func16 rfl rfl ?_
  unfold s_At.sh at H
  refine WPc_seq' ?_
  refine W_region (by kernel_rfl) ?_
  refine vl_n ?_
  refine H_alloc TV_38 H fun t4 h H => ?_
  refine vl_e ?_
  refine WPc_seq' ?_
  refine W_region (by kernel_rfl) ?_
  refine vl_n ?_
  refine H_of_R (R_move (v := a0) rfl ?_)
  refine vl_n ?_
  refine H_of_R (R_move (v := a1) rfl ?_)
  refine vl_n ?_
  refine H_call HB_38 H fun t10 h H => ?_
  refine vl_n ?_
  refine H_of_R (R_move (v := t10) rfl ?_)
  refine vl_n ?_
  refine H_of_R (R_ext H fun t11 H => ?_)
  refine vl_n ?_
  refine H_of_R (R_ext H fun t12 H => ?_)
  refine vl_n ?_
  refine H_alloc TV_38 H fun t6 h H => ?_
  refine vl_n ?_
  refine H_of_R (R_assign (v := t11) rfl ?_)
  refine vl_n ?_
  refine H_storeN TS_38 H fun h H => ?_
  refine vl_e ?_
  refine WPc_seq' ?_
  refine W_region (by kernel_rfl) ?_
  refine vl_n ?_
  refine H_of_R (R_loadN TN_38 H fun _ t13 _ _ H _ _ => ?_)
  refine vl_n ?_
  refine H_storeN TS_38 H fun h H => ?_
  refine vl_e ?_
  refine WPc_ret ?_
  refine resH_of rfl ?_
  refine resL_N TN_38 ?_
  refine loadN_imp H fun r4 H => ?_
  exact H
/-! ### laws.FnDGetAt -/
def l_FnDGetAt.j1 (s0 : Value) (s2 : Value) (s4 : Value) (h : Heap) (Q : Value → Heap → Prop) : Prop :=
    loadN 3 s4 h fun t11 =>
    l_validD.call #[s0, t11] h fun t12 h =>
    notV t12 fun t13 =>
    br t13 false (loadN 3 s4 h fun t16 =>
    loadN 3 s4 h fun t19 =>
    i_DGetAt.call #[s0, t16, s2] h fun t18 h =>
    stillN 3 s4 t19 h ∧ s_NodeItems.call #[t19] h fun t20 h =>
    s_At.call #[t20, s2] h fun t22 h =>
    eqR (EqV Try.prog 10000 38) t18 t22 fun t23 =>
    br t23 true (l_aliveD.call #[] h fun t26 h =>
    Q t26 h) (Q (.bool false) h)) (l_aliveD.call #[] h fun t26_2 h =>
    Q t26_2 h)
def l_FnDGetAt.sh (a0 : Value) (a1 : Value) (a2 : Value) (h : Heap) (Q : Value → Heap → Prop) : Prop :=
    box 34 a1 h fun t4 h =>
    loadN 3 t4 h fun t7 =>
    l_zzFits3.call #[t7] h fun t8 h =>
    notV t8 fun t9 =>
    ifV t9
    (Q (.bool true) h)
    (l_FnDGetAt.j1 a0 a2 t4 h Q)
theorem l_FnDGetAt.body (a0 : Value) (a1 : Value) (a2 : Value) (h : Heap) (Q : Value → Heap → Prop) (H : l_FnDGetAt.sh a0 a1 a2 h Q) : l_FnDGetAt.call #[a0, a1, a2] h Q := by
  refine callsH_of (args := [a0, a1, a2]) Try.func4 rfl rfl ?_
  unfold l_FnDGetAt.sh at H
  refine WPc_seq' ?_
  refine W_region (by kernel_rfl) ?_
  refine vl_n ?_
  refine H_box H fun t4 h H => ?_
  refine vl_n ?_
  refine H_of_R (R_assign (v := (.bool false)) rfl ?_)
  refine vl_e ?_
  refine WPc_seq (fun e h => l_FnDGetAt.j1 (e 0) (e 2) (e 4) h Q) ?_ (fun e h H => ?_)
  rotate_left
  · unfold l_FnDGetAt.j1 at H
    refine WPc_seq' ?_
    refine W_drawn [0, 0, 3, 7, 15, 31, 31, 31, 255, 31, 1023, 31, 4095, 8191, 16383, 32767, 65535, 131071, 262143] (.take 0 (.take 1 (.alt 2 (.take 3 (.take 4 (.take 5 (.take 6 (.take 7 (.take 9 (.take 11 (.alt 8 (.alt 10 (.alt 12 (.take 13 (.take 14 (.take 15 (.alt 16 (.take 17 (.take 18 .done)) .none)))) .none) .none) .none)))))))) .none))) mixed (by kernel_rfl) ?_
    refine tkP rfl ?_
    refine R_move (v := (e 0)) rfl ⟨fun _ => trivial, ?_⟩
    refine tkL rfl ?_
    refine R_loadN TN_34 H fun at11 xt11 hat11 _ H St11 hSt11 => ?_
    refine alt_n rfl ?_ vp_none
    refine H_call HB_14 H fun t12 h H => ⟨(hskip rfl hnil), ?_⟩
    refine tkP rfl ?_
    refine R_not H fun t13 H => ⟨fun _ => trivial, ?_⟩
    refine tkP rfl ?_
    refine R_move (v := t13) rfl ⟨fun _ => trivial, ?_⟩
    obtain ⟨b, hb, H1, H2⟩ := H
    cases b
    · have H := H1 rfl; clear H1 H2
      refine tkPy rfl rfl hb ?_
      refine R_move (v := (e 0)) rfl ⟨fun _ => trivial, ?_⟩
      refine tkLy rfl rfl hb ?_
      refine R_loadN TN_34 H fun at16 xt16 hat16 _ H St16 hSt16 => ?_
      refine tkPy rfl rfl hb ?_
      refine R_move (v := (e 2)) rfl ⟨fun _ => trivial, ?_⟩
      refine tkLy rfl rfl hb ?_
      refine R_loadN TN_34 H fun at19 xt19 hat19 _ H St19 hSt19 => ?_
      refine tkPy rfl rfl hb ?_
      refine R_move (v := (e 2)) rfl ⟨fun _ => trivial, ?_⟩
      refine alt_y rfl rfl hb ?_ vp_none
      refine H_call HB_15 H fun t18 h ⟨S, H⟩ => ⟨(hcons rfl (hSt19 _ (still_N S hat19 rfl)) (hskip rfl hnil)), ?_⟩
      refine alt_y rfl rfl hb ?_ vp_none
      refine H_call HB_17 H fun t20 h H => ⟨(hskip rfl hnil), ?_⟩
      refine alt_y rfl rfl hb ?_ vp_none
      refine H_call HB_16 H fun t22 h H => ⟨hnil, ?_⟩
      refine tkPy rfl rfl hb ?_
      refine R_eqA (by kernel_rfl) H fun t23 H => ⟨fun _ => trivial, ?_⟩
      refine tkP rfl ?_
      refine R_pickC (v := t23) false hb rfl ⟨fun _ => trivial, ?_⟩
      refine tkP rfl ?_
      refine R_move (v := t23) rfl ⟨fun _ => trivial, ?_⟩
      obtain ⟨b_2, hb_2, H1, H2⟩ := H
      cases b_2
      · have H := H2 rfl; clear H1 H2
        refine alt_s rfl rfl (nbT hb_2) ?_ vp_none
        refine tkP rfl ?_
        refine R_pickC (v := (.bool false)) false hb_2 rfl ⟨fun _ => trivial, ?_⟩
        refine tkP rfl ?_
        refine R_assign (v := (.bool false)) rfl ⟨fun _ => trivial, ?_⟩
        refine vp_done ?_
        refine WPc_ret ?_
        refine resH_of rfl ?_
        exact H
      · have H := H1 rfl; clear H1 H2
        refine alt_y rfl rfl hb_2 ?_ vp_none
        refine H_call HB_10 H fun t26 h H => ⟨hnil, ?_⟩
        refine tkP rfl ?_
        refine R_pickC (v := t26) true hb_2 rfl ⟨fun _ => trivial, ?_⟩
        refine tkP rfl ?_
        refine R_assign (v := t26) rfl ⟨fun _ => trivial, ?_⟩
        refine vp_done ?_
        refine WPc_ret ?_
        refine resH_of rfl ?_
        exact H
    · have H := H2 rfl; clear H1 H2
      refine tk_s rfl rfl (nbF hb) ?_
      refine tk_s rfl rfl (nbF hb) ?_
      refine tk_s rfl rfl (nbF hb) ?_
      refine tk_s rfl rfl (nbF hb) ?_
      refine tk_s rfl rfl (nbF hb) ?_
      refine alt_s rfl rfl (nbF hb) ?_ vp_none
      refine alt_s rfl rfl (nbF hb) ?_ vp_none
      refine alt_s rfl rfl (nbF hb) ?_ vp_none
      refine tk_s rfl rfl (nbF hb) ?_
      refine tkP rfl ?_
      refine R_pickC (v := (.bool true)) true hb rfl ⟨fun _ => trivial, ?_⟩
      refine tkP rfl ?_
      refine R_move (v := (.bool true)) rfl ⟨fun _ => trivial, ?_⟩
      refine alt_y rfl rfl rfl ?_ vp_none
      refine H_call HB_10 H fun t26_2 h H => ⟨hnil, ?_⟩
      refine tkP rfl ?_
      refine R_pickC (v := t26_2) true rfl rfl ⟨fun _ => trivial, ?_⟩
      refine tkP rfl ?_
      refine R_assign (v := t26_2) rfl ⟨fun _ => trivial, ?_⟩
      refine vp_done ?_
      refine WPc_ret ?_
      refine resH_of rfl ?_
      exact H
  refine WPc_seq' ?_
  refine W_region (by kernel_rfl) ?_
  refine vl_n ?_
  refine H_of_R (R_loadN TN_34 H fun _ t7 _ _ H _ _ => ?_)
  refine vl_n ?_
  refine H_call HB_13 H fun t8 h H => ?_
  refine vl_n ?_
  refine H_of_R (R_not H fun t9 H => ?_)
  refine vl_e ?_
  obtain ⟨b, hc, H1, H2⟩ := H
  refine WPc_cond hc (fun hh => ?_) (fun hh => ?_)
  · have H := H1 hh; clear H1 H2
    refine WPc_seq' ?_
    refine W_region (by kernel_rfl) ?_
    refine vl_n ?_
    refine H_of_R (R_assign (v := (.bool true)) rfl ?_)
    refine vl_e ?_
    refine WPc_ret ?_
    refine resH_of rfl ?_
    exact H
  · have H := H2 hh; clear H1 H2
    refine WPc_skip ?_
    exact H

end Go.Proofs.Ytdealonhngiaiaa
