/-
  Shallow forms of the walked functions, and that each call comes to its form. Written by a program of this repo (gen.py). Conditions: none.
-/
import Derived.Test.YtlihjljdndbpdaaST
namespace Go.Proofs.Ytlihjljdndbpdaa
open Go.Hp
set_option maxRecDepth 100000
set_option maxHeartbeats 8000000
set_option linter.unusedVariables false
set_option linter.unusedSimpArgs false

/-! ### (*pub/tidwallbtree.Map[int, int]).Delete -/
def Map_ii_Delete.j4 (s6 : Value) (h : Heap) (Q : Value → Heap → Prop) : Prop :=
    fld 0 s6 fun t80 =>
    load1 t80 h fun t81 =>
    Q (.tuple #[t81, (.bool true)]) h
def Map_ii_Delete.j3 (s0 : Value) (s6 : Value) (h : Heap) (Q : Value → Heap → Prop) : Prop :=
    nilck s0 fun t66 =>
    fld 3 t66 fun t67 =>
    load1 t67 h fun t68 =>
    arith (· - ·) t68 (.int .i64 1) fun t69 =>
    nilck s0 fun t70 =>
    fld 3 t70 fun t71 =>
    store1 t71 t69 h fun h =>
    nilck s0 fun t73 =>
    fld 3 t73 fun t74 =>
    load1 t74 h fun t75 =>
    cmpI (fun a b => a == b) t75 (.int .i64 0) fun t76 =>
    ifV t76
    (nilck s0 fun t78 =>
    fld 2 t78 fun t79 =>
    store1 t79 (.pointer none) h fun h =>
    Map_ii_Delete.j4 s6 h Q)
    (Map_ii_Delete.j4 s6 h Q)
def Map_ii_Delete.j2 (s0 : Value) (s6 : Value) (h : Heap) (Q : Value → Heap → Prop) : Prop :=
    nilck s0 fun t35 =>
    fld 2 t35 fun t36 =>
    load1 t36 h fun t37 =>
    nilck t37 fun t38 =>
    fld 2 t38 fun t39 =>
    load1 t39 h fun t40 =>
    lenV t40 fun t41 =>
    cmpI (fun a b => a == b) t41 (.int .i64 0) fun t42 =>
    br t42 true (nilck s0 fun t45 =>
    fld 2 t45 fun t46 =>
    load1 t46 h fun t47 =>
    mapNode_ii_leaf.call #[t47] h fun t48 h =>
    notV t48 fun t49 =>
    ifV t49
    (nilck s0 fun t53 =>
    fld 2 t53 fun t54 =>
    load1 t54 h fun t55 =>
    nilck t55 fun t56 =>
    fld 3 t56 fun t57 =>
    load1 t57 h fun t58 =>
    nilck t58 fun t59 =>
    load1 t59 h fun t60 =>
    idx 1 t60 (.int .i64 0) fun t61 =>
    load1 t61 h fun t62 =>
    nilck s0 fun t63 =>
    fld 2 t63 fun t64 =>
    store1 t64 t62 h fun h =>
    Map_ii_Delete.j3 s0 s6 h Q)
    (Map_ii_Delete.j3 s0 s6 h Q)) (Map_ii_Delete.j3 s0 s6 h Q)
def Map_ii_Delete.j1 (s0 : Value) (s1 : Value) (h : Heap) (Q : Value → Heap → Prop) : Prop :=
    nilck s0 fun t21 =>
    fld 2 t21 fun t22 =>
    Map_ii_delete.call #[s0, t22, (.bool false), s1] h fun t24 h =>
    extr 0 t24 fun t25 =>
    extr 1 t24 fun t26 =>
    alloc [(.int .i64 0), (.int .i64 0)] 178 h fun t6 h =>
    storeN 2 t6 t25 h fun h =>
    notV t26 fun t28 =>
    ifV t28
    (nilck s0 fun t30 =>
    fld 4 t30 fun t31 =>
    fld 0 t31 fun t32 =>
    load1 t32 h fun t33 =>
    Q (.tuple #[t33, (.bool false)]) h)
    (Map_ii_Delete.j2 s0 t6 h Q)
def Map_ii_Delete.sh (a0 : Value) (a1 : Value) (h : Heap) (Q : Value → Heap → Prop) : Prop :=
    nilck a0 fun t9 =>
    fld 2 t9 fun t10 =>
    load1 t10 h fun t11 =>
    eqNilP t11 fun t12 =>
    ifV t12
    (nilck a0 fun t14 =>
    fld 4 t14 fun t15 =>
    fld 0 t15 fun t16 =>
    load1 t16 h fun t17 =>
    Q (.tuple #[t17, (.bool false)]) h)
    (Map_ii_Delete.j1 a0 a1 h Q)
theorem Map_ii_Delete.body (a0 : Value) (a1 : Value) (h : Heap) (Q : Value → Heap → Prop) (H : Map_ii_Delete.sh a0 a1 h Q) : Map_ii_Delete.call #[a0, a1] h Q := by
  refine callsH_of (args := [a0, a1]) Try.func72 rfl rfl ?_
  unfold Map_ii_Delete.sh at H
  refine WPc_seq' ?_
  refine W_region (by kernel_rfl) ?_
  refine vl_n ?_
  refine H_of_R (R_assign (v := (.int .i64 0)) rfl ?_)
  refine vl_n ?_
  refine H_of_R (R_assign (v := (.bool false)) rfl ?_)
  refine vl_e ?_
  refine WPc_seq (fun e h => Map_ii_Delete.j1 (e 0) (e 1) h Q) ?_ (fun e h H => ?_)
  rotate_left
  · unfold Map_ii_Delete.j1 at H
    refine WPc_seq' ?_
    refine W_region (by kernel_rfl) ?_
    refine vl_n ?_
    refine H_of_R (R_move (v := (e 0)) rfl ?_)
    refine vl_n ?_
    refine H_of_R (R_move (v := (e 0)) rfl ?_)
    refine vl_n ?_
    refine H_of_R (R_nil H fun t21 H => ?_)
    refine vl_n ?_
    refine H_of_R (R_fld TF_182_2 H fun t22 H => ?_)
    refine vl_n ?_
    refine H_of_R (R_move (v := (e 1)) rfl ?_)
    refine vl_n ?_
    refine H_call HB_127 H fun t24 h H => ?_
    refine vl_n ?_
    refine H_of_R (R_move (v := t24) rfl ?_)
    refine vl_n ?_
    refine H_of_R (R_ext H fun t25 H => ?_)
    refine vl_n ?_
    refine H_of_R (R_ext H fun t26 H => ?_)
    refine vl_n ?_
    refine H_alloc TV_178 H fun t6 h H => ?_
    refine vl_n ?_
    refine H_storeN TS_178 H fun h H => ?_
    refine vl_n ?_
    refine H_of_R (R_assign (v := t26) rfl ?_)
    refine vl_e ?_
    refine WPc_seq (fun e h => Map_ii_Delete.j2 (e 0) (e 6) h Q) ?_ (fun e h H => ?_)
    rotate_left
    · unfold Map_ii_Delete.j2 at H
      refine WPc_seq (fun e h => Map_ii_Delete.j3 (e 0) (e 6) h Q) ?_ (fun e h H => ?_)
      rotate_left
      · unfold Map_ii_Delete.j3 at H
        refine WPc_seq' ?_
        refine W_region (by kernel_rfl) ?_
        refine vl_n ?_
        refine H_of_R (R_move (v := (e 0)) rfl ?_)
        refine vl_n ?_
        refine H_of_R (R_nil H fun t66 H => ?_)
        refine vl_n ?_
        refine H_of_R (R_fld TF_182_3 H fun t67 H => ?_)
        refine vl_n ?_
        refine H_of_R (R_load1 T1_3 H fun _ t68 _ _ H => ?_)
        refine vl_n ?_
        refine H_of_R (R_sub H fun t69 H => ?_)
        refine vl_n ?_
        refine H_of_R (R_nil H fun t70 H => ?_)
        refine vl_n ?_
        refine H_of_R (R_fld TF_182_3 H fun t71 H => ?_)
        refine vl_n ?_
        refine H_store1 TS_3 H fun h H => ?_
        refine vl_e ?_
        refine WPc_seq (fun e h => Map_ii_Delete.j4 (e 6) h Q) ?_ (fun e h H => ?_)
        rotate_left
        · unfold Map_ii_Delete.j4 at H
          refine WPc_seq' ?_
          refine W_region (by kernel_rfl) ?_
          refine vl_n ?_
          refine H_of_R (R_fld TF_178_0 H fun t80 H => ?_)
          refine vl_n ?_
          refine H_of_R (R_load1 T1_3 H fun _ t81 _ _ H => ?_)
          refine vl_n ?_
          refine H_of_R (R_assign (v := t81) rfl ?_)
          refine vl_n ?_
          refine H_of_R (R_assign (v := (.bool true)) rfl ?_)
          refine vl_e ?_
          refine WPc_ret ?_
          refine resH_of rfl ?_
          exact H
        refine WPc_seq' ?_
        refine W_region (by kernel_rfl) ?_
        refine vl_n ?_
        refine H_of_R (R_move (v := (e 0)) rfl ?_)
        refine vl_n ?_
        refine H_of_R (R_nil H fun t73 H => ?_)
        refine vl_n ?_
        refine H_of_R (R_fld TF_182_3 H fun t74 H => ?_)
        refine vl_n ?_
        refine H_of_R (R_load1 T1_3 H fun _ t75 _ _ H => ?_)
        refine vl_n ?_
        refine H_of_R (R_eqI H fun t76 H => ?_)
        refine vl_e ?_
        obtain ⟨b, hc, H1, H2⟩ := H
        refine WPc_cond hc (fun hh => ?_) (fun hh => ?_)
        · have H := H1 hh; clear H1 H2
          refine W_region (by kernel_rfl) ?_
          refine vl_n ?_
          refine H_of_R (R_move (v := (e 0)) rfl ?_)
          refine vl_n ?_
          refine H_of_R (R_nil H fun t78 H => ?_)
          refine vl_n ?_
          refine H_of_R (R_fld TF_182_2 H fun t79 H => ?_)
          refine vl_n ?_
          refine H_store1 TS_173 H fun h H => ?_
          refine vl_e ?_
          exact H
        · have H := H2 hh; clear H1 H2
          refine WPc_skip ?_
          exact H
      refine WPc_seq' ?_
      refine W_region (by kernel_rfl) ?_
      refine vl_n ?_
      refine H_of_R (R_move (v := (e 0)) rfl ?_)
      refine vl_n ?_
      refine H_of_R (R_nil H fun t35 H => ?_)
      refine vl_n ?_
      refine H_of_R (R_fld TF_182_2 H fun t36 H => ?_)
      refine vl_n ?_
      refine H_of_R (R_load1 T1_173 H fun _ t37 _ _ H => ?_)
      refine vl_n ?_
      refine H_of_R (R_nil H fun t38 H => ?_)
      refine vl_n ?_
      refine H_of_R (R_fld TF_188_2 H fun t39 H => ?_)
      refine vl_n ?_
      refine H_of_R (R_load1 T1_185 H fun _ t40 _ _ H => ?_)
      refine vl_n ?_
      refine H_of_R (R_len Try.underlying185 H fun t41 H => ?_)
      refine vl_n ?_
      refine H_of_R (R_eqI H fun t42 H => ?_)
      refine vl_n ?_
      refine H_of_R (R_move (v := t42) rfl ?_)
      obtain ⟨b, hb, H1, H2⟩ := H
      cases b
      · have H := H2 rfl; clear H1 H2
        refine vl_s rfl (nbT hb) ?_
        refine vl_s rfl (nbT hb) ?_
        refine vl_s rfl (nbT hb) ?_
        refine vl_s rfl (nbT hb) ?_
        refine vl_s rfl (nbT hb) ?_
        refine vl_s rfl (nbT hb) ?_
        refine vl_n ?_
        refine H_of_R (R_pickC (v := (.bool false)) false hb rfl ?_)
        refine vl_e ?_
        refine WPc_cond (t := false) rfl (fun hh => by cases hh) (fun _ => ?_)
        refine WPc_skip ?_
        exact H
      · have H := H1 rfl; clear H1 H2
        refine vl_y rfl hb ?_
        refine H_of_R (R_move (v := (e 0)) rfl ?_)
        refine vl_y rfl hb ?_
        refine H_of_R (R_nil H fun t45 H => ?_)
        refine vl_y rfl hb ?_
        refine H_of_R (R_fld TF_182_2 H fun t46 H => ?_)
        refine vl_y rfl hb ?_
        refine H_of_R (R_load1 T1_173 H fun _ t47 _ _ H => ?_)
        refine vl_y rfl hb ?_
        refine H_call HB_126 H fun t48 h H => ?_
        refine vl_y rfl hb ?_
        refine H_of_R (R_not H fun t49 H => ?_)
        refine vl_n ?_
        refine H_of_R (R_pickC (v := t49) true hb rfl ?_)
        refine vl_e ?_
        obtain ⟨b_2, hc, H1, H2⟩ := H
        refine WPc_cond hc (fun hh => ?_) (fun hh => ?_)
        · have H := H1 hh; clear H1 H2
          refine W_region (by kernel_rfl) ?_
          refine vl_n ?_
          refine H_of_R (R_move (v := (e 0)) rfl ?_)
          refine vl_n ?_
          refine H_of_R (R_move (v := (e 0)) rfl ?_)
          refine vl_n ?_
          refine H_of_R (R_nil H fun t53 H => ?_)
          refine vl_n ?_
          refine H_of_R (R_fld TF_182_2 H fun t54 H => ?_)
          refine vl_n ?_
          refine H_of_R (R_load1 T1_173 H fun _ t55 _ _ H => ?_)
          refine vl_n ?_
          refine H_of_R (R_nil H fun t56 H => ?_)
          refine vl_n ?_
          refine H_of_R (R_fld TF_188_3 H fun t57 H => ?_)
          refine vl_n ?_
          refine H_of_R (R_load1 T1_186 H fun _ t58 _ _ H => ?_)
          refine vl_n ?_
          refine H_of_R (R_nil H fun t59 H => ?_)
          refine vl_n ?_
          refine H_of_R (R_load1 T1_194 H fun _ t60 _ _ H => ?_)
          refine vl_n ?_
          refine H_of_R (R_idx TE_194 H fun t61 H => ?_)
          refine vl_n ?_
          refine H_of_R (R_load1 T1_173 H fun _ t62 _ _ H => ?_)
          refine vl_n ?_
          refine H_of_R (R_nil H fun t63 H => ?_)
          refine vl_n ?_
          refine H_of_R (R_fld TF_182_2 H fun t64 H => ?_)
          refine vl_n ?_
          refine H_store1 TS_173 H fun h H => ?_
          refine vl_e ?_
          exact H
        · have H := H2 hh; clear H1 H2
          refine WPc_skip ?_
          exact H
    refine WPc_seq' ?_
    refine W_region (by kernel_rfl) ?_
    refine vl_n ?_
    refine H_of_R (R_move (v := t26) rfl ?_)
    refine vl_n ?_
    refine H_of_R (R_not H fun t28 H => ?_)
    refine vl_e ?_
    obtain ⟨b, hc, H1, H2⟩ := H
    refine WPc_cond hc (fun hh => ?_) (fun hh => ?_)
    · have H := H1 hh; clear H1 H2
      refine WPc_seq' ?_
      refine W_region (by kernel_rfl) ?_
      refine vl_n ?_
      refine H_of_R (R_move (v := (e 0)) rfl ?_)
      refine vl_n ?_
      refine H_of_R (R_nil H fun t30 H => ?_)
      refine vl_n ?_
      refine H_of_R (R_fld TF_182_4 H fun t31 H => ?_)
      refine vl_n ?_
      refine H_of_R (R_fld TF_178_0 H fun t32 H => ?_)
      refine vl_n ?_
      refine H_of_R (R_load1 T1_3 H fun _ t33 _ _ H => ?_)
      refine vl_n ?_
      refine H_of_R (R_assign (v := t33) rfl ?_)
      refine vl_n ?_
      refine H_of_R (R_assign (v := (.bool false)) rfl ?_)
      refine vl_e ?_
      refine WPc_ret ?_
      refine resH_of rfl ?_
      exact H
    · have H := H2 hh; clear H1 H2
      refine WPc_skip ?_
      exact H
  refine WPc_seq' ?_
  refine W_region (by kernel_rfl) ?_
  refine vl_n ?_
  refine H_of_R (R_move (v := a0) rfl ?_)
  refine vl_n ?_
  refine H_of_R (R_nil H fun t9 H => ?_)
  refine vl_n ?_
  refine H_of_R (R_fld TF_182_2 H fun t10 H => ?_)
  refine vl_n ?_
  refine H_of_R (R_load1 T1_173 H fun _ t11 _ _ H => ?_)
  refine vl_n ?_
  refine H_of_R (R_eqNilP Try.underlying173 rfl H fun t12 H => ?_)
  refine vl_e ?_
  obtain ⟨b, hc, H1, H2⟩ := H
  refine WPc_cond hc (fun hh => ?_) (fun hh => ?_)
  · have H := H1 hh; clear H1 H2
    refine WPc_seq' ?_
    refine W_region (by kernel_rfl) ?_
    refine vl_n ?_
    refine H_of_R (R_move (v := a0) rfl ?_)
    refine vl_n ?_
    refine H_of_R (R_nil H fun t14 H => ?_)
    refine vl_n ?_
    refine H_of_R (R_fld TF_182_4 H fun t15 H => ?_)
    refine vl_n ?_
    refine H_of_R (R_fld TF_178_0 H fun t16 H => ?_)
    refine vl_n ?_
    refine H_of_R (R_load1 T1_3 H fun _ t17 _ _ H => ?_)
    refine vl_n ?_
    refine H_of_R (R_assign (v := t17) rfl ?_)
    refine vl_n ?_
    refine H_of_R (R_assign (v := (.bool false)) rfl ?_)
    refine vl_e ?_
    refine WPc_ret ?_
    refine resH_of rfl ?_
    exact H
  · have H := H2 hh; clear H1 H2
    refine WPc_skip ?_
    exact H
/-! ### impl.DDelete -/
def i_DDelete.sh (a0 : Value) (a1 : Value) (a2 : Value) (h : Heap) (Q : Value → Heap → Prop) : Prop :=
    box 25 a1 h fun t4 h =>
    alloc [(.int .i64 0), (.int .i64 0), (.bool false)] 32 h fun t6 h =>
    alloc [(.slice none 0 0), (.slice none 0 0), (.int .i64 0)] 25 h fun t7 h =>
    loadN 3 t4 h fun t12 =>
    i_standMap.call #[a0, t12] h fun t13 h =>
    Map_ii_Delete.call #[t13, a2] h fun t17 h =>
    extr 0 t17 fun t18 =>
    extr 1 t17 fun t19 =>
    i_pair.call #[a2, t18, t19] h fun t23 h =>
    i_fellMap.call #[t13] h fun t25 h =>
    storeN 3 t6 t23 h fun h =>
    storeN 3 t7 t25 h fun h =>
    loadN 3 t6 h fun r6 =>
    loadN 3 t7 h fun r7 =>
    Q (.tuple #[r6, r7]) h
theorem i_DDelete.body (a0 : Value) (a1 : Value) (a2 : Value) (h : Heap) (Q : Value → Heap → Prop) (H : i_DDelete.sh a0 a1 a2 h Q) : i_DDelete.call #[a0, a1, a2] h Q := by
  refine callsH_of (args := [a0, a1, a2]) Try.func24 rfl rfl ?_
  unfold i_DDelete.sh at H
  refine WPc_seq' ?_
  refine W_region (by kernel_rfl) ?_
  refine vl_n ?_
  refine H_box H fun t4 h H => ?_
  refine vl_n ?_
  refine H_alloc TV_32 H fun t6 h H => ?_
  refine vl_n ?_
  refine H_alloc TV_25 H fun t7 h H => ?_
  refine vl_e ?_
  refine WPc_seq' ?_
  refine W_region (by kernel_rfl) ?_
  refine vl_n ?_
  refine H_of_R (R_move (v := a0) rfl ?_)
  refine vl_n ?_
  refine H_of_R (R_loadN TN_25 H fun _ t12 _ _ H _ _ => ?_)
  refine vl_n ?_
  refine H_call HB_58 H fun t13 h H => ?_
  refine vl_n ?_
  refine H_of_R (R_assign (v := t13) rfl ?_)
  refine vl_e ?_
  refine WPc_seq' ?_
  refine W_region (by kernel_rfl) ?_
  refine vl_n ?_
  refine H_of_R (R_move (v := t13) rfl ?_)
  refine vl_n ?_
  refine H_of_R (R_move (v := a2) rfl ?_)
  refine vl_n ?_
  refine H_call HB_72 H fun t17 h H => ?_
  refine vl_n ?_
  refine H_of_R (R_move (v := t17) rfl ?_)
  refine vl_n ?_
  refine H_of_R (R_ext H fun t18 H => ?_)
  refine vl_n ?_
  refine H_of_R (R_ext H fun t19 H => ?_)
  refine vl_n ?_
  refine H_of_R (R_assign (v := t18) rfl ?_)
  refine vl_n ?_
  refine H_of_R (R_assign (v := t19) rfl ?_)
  refine vl_e ?_
  refine WPc_seq' ?_
  refine W_region (by kernel_rfl) ?_
  refine vl_n ?_
  refine H_of_R (R_move (v := a2) rfl ?_)
  refine vl_n ?_
  refine H_of_R (R_move (v := t18) rfl ?_)
  refine vl_n ?_
  refine H_of_R (R_move (v := t19) rfl ?_)
  refine vl_n ?_
  refine H_call HB_60 H fun t23 h H => ?_
  refine vl_n ?_
  refine H_of_R (R_move (v := t13) rfl ?_)
  refine vl_n ?_
  refine H_call HB_61 H fun t25 h H => ?_
  refine vl_n ?_
  refine H_storeN TS_32 H fun h H => ?_
  refine vl_n ?_
  refine H_storeN TS_25 H fun h H => ?_
  refine vl_e ?_
  refine WPc_ret ?_
  refine resH_of rfl ?_
  refine resL_N TN_32 ?_
  refine loadN_imp H fun r6 H => ?_
  refine resL_N TN_25 ?_
  refine loadN_imp H fun r7 H => ?_
  exact H
/-! ### laws.FnDDelete -/
def l_FnDDelete.j2 (s0 : Value) (s2 : Value) (s4 : Value) (h : Heap) (Q : Value → Heap → Prop) : Prop :=
    loadN 3 s4 h fun t21 =>
    s_NodeItems.call #[t21] h fun t22 h =>
    buildV [(.int .i64 0), (.int .i64 0)] [(0, 1, s2)] fun t24 =>
    s_Drop.call #[(.slice none 0 0), t22, t24] h fun t25 h =>
    extr 0 t25 fun t26 =>
    extr 1 t25 fun t27 =>
    alloc [(.int .i64 0), (.int .i64 0), (.bool false)] 32 h fun t8 h =>
    storeN 3 t8 t27 h fun h =>
    loadN 3 s4 h fun t30 =>
    i_DDelete.call #[s0, t30, s2] h fun t32 h =>
    extr 0 t32 fun t33 =>
    extr 1 t32 fun t34 =>
    alloc [(.int .i64 0), (.int .i64 0), (.bool false)] 32 h fun t9 h =>
    alloc [(.slice none 0 0), (.slice none 0 0), (.int .i64 0)] 25 h fun t10 h =>
    storeN 3 t9 t33 h fun h =>
    storeN 3 t10 t34 h fun h =>
    loadN 3 s4 h fun t35 =>
    loadN 3 t10 h fun t37 =>
    s_NodeHeight.call #[t35] h fun t36 h =>
    stillN 3 t10 t37 h ∧ s_NodeHeight.call #[t37] h fun t38 h =>
    arith (· - ·) t36 t38 fun t39 =>
    loadN 3 t9 h fun t40 =>
    loadN 3 t8 h fun t41 =>
    eqR (EqV Try.prog 10000 32) t40 t41 fun t42 =>
    br t42 true (buildV [(.slice none 0 0), (.int .i64 0), (.bool false)] [(1, 1, s0)] fun t45 =>
    loadN 3 t10 h fun t46 =>
    l_holds.call #[t45, t46, t26] h fun t48 h =>
    br t48 true (cmpI (fun a b => a == b) t39 (.int .i64 0) fun t52 =>
    br t52 false (cmpI (fun a b => a == b) t39 (.int .i64 1) fun t55 =>
    br t55 true (l_aliveD.call #[] h fun t59 h =>
    Q t59 h) (Q (.bool false) h)) (l_aliveD.call #[] h fun t59_2 h =>
    Q t59_2 h)) (Q (.bool false) h)) (Q (.bool false) h)
def l_FnDDelete.j1 (s0 : Value) (s2 : Value) (s4 : Value) (h : Heap) (Q : Value → Heap → Prop) : Prop :=
    loadN 3 s4 h fun t16 =>
    l_validD.call #[s0, t16] h fun t17 h =>
    notV t17 fun t18 =>
    ifV t18
    (l_aliveD.call #[] h fun t19 h =>
    Q t19 h)
    (l_FnDDelete.j2 s0 s2 s4 h Q)
def l_FnDDelete.sh (a0 : Value) (a1 : Value) (a2 : Value) (h : Heap) (Q : Value → Heap → Prop) : Prop :=
    box 25 a1 h fun t4 h =>
    loadN 3 t4 h fun t12 =>
    l_zzFits3.call #[t12] h fun t13 h =>
    notV t13 fun t14 =>
    ifV t14
    (Q (.bool true) h)
    (l_FnDDelete.j1 a0 a2 t4 h Q)
theorem l_FnDDelete.body (a0 : Value) (a1 : Value) (a2 : Value) (h : Heap) (Q : Value → Heap → Prop) (H : l_FnDDelete.sh a0 a1 a2 h Q) : l_FnDDelete.call #[a0, a1, a2] h Q := by
  refine callsH_of (args := [a0, a1, a2]) Try.func5 rfl rfl ?_
  unfold l_FnDDelete.sh at H
  refine WPc_seq' ?_
  refine W_region (by kernel_rfl) ?_
  refine vl_n ?_
  refine H_box H fun t4 h H => ?_
  refine vl_n ?_
  refine H_of_R (R_assign (v := (.bool false)) rfl ?_)
  refine vl_e ?_
  refine WPc_seq (fun e h => l_FnDDelete.j1 (e 0) (e 2) (e 4) h Q) ?_ (fun e h H => ?_)
  rotate_left
  · unfold l_FnDDelete.j1 at H
    refine WPc_seq (fun e h => l_FnDDelete.j2 (e 0) (e 2) (e 4) h Q) ?_ (fun e h H => ?_)
    rotate_left
    · unfold l_FnDDelete.j2 at H
      refine WPc_seq' ?_
      refine W_region (by kernel_rfl) ?_
      refine vl_n ?_
      refine H_of_R (R_loadN TN_25 H fun _ t21 _ _ H _ _ => ?_)
      refine vl_n ?_
      refine H_call HB_19 H fun t22 h H => ?_
      refine vl_n ?_
      refine H_of_R (R_move (v := (e 2)) rfl ?_)
      refine vl_n ?_
      refine H_of_R (R_build TB_27 rfl (by decide) H fun t24 H => ?_)
      refine vl_n ?_
      refine H_call HB_23 H fun t25 h H => ?_
      refine vl_n ?_
      refine H_of_R (R_move (v := t25) rfl ?_)
      refine vl_n ?_
      refine H_of_R (R_ext H fun t26 H => ?_)
      refine vl_n ?_
      refine H_of_R (R_ext H fun t27 H => ?_)
      refine vl_n ?_
      refine H_alloc TV_32 H fun t8 h H => ?_
      refine vl_n ?_
      refine H_of_R (R_assign (v := t26) rfl ?_)
      refine vl_n ?_
      refine H_storeN TS_32 H fun h H => ?_
      refine vl_e ?_
      refine WPc_seq' ?_
      refine W_region (by kernel_rfl) ?_
      refine vl_n ?_
      refine H_of_R (R_move (v := (e 0)) rfl ?_)
      refine vl_n ?_
      refine H_of_R (R_loadN TN_25 H fun _ t30 _ _ H _ _ => ?_)
      refine vl_n ?_
      refine H_of_R (R_move (v := (e 2)) rfl ?_)
      refine vl_n ?_
      refine H_call HB_24 H fun t32 h H => ?_
      refine vl_n ?_
      refine H_of_R (R_move (v := t32) rfl ?_)
      refine vl_n ?_
      refine H_of_R (R_ext H fun t33 H => ?_)
      refine vl_n ?_
      refine H_of_R (R_ext H fun t34 H => ?_)
      refine vl_n ?_
      refine H_alloc TV_32 H fun t9 h H => ?_
      refine vl_n ?_
      refine H_alloc TV_25 H fun t10 h H => ?_
      refine vl_n ?_
      refine H_storeN TS_32 H fun h H => ?_
      refine vl_n ?_
      refine H_storeN TS_25 H fun h H => ?_
      refine vl_e ?_
      refine WPc_seq' ?_
      refine W_drawn [0, 1, 0, 7, 15, 31] (.take 0 (.take 2 (.alt 1 (.alt 3 (.take 4 (.take 5 .done)) .none) .none))) mixed (by kernel_rfl) ?_
      refine tkL rfl ?_
      refine R_loadN TN_25 H fun at35 xt35 hat35 _ H St35 hSt35 => ?_
      refine tkL rfl ?_
      refine R_loadN TN_25 H fun at37 xt37 hat37 _ H St37 hSt37 => ?_
      refine alt_n rfl ?_ vp_none
      refine H_call HB_21 H fun t36 h ⟨S, H⟩ => ⟨(hcons rfl (hSt37 _ (still_N S hat37 rfl)) (hskip rfl hnil)), ?_⟩
      refine alt_n rfl ?_ vp_none
      refine H_call HB_21 H fun t38 h H => ⟨(hskip rfl hnil), ?_⟩
      refine tkP rfl ?_
      refine R_sub H fun t39 H => ⟨fun _ => trivial, ?_⟩
      refine tkP rfl ?_
      refine R_assign (v := t39) rfl ⟨fun _ => trivial, ?_⟩
      refine vp_done ?_
      refine WPc_seq' ?_
      refine W_region (by kernel_rfl) ?_
      refine vl_n ?_
      refine H_of_R (R_loadN TN_32 H fun _ t40 _ _ H _ _ => ?_)
      refine vl_n ?_
      refine H_of_R (R_loadN TN_32 H fun _ t41 _ _ H _ _ => ?_)
      refine vl_n ?_
      refine H_of_R (R_eqA (by kernel_rfl) H fun t42 H => ?_)
      refine vl_n ?_
      refine H_of_R (R_move (v := t42) rfl ?_)
      obtain ⟨b, hb, H1, H2⟩ := H
      cases b
      · have H := H2 rfl; clear H1 H2
        refine vl_s rfl (nbT hb) ?_
        refine vl_s rfl (nbT hb) ?_
        refine vl_s rfl (nbT hb) ?_
        refine vl_s rfl (nbT hb) ?_
        refine vl_s rfl (nbT hb) ?_
        refine vl_n ?_
        refine H_of_R (R_pickC (v := (.bool false)) false hb rfl ?_)
        refine vl_n ?_
        refine H_of_R (R_move (v := (.bool false)) rfl ?_)
        refine vl_s rfl (nbT rfl) ?_
        refine vl_s rfl (nbT rfl) ?_
        refine vl_s rfl (nbT rfl) ?_
        refine vl_s rfl nbU ?_
        refine vl_s rfl nbU ?_
        refine vl_s rfl (nbT rfl) ?_
        refine vl_n ?_
        refine H_of_R (R_pickC (v := (.bool false)) false rfl rfl ?_)
        refine vl_n ?_
        refine H_of_R (R_move (v := (.bool false)) rfl ?_)
        refine vl_s rfl (nbT rfl) ?_
        refine vl_n ?_
        refine H_of_R (R_pickC (v := (.bool false)) false rfl rfl ?_)
        refine vl_n ?_
        refine H_of_R (R_assign (v := (.bool false)) rfl ?_)
        refine vl_e ?_
        refine WPc_ret ?_
        refine resH_of rfl ?_
        exact H
      · have H := H1 rfl; clear H1 H2
        refine vl_y rfl hb ?_
        refine H_of_R (R_move (v := (e 0)) rfl ?_)
        refine vl_y rfl hb ?_
        refine H_of_R (R_build TB_39 rfl (by decide) H fun t45 H => ?_)
        refine vl_y rfl hb ?_
        refine H_of_R (R_loadN TN_25 H fun _ t46 _ _ H _ _ => ?_)
        refine vl_y rfl hb ?_
        refine H_of_R (R_move (v := t26) rfl ?_)
        refine vl_y rfl hb ?_
        refine H_call HB_22 H fun t48 h H => ?_
        refine vl_n ?_
        refine H_of_R (R_pickC (v := t48) true hb rfl ?_)
        refine vl_n ?_
        refine H_of_R (R_move (v := t48) rfl ?_)
        obtain ⟨b_2, hb_2, H1, H2⟩ := H
        cases b_2
        · have H := H2 rfl; clear H1 H2
          refine vl_s rfl (nbT hb_2) ?_
          refine vl_s rfl (nbT hb_2) ?_
          refine vl_s rfl (nbT hb_2) ?_
          refine vl_s rfl nbU ?_
          refine vl_s rfl nbU ?_
          refine vl_s rfl (nbT hb_2) ?_
          refine vl_n ?_
          refine H_of_R (R_pickC (v := (.bool false)) false hb_2 rfl ?_)
          refine vl_n ?_
          refine H_of_R (R_move (v := (.bool false)) rfl ?_)
          refine vl_s rfl (nbT rfl) ?_
          refine vl_n ?_
          refine H_of_R (R_pickC (v := (.bool false)) false rfl rfl ?_)
          refine vl_n ?_
          refine H_of_R (R_assign (v := (.bool false)) rfl ?_)
          refine vl_e ?_
          refine WPc_ret ?_
          refine resH_of rfl ?_
          exact H
        · have H := H1 rfl; clear H1 H2
          refine vl_y rfl hb_2 ?_
          refine H_of_R (R_move (v := t39) rfl ?_)
          refine vl_y rfl hb_2 ?_
          refine H_of_R (R_eqI H fun t52 H => ?_)
          refine vl_y rfl hb_2 ?_
          refine H_of_R (R_move (v := t52) rfl ?_)
          obtain ⟨b_3, hb_3, H1, H2⟩ := H
          cases b_3
          · have H := H1 rfl; clear H1 H2
            refine vl_y rfl hb_3 ?_
            refine H_of_R (R_move (v := t39) rfl ?_)
            refine vl_y rfl hb_3 ?_
            refine H_of_R (R_eqI H fun t55 H => ?_)
            refine vl_y rfl hb_2 ?_
            refine H_of_R (R_pickC (v := t55) false hb_3 rfl ?_)
            refine vl_n ?_
            refine H_of_R (R_pickC (v := t55) true hb_2 rfl ?_)
            refine vl_n ?_
            refine H_of_R (R_move (v := t55) rfl ?_)
            obtain ⟨b_4, hb_4, H1, H2⟩ := H
            cases b_4
            · have H := H2 rfl; clear H1 H2
              refine vl_s rfl (nbT hb_4) ?_
              refine vl_n ?_
              refine H_of_R (R_pickC (v := (.bool false)) false hb_4 rfl ?_)
              refine vl_n ?_
              refine H_of_R (R_assign (v := (.bool false)) rfl ?_)
              refine vl_e ?_
              refine WPc_ret ?_
              refine resH_of rfl ?_
              exact H
            · have H := H1 rfl; clear H1 H2
              refine vl_y rfl hb_4 ?_
              refine H_call HB_14 H fun t59 h H => ?_
              refine vl_n ?_
              refine H_of_R (R_pickC (v := t59) true hb_4 rfl ?_)
              refine vl_n ?_
              refine H_of_R (R_assign (v := t59) rfl ?_)
              refine vl_e ?_
              refine WPc_ret ?_
              refine resH_of rfl ?_
              exact H
          · have H := H2 rfl; clear H1 H2
            refine vl_s rfl (nbF hb_3) ?_
            refine vl_s rfl (nbF hb_3) ?_
            refine vl_y rfl hb_2 ?_
            refine H_of_R (R_pickC (v := (.bool true)) true hb_3 rfl ?_)
            refine vl_n ?_
            refine H_of_R (R_pickC (v := (.bool true)) true hb_2 rfl ?_)
            refine vl_n ?_
            refine H_of_R (R_move (v := (.bool true)) rfl ?_)
            refine vl_y rfl rfl ?_
            refine H_call HB_14 H fun t59_2 h H => ?_
            refine vl_n ?_
            refine H_of_R (R_pickC (v := t59_2) true rfl rfl ?_)
            refine vl_n ?_
            refine H_of_R (R_assign (v := t59_2) rfl ?_)
            refine vl_e ?_
            refine WPc_ret ?_
            refine resH_of rfl ?_
            exact H
    refine WPc_seq' ?_
    refine W_region (by kernel_rfl) ?_
    refine vl_n ?_
    refine H_of_R (R_move (v := (e 0)) rfl ?_)
    refine vl_n ?_
    refine H_of_R (R_loadN TN_25 H fun _ t16 _ _ H _ _ => ?_)
    refine vl_n ?_
    refine H_call HB_13 H fun t17 h H => ?_
    refine vl_n ?_
    refine H_of_R (R_not H fun t18 H => ?_)
    refine vl_e ?_
    obtain ⟨b, hc, H1, H2⟩ := H
    refine WPc_cond hc (fun hh => ?_) (fun hh => ?_)
    · have H := H1 hh; clear H1 H2
      refine WPc_seq' ?_
      refine W_region (by kernel_rfl) ?_
      refine vl_n ?_
      refine H_call HB_14 H fun t19 h H => ?_
      refine vl_n ?_
      refine H_of_R (R_assign (v := t19) rfl ?_)
      refine vl_e ?_
      refine WPc_ret ?_
      refine resH_of rfl ?_
      exact H
    · have H := H2 hh; clear H1 H2
      refine WPc_skip ?_
      exact H
  refine WPc_seq' ?_
  refine W_region (by kernel_rfl) ?_
  refine vl_n ?_
  refine H_of_R (R_loadN TN_25 H fun _ t12 _ _ H _ _ => ?_)
  refine vl_n ?_
  refine H_call HB_12 H fun t13 h H => ?_
  refine vl_n ?_
  refine H_of_R (R_not H fun t14 H => ?_)
  refine vl_e ?_
  obtain ⟨b, hc, H1, H2⟩ := H
  refine WPc_cond hc (fun hh => ?_) (fun hh => ?_)
  · have H := H1 hh; clear H1 H2
    refine WPc_seq' ?_
    refine W_region (by kernel_rfl) ?_
    refine vl_n ?_
    refine H_of_R (R_assign (v := (.bool true)) rfl ?_)
    refine vl_e ?_
    refine WPc_ret ?_
    refine resH_of rfl ?_
    exact H
  · have H := H2 hh; clear H1 H2
    refine WPc_skip ?_
    exact H
/-! ### impl.growMap -/
def i_growMap.j1 (s5 : Value) (h : Heap) (Q : Value → Heap → Prop) : Prop :=
    Q s5 h
def i_growMap.j4 (s5 : Value) (s10 : Value) (s11 : Value) (s12 : Value) (h : Heap) (K1 : List Value → Heap → Prop) (Q : Value → Heap → Prop) : Prop :=
    arith (· + ·) s12 (.int .i64 1) fun t22 =>
    K1 [t22] h
def i_growMap.j3 (s5 : Value) (s10 : Value) (s11 : Value) (s12 : Value) (h : Heap) (K1 : List Value → Heap → Prop) (Q : Value → Heap → Prop) : Prop :=
    idx 2 s10 s12 fun t14 =>
    loadN 2 t14 h fun t15 =>
    alloc [(.int .i64 0), (.int .i64 0)] 27 h fun t7 h =>
    storeN 2 t7 t15 h fun h =>
    fld 0 t7 fun t17 =>
    load1 t17 h fun t18 =>
    fld 1 t7 fun t19 =>
    load1 t19 h fun t20 =>
    Map_ii_Set.call #[s5, t18, t20] h fun t21 h =>
    i_growMap.j4 s5 s10 s11 s12 h K1 Q
def i_growMap.l2.b (c5 : Value) (c10 : Value) (c11 : Value) (s12 : Value) (h : Heap) (K1 : List Value → Heap → Prop) (Q : Value → Heap → Prop) : Prop :=
    cmpI (fun a b => decide (a < b)) s12 c11 fun t13 =>
    ifV t13
    (i_growMap.j3 c5 c10 c11 s12 h K1 Q)
    (i_growMap.j1 c5 h Q)
def i_growMap.sh (a0 : Value) (a1 : Value) (h : Heap) (Q : Value → Heap → Prop) : Prop :=
    NewMap_ii.call #[a0] h fun t9 h =>
    lenV a1 fun t11 =>
    loopC (fun c s h K1 => i_growMap.l2.b (c.getD 0 undef) (c.getD 1 undef) (c.getD 2 undef) (s.getD 0 undef) h K1 Q) [t9, a1, t11] [(.int .i64 0)] h
theorem i_growMap.body (a0 : Value) (a1 : Value) (h : Heap) (Q : Value → Heap → Prop) (H : i_growMap.sh a0 a1 h Q) : i_growMap.call #[a0, a1] h Q := by
  refine callsH_of (args := [a0, a1]) Try.func76 rfl rfl ?_
  unfold i_growMap.sh at H
  refine WPc_seq' ?_
  refine W_region (by kernel_rfl) ?_
  refine vl_n ?_
  refine H_of_R (R_assign (v := (.pointer none)) rfl ?_)
  refine vl_e ?_
  refine WPc_seq' ?_
  refine W_region (by kernel_rfl) ?_
  refine vl_n ?_
  refine H_of_R (R_move (v := a0) rfl ?_)
  refine vl_n ?_
  refine H_call HB_108 H fun t9 h H => ?_
  refine vl_n ?_
  refine H_of_R (R_assign (v := t9) rfl ?_)
  refine vl_e ?_
  refine WPc_seq (fun e h => i_growMap.j1 (e 5) h Q) ?_ (fun e h H => ?_)
  rotate_left
  · unfold i_growMap.j1 at H
    refine WPc_seq' ?_
    refine W_region (by kernel_rfl) ?_
    refine vl_n ?_
    refine H_of_R (R_move (v := (e 5)) rfl ?_)
    refine vl_n ?_
    refine H_of_R (R_assign (v := (e 5)) rfl ?_)
    refine vl_e ?_
    refine WPc_ret ?_
    refine resH_of rfl ?_
    exact H
  refine WPc_seq' ?_
  refine W_region (by kernel_rfl) ?_
  refine vl_n ?_
  refine H_of_R (R_move (v := a1) rfl ?_)
  refine vl_n ?_
  refine H_of_R (R_len Try.underlying22 H fun t11 H => ?_)
  refine vl_n ?_
  refine H_of_R (R_move (v := (.int .i64 0)) rfl ?_)
  refine vl_e ?_
  refine WPc_block ?_
  refine loop_at (fun e => [e 12]) (fun e => [e 5, e 10, e 11]) H rfl rfl ?_
  intro K1 e1 h H hin1
  replace H : i_growMap.l2.b (e1 5) (e1 10) (e1 11) (e1 12) h K1 Q := H
  unfold i_growMap.l2.b at H
  clear hin1
  refine WPc_seq' ?_
  refine W_region (by kernel_rfl) ?_
  refine vl_n ?_
  refine H_of_R (R_lss H fun t13 H => ?_)
  refine vl_e ?_
  refine WPc_seq (fun e h => i_growMap.j3 (e 5) (e 10) (e 11) (e 12) h K1 Q ∧ [e1 5, e1 10, e1 11] = [e 5, e 10, e 11]) ?_ (fun e h ⟨H, hq1⟩ => ?_)
  rotate_left
  · unfold i_growMap.j3 at H
    refine WPc_seq (fun e h => i_growMap.j4 (e 5) (e 10) (e 11) (e 12) h K1 Q ∧ [e1 5, e1 10, e1 11] = [e 5, e 10, e 11]) ?_ (fun e h ⟨H, hq1⟩ => ?_)
    rotate_left
    · unfold i_growMap.j4 at H
      refine W_region (by kernel_rfl) ?_
      refine vl_n ?_
      refine H_of_R (R_add H fun t22 H => ?_)
      refine vl_n ?_
      refine H_of_R (R_move (v := t22) rfl ?_)
      refine vl_e ?_
      exact ⟨H, hq1⟩
    refine WPc_block ?_
    refine WPc_seq' ?_
    refine W_region (by kernel_rfl) ?_
    refine vl_n ?_
    refine H_of_R (R_idx TE_22 H fun t14 H => ?_)
    refine vl_n ?_
    refine H_of_R (R_loadN TN_27 H fun _ t15 _ _ H _ _ => ?_)
    refine vl_n ?_
    refine H_alloc TV_27 H fun t7 h H => ?_
    refine vl_n ?_
    refine H_storeN TS_27 H fun h H => ?_
    refine vl_e ?_
    refine W_region (by kernel_rfl) ?_
    refine vl_n ?_
    refine H_of_R (R_move (v := (e 5)) rfl ?_)
    refine vl_n ?_
    refine H_of_R (R_fld TF_27_0 H fun t17 H => ?_)
    refine vl_n ?_
    refine H_of_R (R_load1 T1_3 H fun _ t18 _ _ H => ?_)
    refine vl_n ?_
    refine H_of_R (R_fld TF_27_1 H fun t19 H => ?_)
    refine vl_n ?_
    refine H_of_R (R_load1 T1_3 H fun _ t20 _ _ H => ?_)
    refine vl_n ?_
    refine H_call HB_59 H fun t21 h H => ?_
    refine vl_e ?_
    exact ⟨H, hq1⟩
  obtain ⟨b, hc, H1, H2⟩ := H
  refine WPc_cond hc (fun hh => ?_) (fun hh => ?_)
  · have H := H1 hh; clear H1 H2
    refine WPc_skip ?_
    exact ⟨H, rfl⟩
  · have H := H2 hh; clear H1 H2
    refine WPc_exit ?_
    exact H

end Go.Proofs.Ytlihjljdndbpdaa
