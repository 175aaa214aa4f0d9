/-
  Shallow forms of the walked functions, and that each call comes to its form. Written by a program of this repo (gen.py). Conditions: none.
-/
import Derived.Test.YtfojeibloilneaaST
namespace Go.Proofs.Ytfojeibloilneaa
open Go.Hp
set_option maxRecDepth 100000
set_option maxHeartbeats 8000000
set_option linter.unusedVariables false
set_option linter.unusedSimpArgs false

/-! ### (*pub/tidwallbtree.Set[string]).Descend$1 -/
def Set_s_Descend_c1.sh (a0 : Value) (a1 : Value) (f0 : Value) (h : Heap) (Q : Value → Heap → Prop) : Prop :=
    box 59 a1 h fun t4 h =>
    load1 f0 h fun t6 =>
    callV Try.prog t6 #[a0] h fun t8 h =>
    Q t8 h
theorem Set_s_Descend_c1.body (a0 : Value) (a1 : Value) (f0 : Value) (h : Heap) (Q : Value → Heap → Prop) (H : Set_s_Descend_c1.sh a0 a1 f0 h Q) : Set_s_Descend_c1.call #[a0, a1, f0] h Q := by
  refine callsH_of (args := [a0, a1, f0]) Try.func52 rfl rfl ?_
  unfold Set_s_Descend_c1.sh at H
  refine WPc_seq' ?_
  refine W_region (by kernel_rfl) ?_
  refine vl_n ?_
  refine H_box H fun t4 h H => ?_
  refine vl_n ?_
  refine H_of_R (R_assign (v := (.bool false)) rfl ?_)
  refine vl_e ?_
  refine WPc_seq' ?_
  refine W_region (by kernel_rfl) ?_
  refine vl_n ?_
  refine H_of_R (R_load1 T1_46 H fun _ t6 _ _ H => ?_)
  refine vl_n ?_
  refine H_of_R (R_move (v := a0) rfl ?_)
  refine vl_n ?_
  refine H_callV H fun t8 h H => ?_
  refine vl_n ?_
  refine H_of_R (R_assign (v := t8) rfl ?_)
  refine vl_e ?_
  refine WPc_ret ?_
  refine resH_of rfl ?_
  exact H
/-! ### (*pub/tidwallbtree.Set[string]).Descend -/
def Set_s_Descend.sh (a0 : Value) (a1 : Value) (a2 : Value) (h : Heap) (Q : Value → Heap → Prop) : Prop :=
    box 46 a2 h fun t5 h =>
    nilck a0 fun t7 =>
    fld 0 t7 fun t8 =>
    Map_su_Descend.call #[t8, a1, (.func (.func 52) #[] #[t5])] h fun t11 h =>
    Q (.tuple #[]) h
theorem Set_s_Descend.body (a0 : Value) (a1 : Value) (a2 : Value) (h : Heap) (Q : Value → Heap → Prop) (H : Set_s_Descend.sh a0 a1 a2 h Q) : Set_s_Descend.call #[a0, a1, a2] h Q := by
  refine callsH_of (args := [a0, a1, a2]) Try.func40 rfl rfl ?_
  unfold Set_s_Descend.sh at H
  refine WPc_seq' ?_
  refine W_region (by kernel_rfl) ?_
  refine vl_n ?_
  refine H_box H fun t5 h H => ?_
  refine vl_e ?_
  refine W_region (by kernel_rfl) ?_
  refine vl_n ?_
  refine H_of_R (R_move (v := a0) rfl ?_)
  refine vl_n ?_
  refine H_of_R (R_nil H fun t7 H => ?_)
  refine vl_n ?_
  refine H_of_R (R_fld TF_65_0 H fun t8 H => ?_)
  refine vl_n ?_
  refine H_of_R (R_move (v := a1) rfl ?_)
  refine vl_n ?_
  refine H_of_R (R_mkFn (v := (.func (.func 52) #[] #[t5])) rfl ?_)
  refine vl_n ?_
  refine H_call HB_51 H fun t11 h H => ?_
  refine vl_e ?_
  refine resH_of rfl ?_
  exact H
/-! ### impl.TDescend -/
def i_TDescend.sh (a0 : Value) (a1 : Value) (a2 : Value) (h : Heap) (Q : Value → Heap → Prop) : Prop :=
    alloc [(.slice none 0 0)] 22 h fun t7 h =>
    i_growTexts.call #[a0] h fun t9 h =>
    i_taker_s.call #[t7, a2] h fun t12 h =>
    Set_s_Descend.call #[t9, a1, t12] h fun t13 h =>
    load1 t7 h fun t14 =>
    Q t14 h
theorem i_TDescend.body (a0 : Value) (a1 : Value) (a2 : Value) (h : Heap) (Q : Value → Heap → Prop) (H : i_TDescend.sh a0 a1 a2 h Q) : i_TDescend.call #[a0, a1, a2] h Q := by
  refine callsH_of (args := [a0, a1, a2]) Try.func23 rfl rfl ?_
  unfold i_TDescend.sh at H
  refine WPc_seq' ?_
  refine W_region (by kernel_rfl) ?_
  refine vl_n ?_
  refine H_of_R (R_assign (v := (.slice none 0 0)) rfl ?_)
  refine vl_e ?_
  refine WPc_seq' ?_
  refine W_region (by kernel_rfl) ?_
  refine vl_n ?_
  refine H_alloc TV_22 H fun t7 h H => ?_
  refine vl_e ?_
  refine WPc_seq' ?_
  refine W_region (by kernel_rfl) ?_
  refine vl_n ?_
  refine H_of_R (R_move (v := a0) rfl ?_)
  refine vl_n ?_
  refine H_call HB_24 H fun t9 h H => ?_
  refine vl_n ?_
  refine H_of_R (R_move (v := a1) rfl ?_)
  refine vl_n ?_
  refine H_of_R (R_move (v := a2) rfl ?_)
  refine vl_n ?_
  refine H_call HB_34 H fun t12 h H => ?_
  refine vl_n ?_
  refine H_call HB_40 H fun t13 h H => ?_
  refine vl_e ?_
  refine WPc_seq' ?_
  refine W_region (by kernel_rfl) ?_
  refine vl_n ?_
  refine H_of_R (R_load1 T1_22 H fun _ t14 _ _ H => ?_)
  refine vl_n ?_
  refine H_of_R (R_assign (v := t14) rfl ?_)
  refine vl_e ?_
  refine WPc_ret ?_
  refine resH_of rfl ?_
  exact H
/-! ### laws.FnTSplits -/
def l_FnTSplits.j2 (s0 : Value) (s5 : Value) (s6 : Value) (h : Heap) (Q : Value → Heap → Prop) : Prop :=
    mkSl (if 2 * 1 = 0 then [] else zeros [(.slice none 0 0)] 2) 2 [(0 * 1, 1, s5), (1 * 1, 1, s6)] 22 h fun t49 h =>
    sl_Concat_ss.call #[t49] h fun t50 h =>
    i_TInsert.call #[s0] h fun t52 h =>
    sl_Equal_ss.call #[t50, t52] h fun t53 h =>
    br t53 true (l_aliveT.call #[] h fun t55 h =>
    Q t55 h) (Q (.bool false) h)
def l_FnTSplits.j3 (s0 : Value) (s5 : Value) (s6 : Value) (h : Heap) (Q : Value → Heap → Prop) : Prop :=
    slc 1 s6 (some (.int .i64 1)) none none fun t46 =>
    l_FnTSplits.j2 s0 s5 t46 h Q
def l_FnTSplits.j1 (s0 : Value) (s1 : Value) (h : Heap) (Q : Value → Heap → Prop) : Prop :=
    i_TDescend.call #[s0, s1, (.int .i64 0)] h fun t17 h =>
    l_turned_s.call #[t17] h fun t18 h =>
    i_TAscend.call #[s0, s1, (.int .i64 0)] h fun t21 h =>
    lenV t21 fun t23 =>
    cmpI (fun a b => decide (a > b)) t23 (.int .i64 0) fun t24 =>
    br t24 true (idx 1 t21 (.int .i64 0) fun t27 =>
    load1 t27 h fun t28 =>
    cmpS (fun _ eq => eq) t28 s1 fun t30 =>
    ifV t30
    (lenV t18 fun t33 =>
    cmpI (fun a b => a == b) t33 (.int .i64 0) fun t34 =>
    br t34 false (lenV t18 fun t38 =>
    arith (· - ·) t38 (.int .i64 1) fun t39 =>
    idx 1 t18 t39 fun t40 =>
    load1 t40 h fun t41 =>
    cmpS (fun _ eq => !eq) t41 s1 fun t43 =>
    ifV t43
    (Q (.bool false) h)
    (l_FnTSplits.j3 s0 t18 t21 h Q)) (Q (.bool false) h))
    (l_FnTSplits.j2 s0 t18 t21 h Q)) (l_FnTSplits.j2 s0 t18 t21 h Q)
def l_FnTSplits.sh (a0 : Value) (a1 : Value) (h : Heap) (Q : Value → Heap → Prop) : Prop :=
    l_zzFits13.call #[a0] h fun t8 h =>
    notV t8 fun t9 =>
    br t9 false (lenStr a1 fun t12 =>
    cmpI (fun a b => decide (a > b)) t12 (.int .i64 2147483647) fun t13 =>
    ifV t13
    (Q (.bool true) h)
    (l_FnTSplits.j1 a0 a1 h Q)) (Q (.bool true) h)
theorem l_FnTSplits.body (a0 : Value) (a1 : Value) (h : Heap) (Q : Value → Heap → Prop) (H : l_FnTSplits.sh a0 a1 h Q) : l_FnTSplits.call #[a0, a1] h Q := by
  refine callsH_of (args := [a0, a1]) Try.func8 rfl rfl ?_
  unfold l_FnTSplits.sh at H
  refine WPc_seq' ?_
  refine W_region (by kernel_rfl) ?_
  refine vl_n ?_
  refine H_of_R (R_assign (v := (.bool false)) rfl ?_)
  refine vl_e ?_
  refine WPc_seq (fun e h => l_FnTSplits.j1 (e 0) (e 1) h Q) ?_ (fun e h H => ?_)
  rotate_left
  · unfold l_FnTSplits.j1 at H
    refine WPc_seq' ?_
    refine W_region (by kernel_rfl) ?_
    refine vl_n ?_
    refine H_of_R (R_move (v := (e 0)) rfl ?_)
    refine vl_n ?_
    refine H_of_R (R_move (v := (e 1)) rfl ?_)
    refine vl_n ?_
    refine H_call HB_23 H fun t17 h H => ?_
    refine vl_n ?_
    refine H_call HB_22 H fun t18 h H => ?_
    refine vl_n ?_
    refine H_of_R (R_move (v := (e 0)) rfl ?_)
    refine vl_n ?_
    refine H_of_R (R_move (v := (e 1)) rfl ?_)
    refine vl_n ?_
    refine H_call HB_18 H fun t21 h H => ?_
    refine vl_n ?_
    refine H_of_R (R_assign (v := t18) rfl ?_)
    refine vl_n ?_
    refine H_of_R (R_assign (v := t21) rfl ?_)
    refine vl_e ?_
    refine WPc_seq (fun e h => l_FnTSplits.j2 (e 0) (e 5) (e 6) h Q) ?_ (fun e h H => ?_)
    rotate_left
    · unfold l_FnTSplits.j2 at H
      refine WPc_seq' ?_
      refine W_region (by kernel_rfl) ?_
      refine vl_n ?_
      refine H_of_R (R_move (v := (e 5)) rfl ?_)
      refine vl_n ?_
      refine H_of_R (R_move (v := (e 6)) rfl ?_)
      refine vl_n ?_
      refine H_mkSl TZ_43 (by decide) rfl H rfl fun t49 h H => ?_
      refine vl_n ?_
      refine H_call HB_15 H fun t50 h H => ?_
      refine vl_n ?_
      refine H_of_R (R_move (v := (e 0)) rfl ?_)
      refine vl_n ?_
      refine H_call HB_11 H fun t52 h H => ?_
      refine vl_n ?_
      refine H_call HB_12 H fun t53 h H => ?_
      refine vl_n ?_
      refine H_of_R (R_move (v := t53) rfl ?_)
      obtain ⟨b, hb, H1, H2⟩ := H
      cases b
      · have H := H2 rfl; clear H1 H2
        refine vl_s rfl (nbT hb) ?_
        refine vl_n ?_
        refine H_of_R (R_pickC (v := (.bool false)) false hb rfl ?_)
        refine vl_n ?_
        refine H_of_R (R_assign (v := (.bool false)) rfl ?_)
        refine vl_e ?_
        refine WPc_ret ?_
        refine resH_of rfl ?_
        exact H
      · have H := H1 rfl; clear H1 H2
        refine vl_y rfl hb ?_
        refine H_call HB_13 H fun t55 h H => ?_
        refine vl_n ?_
        refine H_of_R (R_pickC (v := t55) true hb rfl ?_)
        refine vl_n ?_
        refine H_of_R (R_assign (v := t55) rfl ?_)
        refine vl_e ?_
        refine WPc_ret ?_
        refine resH_of rfl ?_
        exact H
    refine WPc_seq' ?_
    refine W_region (by kernel_rfl) ?_
    refine vl_n ?_
    refine H_of_R (R_move (v := t21) rfl ?_)
    refine vl_n ?_
    refine H_of_R (R_len Try.underlying22 H fun t23 H => ?_)
    refine vl_n ?_
    refine H_of_R (R_gtr H fun t24 H => ?_)
    refine vl_n ?_
    refine H_of_R (R_move (v := t24) rfl ?_)
    obtain ⟨b, hb, H1, H2⟩ := H
    cases b
    · have H := H2 rfl; clear H1 H2
      refine vl_s rfl (nbT hb) ?_
      refine vl_s rfl (nbT hb) ?_
      refine vl_s rfl (nbT hb) ?_
      refine vl_s rfl (nbT hb) ?_
      refine vl_s rfl (nbT hb) ?_
      refine vl_n ?_
      refine H_of_R (R_pickC (v := (.bool false)) false hb rfl ?_)
      refine vl_e ?_
      refine WPc_cond (t := false) rfl (fun hh => by cases hh) (fun _ => ?_)
      refine WPc_skip ?_
      exact H
    · have H := H1 rfl; clear H1 H2
      refine vl_y rfl hb ?_
      refine H_of_R (R_move (v := t21) rfl ?_)
      refine vl_y rfl hb ?_
      refine H_of_R (R_idx TE_22 H fun t27 H => ?_)
      refine vl_y rfl hb ?_
      refine H_of_R (R_load1 T1_9 H fun _ t28 _ _ H => ?_)
      refine vl_y rfl hb ?_
      refine H_of_R (R_move (v := (e 1)) rfl ?_)
      refine vl_y rfl hb ?_
      refine H_of_R (R_eqS H fun t30 H => ?_)
      refine vl_n ?_
      refine H_of_R (R_pickC (v := t30) true hb rfl ?_)
      refine vl_e ?_
      obtain ⟨b_2, hc, H1, H2⟩ := H
      refine WPc_cond hc (fun hh => ?_) (fun hh => ?_)
      · have H := H1 hh; clear H1 H2
        refine WPc_seq (fun e h => l_FnTSplits.j3 (e 0) (e 5) (e 6) h Q) ?_ (fun e h H => ?_)
        rotate_left
        · unfold l_FnTSplits.j3 at H
          refine W_region (by kernel_rfl) ?_
          refine vl_n ?_
          refine H_of_R (R_move (v := (e 6)) rfl ?_)
          refine vl_n ?_
          refine H_of_R (R_slice TE_22 (by decide) H fun t46 H => ?_)
          refine vl_n ?_
          refine H_of_R (R_assign (v := t46) rfl ?_)
          refine vl_e ?_
          exact H
        refine WPc_seq' ?_
        refine W_region (by kernel_rfl) ?_
        refine vl_n ?_
        refine H_of_R (R_move (v := t18) rfl ?_)
        refine vl_n ?_
        refine H_of_R (R_len Try.underlying22 H fun t33 H => ?_)
        refine vl_n ?_
        refine H_of_R (R_eqI H fun t34 H => ?_)
        refine vl_n ?_
        refine H_of_R (R_move (v := t34) rfl ?_)
        obtain ⟨b_3, hb_2, H1, H2⟩ := H
        cases b_3
        · have H := H1 rfl; clear H1 H2
          refine vl_y rfl hb_2 ?_
          refine H_of_R (R_move (v := t18) rfl ?_)
          refine vl_y rfl hb_2 ?_
          refine H_of_R (R_move (v := t18) rfl ?_)
          refine vl_y rfl hb_2 ?_
          refine H_of_R (R_len Try.underlying22 H fun t38 H => ?_)
          refine vl_y rfl hb_2 ?_
          refine H_of_R (R_sub H fun t39 H => ?_)
          refine vl_y rfl hb_2 ?_
          refine H_of_R (R_idx TE_22 H fun t40 H => ?_)
          refine vl_y rfl hb_2 ?_
          refine H_of_R (R_load1 T1_9 H fun _ t41 _ _ H => ?_)
          refine vl_y rfl hb_2 ?_
          refine H_of_R (R_move (v := (e 1)) rfl ?_)
          refine vl_y rfl hb_2 ?_
          refine H_of_R (R_neS H fun t43 H => ?_)
          refine vl_n ?_
          refine H_of_R (R_pickC (v := t43) false hb_2 rfl ?_)
          refine vl_e ?_
          obtain ⟨b_4, hc_2, H1, H2⟩ := H
          refine WPc_cond hc_2 (fun hh => ?_) (fun hh => ?_)
          · have H := H1 hh; clear H1 H2
            refine WPc_seq' ?_
            refine W_region (by kernel_rfl) ?_
            refine vl_n ?_
            refine H_of_R (R_assign (v := (.bool false)) rfl ?_)
            refine vl_e ?_
            refine WPc_ret ?_
            refine resH_of rfl ?_
            exact H
          · have H := H2 hh; clear H1 H2
            refine WPc_skip ?_
            exact H
        · have H := H2 rfl; clear H1 H2
          refine vl_s rfl (nbF hb_2) ?_
          refine vl_s rfl (nbF hb_2) ?_
          refine vl_s rfl (nbF hb_2) ?_
          refine vl_s rfl (nbF hb_2) ?_
          refine vl_s rfl (nbF hb_2) ?_
          refine vl_s rfl (nbF hb_2) ?_
          refine vl_s rfl (nbF hb_2) ?_
          refine vl_s rfl (nbF hb_2) ?_
          refine vl_n ?_
          refine H_of_R (R_pickC (v := (.bool true)) true hb_2 rfl ?_)
          refine vl_e ?_
          refine WPc_cond (t := true) rfl (fun _ => ?_) (fun hh => by cases hh)
          refine WPc_seq' ?_
          refine W_region (by kernel_rfl) ?_
          refine vl_n ?_
          refine H_of_R (R_assign (v := (.bool false)) rfl ?_)
          refine vl_e ?_
          refine WPc_ret ?_
          refine resH_of rfl ?_
          exact H
      · have H := H2 hh; clear H1 H2
        refine WPc_skip ?_
        exact H
  refine WPc_seq' ?_
  refine W_region (by kernel_rfl) ?_
  refine vl_n ?_
  refine H_of_R (R_move (v := a0) rfl ?_)
  refine vl_n ?_
  refine H_call HB_9 H fun t8 h H => ?_
  refine vl_n ?_
  refine H_of_R (R_not H fun t9 H => ?_)
  refine vl_n ?_
  refine H_of_R (R_move (v := t9) rfl ?_)
  obtain ⟨b, hb, H1, H2⟩ := H
  cases b
  · have H := H1 rfl; clear H1 H2
    refine vl_y rfl hb ?_
    refine H_of_R (R_move (v := a1) rfl ?_)
    refine vl_y rfl hb ?_
    refine H_of_R (R_lenS Try.underlying9 H fun t12 H => ?_)
    refine vl_y rfl hb ?_
    refine H_of_R (R_gtr H fun t13 H => ?_)
    refine vl_n ?_
    refine H_of_R (R_pickC (v := t13) false hb rfl ?_)
    refine vl_e ?_
    obtain ⟨b_2, hc, H1, H2⟩ := H
    refine WPc_cond hc (fun hh => ?_) (fun hh => ?_)
    · have H := H1 hh; clear H1 H2
      refine WPc_seq' ?_
      refine W_region (by kernel_rfl) ?_
      refine vl_n ?_
      refine H_of_R (R_assign (v := (.bool true)) rfl ?_)
      refine vl_e ?_
      refine WPc_ret ?_
      refine resH_of rfl ?_
      exact H
    · have H := H2 hh; clear H1 H2
      refine WPc_skip ?_
      exact H
  · have H := H2 rfl; clear H1 H2
    refine vl_s rfl (nbF hb) ?_
    refine vl_s rfl (nbF hb) ?_
    refine vl_s rfl (nbF hb) ?_
    refine vl_n ?_
    refine H_of_R (R_pickC (v := (.bool true)) true hb rfl ?_)
    refine vl_e ?_
    refine WPc_cond (t := true) rfl (fun _ => ?_) (fun hh => by cases hh)
    refine WPc_seq' ?_
    refine W_region (by kernel_rfl) ?_
    refine vl_n ?_
    refine H_of_R (R_assign (v := (.bool true)) rfl ?_)
    refine vl_e ?_
    refine WPc_ret ?_
    refine resH_of rfl ?_
    exact H

end Go.Proofs.Ytfojeibloilneaa
