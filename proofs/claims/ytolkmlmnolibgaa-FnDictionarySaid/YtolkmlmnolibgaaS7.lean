/-
  Shallow forms of the walked functions, and that each call comes to its form. Written by a program of this repo (gen.py). Conditions: none.
-/
import Derived.Test.YtolkmlmnolibgaaST
namespace Go.Proofs.Ytolkmlmnolibgaa
open Go.Hp
set_option maxRecDepth 100000
set_option maxHeartbeats 8000000
set_option linter.unusedVariables false
set_option linter.unusedSimpArgs false

/-! ### laws.FnWLast -/
def l_FnWLast.j4 (s5 : Value) (s8 : Value) (h : Heap) (Q : Value → Heap → Prop) : Prop :=
    lenV s8 fun t59 =>
    lenM s5 h fun t61 h =>
    cmpI (fun a b => a == b) t59 t61 fun t62 =>
    br t62 true (l_aliveW.call #[] h fun t64 h =>
    Q t64 h) (Q (.bool false) h)
def l_FnWLast.j7 (s5 : Value) (s8 : Value) (s36 : Value) (s37 : Value) (s38 : Value) (h : Heap) (K1 : List Value → Heap → Prop) (Q : Value → Heap → Prop) : Prop :=
    arith (· + ·) s38 (.int .i64 1) fun t57 =>
    K1 [t57] h
def l_FnWLast.j6 (s5 : Value) (s8 : Value) (s36 : Value) (s37 : Value) (s38 : Value) (h : Heap) (K1 : List Value → Heap → Prop) (Q : Value → Heap → Prop) : Prop :=
    idx 2 s36 s38 fun t40 =>
    loadN 2 t40 h fun t41 =>
    alloc [(.string ⟨#[]⟩), (.int .i64 0)] 26 h fun t10 h =>
    storeN 2 t10 t41 h fun h =>
    fld 0 t10 fun t44 =>
    load1 t44 h fun t45 =>
    getM (.int .i64 0) true s5 t45 h fun t46 h =>
    extr 0 t46 fun t47 =>
    extr 1 t46 fun t48 =>
    notV t48 fun t50 =>
    br t50 false (fld 1 t10 fun t53 =>
    load1 t53 h fun t54 =>
    cmpI (fun a b => a != b) t47 t54 fun t55 =>
    ifV t55
    (Q (.bool false) h)
    (l_FnWLast.j7 s5 s8 s36 s37 s38 h K1 Q)) (Q (.bool false) h)
def l_FnWLast.l5.b (c5 : Value) (c8 : Value) (c36 : Value) (c37 : Value) (s38 : Value) (h : Heap) (K1 : List Value → Heap → Prop) (Q : Value → Heap → Prop) : Prop :=
    cmpI (fun a b => decide (a < b)) s38 c37 fun t39 =>
    ifV t39
    (l_FnWLast.j6 c5 c8 c36 c37 s38 h K1 Q)
    (l_FnWLast.j4 c5 c8 h Q)
def l_FnWLast.j3 (s0 : Value) (s1 : Value) (s5 : Value) (h : Heap) (Q : Value → Heap → Prop) : Prop :=
    i_WScan.call #[s0, s1, (.int .i64 0)] h fun t35 h =>
    lenV t35 fun t37 =>
    loopC (fun c s h K1 => l_FnWLast.l5.b (c.getD 0 undef) (c.getD 1 undef) (c.getD 2 undef) (c.getD 3 undef) (s.getD 0 undef) h K1 Q) [s5, t35, t35, t37] [(.int .i64 0)] h
def l_FnWLast.j10 (s0 : Value) (s1 : Value) (s5 : Value) (s21 : Value) (s22 : Value) (s23 : Value) (h : Heap) (K1 : List Value → Heap → Prop) (Q : Value → Heap → Prop) : Prop :=
    arith (· + ·) s23 (.int .i64 1) fun t32 =>
    K1 [t32] h
def l_FnWLast.j9 (s0 : Value) (s1 : Value) (s5 : Value) (s21 : Value) (s22 : Value) (s23 : Value) (h : Heap) (K1 : List Value → Heap → Prop) (Q : Value → Heap → Prop) : Prop :=
    idx 2 s21 s23 fun t25 =>
    loadN 2 t25 h fun t26 =>
    alloc [(.string ⟨#[]⟩), (.int .i64 0)] 26 h fun t7 h =>
    storeN 2 t7 t26 h fun h =>
    fld 0 t7 fun t28 =>
    load1 t28 h fun t29 =>
    fld 1 t7 fun t30 =>
    load1 t30 h fun t31 =>
    updM s5 t29 t31 h fun h =>
    l_FnWLast.j10 s0 s1 s5 s21 s22 s23 h K1 Q
def l_FnWLast.l8.b (c0 : Value) (c1 : Value) (c5 : Value) (c21 : Value) (c22 : Value) (s23 : Value) (h : Heap) (K1 : List Value → Heap → Prop) (Q : Value → Heap → Prop) : Prop :=
    cmpI (fun a b => decide (a < b)) s23 c22 fun t24 =>
    ifV t24
    (l_FnWLast.j9 c0 c1 c5 c21 c22 s23 h K1 Q)
    (l_FnWLast.j3 c0 c1 c5 h Q)
def l_FnWLast.j2 (s0 : Value) (s1 : Value) (h : Heap) (Q : Value → Heap → Prop) : Prop :=
    mkM h fun t20 h =>
    lenV s1 fun t22 =>
    loopC (fun c s h K1 => l_FnWLast.l8.b (c.getD 0 undef) (c.getD 1 undef) (c.getD 2 undef) (c.getD 3 undef) (c.getD 4 undef) (s.getD 0 undef) h K1 Q) [s0, s1, t20, s1, t22] [(.int .i64 0)] h
def l_FnWLast.j1 (s0 : Value) (s1 : Value) (h : Heap) (Q : Value → Heap → Prop) : Prop :=
    l_fit.call #[s0] h fun t17 h =>
    notV t17 fun t18 =>
    ifV t18
    (l_aliveW.call #[] h fun t19 h =>
    Q t19 h)
    (l_FnWLast.j2 s0 s1 h Q)
def l_FnWLast.sh (a0 : Value) (a1 : Value) (h : Heap) (Q : Value → Heap → Prop) : Prop :=
    l_zzFits8.call #[a1] h fun t14 h =>
    notV t14 fun t15 =>
    ifV t15
    (Q (.bool true) h)
    (l_FnWLast.j1 a0 a1 h Q)
theorem l_FnWLast.body (a0 : Value) (a1 : Value) (h : Heap) (Q : Value → Heap → Prop) (H : l_FnWLast.sh a0 a1 h Q) : l_FnWLast.call #[a0, a1] h Q := by
  refine callsH_of (args := [a0, a1]) Try.func4 rfl rfl ?_
  unfold l_FnWLast.sh at H
  refine WPc_seq' ?_
  refine W_region (by kernel_rfl) ?_
  refine vl_n ?_
  refine H_of_R (R_assign (v := (.bool false)) rfl ?_)
  refine vl_e ?_
  refine WPc_seq (fun e h => l_FnWLast.j1 (e 0) (e 1) h Q) ?_ (fun e h H => ?_)
  rotate_left
  · unfold l_FnWLast.j1 at H
    refine WPc_seq (fun e h => l_FnWLast.j2 (e 0) (e 1) h Q) ?_ (fun e h H => ?_)
    rotate_left
    · unfold l_FnWLast.j2 at H
      refine WPc_seq' ?_
      refine W_region (by kernel_rfl) ?_
      refine vl_n ?_
      refine H_mkM H fun t20 h H => ?_
      refine vl_n ?_
      refine H_of_R (R_assign (v := t20) rfl ?_)
      refine vl_e ?_
      refine WPc_seq (fun e h => l_FnWLast.j3 (e 0) (e 1) (e 5) h Q) ?_ (fun e h H => ?_)
      rotate_left
      · unfold l_FnWLast.j3 at H
        refine WPc_seq' ?_
        refine W_region (by kernel_rfl) ?_
        refine vl_n ?_
        refine H_of_R (R_move (v := (e 0)) rfl ?_)
        refine vl_n ?_
        refine H_of_R (R_move (v := (e 1)) rfl ?_)
        refine vl_n ?_
        refine H_call HB_13 H fun t35 h H => ?_
        refine vl_n ?_
        refine H_of_R (R_assign (v := t35) rfl ?_)
        refine vl_e ?_
        refine WPc_seq (fun e h => l_FnWLast.j4 (e 5) (e 8) h Q) ?_ (fun e h H => ?_)
        rotate_left
        · unfold l_FnWLast.j4 at H
          refine WPc_seq' ?_
          refine W_region (by kernel_rfl) ?_
          refine vl_n ?_
          refine H_of_R (R_move (v := (e 8)) rfl ?_)
          refine vl_n ?_
          refine H_of_R (R_len Try.underlying27 H fun t59 H => ?_)
          refine vl_n ?_
          refine H_of_R (R_move (v := (e 5)) rfl ?_)
          refine vl_n ?_
          refine H_lenM (l := []) Try.underlying36 H fun t61 h H => ?_
          refine vl_n ?_
          refine H_of_R (R_eqI H fun t62 H => ?_)
          refine vl_n ?_
          refine H_of_R (R_move (v := t62) rfl ?_)
          obtain ⟨b, hb, H1, H2⟩ := H
          cases b
          · have H := H2 rfl; clear H1 H2
            refine vl_s rfl (nbT hb) ?_
            refine vl_n ?_
            refine H_of_R (R_pickC (v := (.bool false)) false hb rfl ?_)
            refine vl_n ?_
            refine H_of_R (R_assign (v := (.bool false)) rfl ?_)
            refine vl_e ?_
            refine WPc_ret ?_
            refine resH_of rfl ?_
            exact H
          · have H := H1 rfl; clear H1 H2
            refine vl_y rfl hb ?_
            refine H_call HB_9 H fun t64 h H => ?_
            refine vl_n ?_
            refine H_of_R (R_pickC (v := t64) true hb rfl ?_)
            refine vl_n ?_
            refine H_of_R (R_assign (v := t64) rfl ?_)
            refine vl_e ?_
            refine WPc_ret ?_
            refine resH_of rfl ?_
            exact H
        refine WPc_seq' ?_
        refine W_region (by kernel_rfl) ?_
        refine vl_n ?_
        refine H_of_R (R_move (v := t35) rfl ?_)
        refine vl_n ?_
        refine H_of_R (R_len Try.underlying27 H fun t37 H => ?_)
        refine vl_n ?_
        refine H_of_R (R_move (v := (.int .i64 0)) rfl ?_)
        refine vl_e ?_
        refine WPc_block ?_
        refine loop_at (fun e => [e 38]) (fun e => [e 5, e 8, e 36, e 37]) H rfl rfl ?_
        intro K1 e1 h H hin1
        replace H : l_FnWLast.l5.b (e1 5) (e1 8) (e1 36) (e1 37) (e1 38) h K1 Q := H
        unfold l_FnWLast.l5.b at H
        clear hin1
        refine WPc_seq' ?_
        refine W_region (by kernel_rfl) ?_
        refine vl_n ?_
        refine H_of_R (R_lss H fun t39 H => ?_)
        refine vl_e ?_
        refine WPc_seq (fun e h => l_FnWLast.j6 (e 5) (e 8) (e 36) (e 37) (e 38) h K1 Q ∧ [e1 5, e1 8, e1 36, e1 37] = [e 5, e 8, e 36, e 37]) ?_ (fun e h ⟨H, hq1⟩ => ?_)
        rotate_left
        · unfold l_FnWLast.j6 at H
          refine WPc_seq (fun e h => l_FnWLast.j7 (e 5) (e 8) (e 36) (e 37) (e 38) h K1 Q ∧ [e1 5, e1 8, e1 36, e1 37] = [e 5, e 8, e 36, e 37]) ?_ (fun e h ⟨H, hq1⟩ => ?_)
          rotate_left
          · unfold l_FnWLast.j7 at H
            refine W_region (by kernel_rfl) ?_
            refine vl_n ?_
            refine H_of_R (R_add H fun t57 H => ?_)
            refine vl_n ?_
            refine H_of_R (R_move (v := t57) rfl ?_)
            refine vl_e ?_
            exact ⟨H, hq1⟩
          refine WPc_block ?_
          refine WPc_seq' ?_
          refine W_region (by kernel_rfl) ?_
          refine vl_n ?_
          refine H_of_R (R_idx TE_27 H fun t40 H => ?_)
          refine vl_n ?_
          refine H_of_R (R_loadN TN_26 H fun _ t41 _ _ H _ _ => ?_)
          refine vl_n ?_
          refine H_alloc TV_26 H fun t10 h H => ?_
          refine vl_n ?_
          refine H_storeN TS_26 H fun h H => ?_
          refine vl_e ?_
          refine WPc_seq' ?_
          refine W_region (by kernel_rfl) ?_
          refine vl_n ?_
          refine H_of_R (R_move (v := (e 5)) rfl ?_)
          refine vl_n ?_
          refine H_of_R (R_fld TF_26_0 H fun t44 H => ?_)
          refine vl_n ?_
          refine H_of_R (R_load1 T1_9 H fun _ t45 _ _ H => ?_)
          refine vl_n ?_
          refine H_getM Try.underlying36 Try.underlying9 Try.type3 rfl H fun t46 h H => ?_
          refine vl_n ?_
          refine H_of_R (R_move (v := t46) rfl ?_)
          refine vl_n ?_
          refine H_of_R (R_ext H fun t47 H => ?_)
          refine vl_n ?_
          refine H_of_R (R_ext H fun t48 H => ?_)
          refine vl_n ?_
          refine H_of_R (R_assign (v := t47) rfl ?_)
          refine vl_n ?_
          refine H_of_R (R_assign (v := t48) rfl ?_)
          refine vl_e ?_
          refine WPc_seq' ?_
          refine W_region (by kernel_rfl) ?_
          refine vl_n ?_
          refine H_of_R (R_move (v := t48) rfl ?_)
          refine vl_n ?_
          refine H_of_R (R_not H fun t50 H => ?_)
          refine vl_n ?_
          refine H_of_R (R_move (v := t50) rfl ?_)
          obtain ⟨b, hb, H1, H2⟩ := H
          cases b
          · have H := H1 rfl; clear H1 H2
            refine vl_y rfl hb ?_
            refine H_of_R (R_move (v := t47) rfl ?_)
            refine vl_y rfl hb ?_
            refine H_of_R (R_fld TF_26_1 H fun t53 H => ?_)
            refine vl_y rfl hb ?_
            refine H_of_R (R_load1 T1_3 H fun _ t54 _ _ H => ?_)
            refine vl_y rfl hb ?_
            refine H_of_R (R_neI H fun t55 H => ?_)
            refine vl_n ?_
            refine H_of_R (R_pickC (v := t55) false hb rfl ?_)
            refine vl_e ?_
            obtain ⟨b_2, hc, H1, H2⟩ := H
            refine WPc_cond hc (fun hh => ?_) (fun hh => ?_)
            · have H := H1 hh; clear H1 H2
              refine WPc_seq' ?_
              refine W_region (by kernel_rfl) ?_
              refine vl_n ?_
              refine H_of_R (R_assign (v := (.bool false)) rfl ?_)
              refine vl_e ?_
              refine WPc_ret ?_
              refine resH_of rfl ?_
              exact H
            · have H := H2 hh; clear H1 H2
              refine WPc_skip ?_
              exact ⟨H, hq1⟩
          · have H := H2 rfl; clear H1 H2
            refine vl_s rfl (nbF hb) ?_
            refine vl_s rfl (nbF hb) ?_
            refine vl_s rfl (nbF hb) ?_
            refine vl_s rfl (nbF hb) ?_
            refine vl_n ?_
            refine H_of_R (R_pickC (v := (.bool true)) true hb rfl ?_)
            refine vl_e ?_
            refine WPc_cond (t := true) rfl (fun _ => ?_) (fun hh => by cases hh)
            refine WPc_seq' ?_
            refine W_region (by kernel_rfl) ?_
            refine vl_n ?_
            refine H_of_R (R_assign (v := (.bool false)) rfl ?_)
            refine vl_e ?_
            refine WPc_ret ?_
            refine resH_of rfl ?_
            exact H
        obtain ⟨b, hc, H1, H2⟩ := H
        refine WPc_cond hc (fun hh => ?_) (fun hh => ?_)
        · have H := H1 hh; clear H1 H2
          refine WPc_skip ?_
          exact ⟨H, rfl⟩
        · have H := H2 hh; clear H1 H2
          refine WPc_exit ?_
          exact H
      refine WPc_seq' ?_
      refine W_region (by kernel_rfl) ?_
      refine vl_n ?_
      refine H_of_R (R_move (v := (e 1)) rfl ?_)
      refine vl_n ?_
      refine H_of_R (R_len Try.underlying27 H fun t22 H => ?_)
      refine vl_n ?_
      refine H_of_R (R_move (v := (.int .i64 0)) rfl ?_)
      refine vl_e ?_
      refine WPc_block ?_
      refine loop_at (fun e => [e 23]) (fun e => [e 0, e 1, e 5, e 21, e 22]) H rfl rfl ?_
      intro K1 e1 h H hin1
      replace H : l_FnWLast.l8.b (e1 0) (e1 1) (e1 5) (e1 21) (e1 22) (e1 23) h K1 Q := H
      unfold l_FnWLast.l8.b at H
      clear hin1
      refine WPc_seq' ?_
      refine W_region (by kernel_rfl) ?_
      refine vl_n ?_
      refine H_of_R (R_lss H fun t24 H => ?_)
      refine vl_e ?_
      refine WPc_seq (fun e h => l_FnWLast.j9 (e 0) (e 1) (e 5) (e 21) (e 22) (e 23) h K1 Q ∧ [e1 0, e1 1, e1 5, e1 21, e1 22] = [e 0, e 1, e 5, e 21, e 22]) ?_ (fun e h ⟨H, hq1⟩ => ?_)
      rotate_left
      · unfold l_FnWLast.j9 at H
        refine WPc_seq (fun e h => l_FnWLast.j10 (e 0) (e 1) (e 5) (e 21) (e 22) (e 23) h K1 Q ∧ [e1 0, e1 1, e1 5, e1 21, e1 22] = [e 0, e 1, e 5, e 21, e 22]) ?_ (fun e h ⟨H, hq1⟩ => ?_)
        rotate_left
        · unfold l_FnWLast.j10 at H
          refine W_region (by kernel_rfl) ?_
          refine vl_n ?_
          refine H_of_R (R_add H fun t32 H => ?_)
          refine vl_n ?_
          refine H_of_R (R_move (v := t32) rfl ?_)
          refine vl_e ?_
          exact ⟨H, hq1⟩
        refine WPc_block ?_
        refine WPc_seq' ?_
        refine W_region (by kernel_rfl) ?_
        refine vl_n ?_
        refine H_of_R (R_idx TE_27 H fun t25 H => ?_)
        refine vl_n ?_
        refine H_of_R (R_loadN TN_26 H fun _ t26 _ _ H _ _ => ?_)
        refine vl_n ?_
        refine H_alloc TV_26 H fun t7 h H => ?_
        refine vl_n ?_
        refine H_storeN TS_26 H fun h H => ?_
        refine vl_e ?_
        refine W_region (by kernel_rfl) ?_
        refine vl_n ?_
        refine H_of_R (R_move (v := (e 5)) rfl ?_)
        refine vl_n ?_
        refine H_of_R (R_fld TF_26_0 H fun t28 H => ?_)
        refine vl_n ?_
        refine H_of_R (R_load1 T1_9 H fun _ t29 _ _ H => ?_)
        refine vl_n ?_
        refine H_of_R (R_fld TF_26_1 H fun t30 H => ?_)
        refine vl_n ?_
        refine H_of_R (R_load1 T1_3 H fun _ t31 _ _ H => ?_)
        refine vl_n ?_
        refine H_updM Try.underlying36 Try.underlying9 H fun h H => ?_
        refine vl_e ?_
        exact ⟨H, hq1⟩
      obtain ⟨b, hc, H1, H2⟩ := H
      refine WPc_cond hc (fun hh => ?_) (fun hh => ?_)
      · have H := H1 hh; clear H1 H2
        refine WPc_skip ?_
        exact ⟨H, rfl⟩
      · have H := H2 hh; clear H1 H2
        refine WPc_exit ?_
        exact H
    refine WPc_seq' ?_
    refine W_region (by kernel_rfl) ?_
    refine vl_n ?_
    refine H_of_R (R_move (v := (e 0)) rfl ?_)
    refine vl_n ?_
    refine H_call HB_8 H fun t17 h H => ?_
    refine vl_n ?_
    refine H_of_R (R_not H fun t18 H => ?_)
    refine vl_e ?_
    obtain ⟨b, hc, H1, H2⟩ := H
    refine WPc_cond hc (fun hh => ?_) (fun hh => ?_)
    · have H := H1 hh; clear H1 H2
      refine WPc_seq' ?_
      refine W_region (by kernel_rfl) ?_
      refine vl_n ?_
      refine H_call HB_9 H fun t19 h H => ?_
      refine vl_n ?_
      refine H_of_R (R_assign (v := t19) rfl ?_)
      refine vl_e ?_
      refine WPc_ret ?_
      refine resH_of rfl ?_
      exact H
    · have H := H2 hh; clear H1 H2
      refine WPc_skip ?_
      exact H
  refine WPc_seq' ?_
  refine W_region (by kernel_rfl) ?_
  refine vl_n ?_
  refine H_of_R (R_move (v := a1) rfl ?_)
  refine vl_n ?_
  refine H_call HB_12 H fun t14 h H => ?_
  refine vl_n ?_
  refine H_of_R (R_not H fun t15 H => ?_)
  refine vl_e ?_
  obtain ⟨b, hc, H1, H2⟩ := H
  refine WPc_cond hc (fun hh => ?_) (fun hh => ?_)
  · have H := H1 hh; clear H1 H2
    refine WPc_seq' ?_
    refine W_region (by kernel_rfl) ?_
    refine vl_n ?_
    refine H_of_R (R_assign (v := (.bool true)) rfl ?_)
    refine vl_e ?_
    refine WPc_ret ?_
    refine resH_of rfl ?_
    exact H
  · have H := H2 hh; clear H1 H2
    refine WPc_skip ?_
    exact H
/-! ### (*pub/tidwallbtree.Map[string, int]).get -/
def Map_si_get.j4 (s0 : Value) (s1 : Value) (s2 : Value) (s8 : Value) (s9 : Value) (h : Heap) (K1 : List Value → Heap → Prop) (Q : Value → Heap → Prop) : Prop :=
    nilck s8 fun t52 =>
    fld 3 t52 fun t53 =>
    load1 t53 h fun t54 =>
    nilck t54 fun t55 =>
    load1 t55 h fun t56 =>
    idx 1 t56 s9 fun t58 =>
    Map_si_isoLoad.call #[s0, t58, s2] h fun t60 h =>
    K1 [t60] h
def Map_si_get.j3 (s0 : Value) (s1 : Value) (s2 : Value) (s8 : Value) (s9 : Value) (h : Heap) (K1 : List Value → Heap → Prop) (Q : Value → Heap → Prop) : Prop :=
    mapNode_si_leaf.call #[s8] h fun t44 h =>
    ifV t44
    (nilck s0 fun t46 =>
    fld 4 t46 fun t47 =>
    fld 0 t47 fun t48 =>
    load1 t48 h fun t49 =>
    Q (.tuple #[t49, (.bool false)]) h)
    (Map_si_get.j4 s0 s1 s2 s8 s9 h K1 Q)
def Map_si_get.l2.b (c0 : Value) (c1 : Value) (c2 : Value) (s8 : Value) (h : Heap) (K1 : List Value → Heap → Prop) (Q : Value → Heap → Prop) : Prop :=
    Map_si_search.call #[c0, s8, c1] h fun t31 h =>
    extr 0 t31 fun t32 =>
    extr 1 t31 fun t33 =>
    ifV t33
    (nilck s8 fun t36 =>
    fld 2 t36 fun t37 =>
    load1 t37 h fun t38 =>
    idx 2 t38 t32 fun t40 =>
    fld 0 t40 fun t41 =>
    load1 t41 h fun t42 =>
    Q (.tuple #[t42, (.bool true)]) h)
    (Map_si_get.j3 c0 c1 c2 s8 t32 h K1 Q)
def Map_si_get.j1 (s0 : Value) (s1 : Value) (s2 : Value) (h : Heap) (Q : Value → Heap → Prop) : Prop :=
    nilck s0 fun t23 =>
    fld 2 t23 fun t24 =>
    Map_si_isoLoad.call #[s0, t24, s2] h fun t26 h =>
    loopC (fun c s h K1 => Map_si_get.l2.b (c.getD 0 undef) (c.getD 1 undef) (c.getD 2 undef) (s.getD 0 undef) h K1 Q) [s0, s1, s2] [t26] h
def Map_si_get.sh (a0 : Value) (a1 : Value) (a2 : Value) (h : Heap) (Q : Value → Heap → Prop) : Prop :=
    nilck a0 fun t12 =>
    fld 2 t12 fun t13 =>
    load1 t13 h fun t14 =>
    eqNilP t14 fun t15 =>
    ifV t15
    (nilck a0 fun t17 =>
    fld 4 t17 fun t18 =>
    fld 0 t18 fun t19 =>
    load1 t19 h fun t20 =>
    Q (.tuple #[t20, (.bool false)]) h)
    (Map_si_get.j1 a0 a1 a2 h Q)
theorem Map_si_get.body (a0 : Value) (a1 : Value) (a2 : Value) (h : Heap) (Q : Value → Heap → Prop) (H : Map_si_get.sh a0 a1 a2 h Q) : Map_si_get.call #[a0, a1, a2] h Q := by
  refine callsH_of (args := [a0, a1, a2]) Try.func56 rfl rfl ?_
  unfold Map_si_get.sh at H
  refine WPc_seq' ?_
  refine W_region (by kernel_rfl) ?_
  refine vl_n ?_
  refine H_of_R (R_assign (v := (.int .i64 0)) rfl ?_)
  refine vl_n ?_
  refine H_of_R (R_assign (v := (.bool false)) rfl ?_)
  refine vl_e ?_
  refine WPc_seq (fun e h => Map_si_get.j1 (e 0) (e 1) (e 2) h Q) ?_ (fun e h H => ?_)
  rotate_left
  · unfold Map_si_get.j1 at H
    refine WPc_seq' ?_
    refine W_region (by kernel_rfl) ?_
    refine vl_n ?_
    refine H_of_R (R_move (v := (e 0)) rfl ?_)
    refine vl_n ?_
    refine H_of_R (R_move (v := (e 0)) rfl ?_)
    refine vl_n ?_
    refine H_of_R (R_nil H fun t23 H => ?_)
    refine vl_n ?_
    refine H_of_R (R_fld TF_112_2 H fun t24 H => ?_)
    refine vl_n ?_
    refine H_of_R (R_move (v := (e 2)) rfl ?_)
    refine vl_n ?_
    refine H_call HB_61 H fun t26 h H => ?_
    refine vl_n ?_
    refine H_of_R (R_assign (v := t26) rfl ?_)
    refine vl_e ?_
    refine WPc_block ?_
    refine loop_at (fun e => [e 8]) (fun e => [e 0, e 1, e 2]) H rfl rfl ?_
    intro K1 e1 h H hin1
    replace H : Map_si_get.l2.b (e1 0) (e1 1) (e1 2) (e1 8) h K1 Q := H
    unfold Map_si_get.l2.b at H
    clear hin1
    refine WPc_block ?_
    refine WPc_seq' ?_
    refine W_region (by kernel_rfl) ?_
    refine vl_n ?_
    refine H_of_R (R_move (v := (e1 0)) rfl ?_)
    refine vl_n ?_
    refine H_of_R (R_move (v := (e1 8)) rfl ?_)
    refine vl_n ?_
    refine H_of_R (R_move (v := (e1 1)) rfl ?_)
    refine vl_n ?_
    refine H_call HB_78 H fun t31 h H => ?_
    refine vl_n ?_
    refine H_of_R (R_move (v := t31) rfl ?_)
    refine vl_n ?_
    refine H_of_R (R_ext H fun t32 H => ?_)
    refine vl_n ?_
    refine H_of_R (R_ext H fun t33 H => ?_)
    refine vl_n ?_
    refine H_of_R (R_assign (v := t32) rfl ?_)
    refine vl_n ?_
    refine H_of_R (R_assign (v := t33) rfl ?_)
    refine vl_e ?_
    refine WPc_seq (fun e h => Map_si_get.j3 (e 0) (e 1) (e 2) (e 8) (e 9) h K1 Q ∧ [e1 0, e1 1, e1 2] = [e 0, e 1, e 2]) ?_ (fun e h ⟨H, hq1⟩ => ?_)
    rotate_left
    · unfold Map_si_get.j3 at H
      refine WPc_seq (fun e h => Map_si_get.j4 (e 0) (e 1) (e 2) (e 8) (e 9) h K1 Q ∧ [e1 0, e1 1, e1 2] = [e 0, e 1, e 2]) ?_ (fun e h ⟨H, hq1⟩ => ?_)
      rotate_left
      · unfold Map_si_get.j4 at H
        refine W_region (by kernel_rfl) ?_
        refine vl_n ?_
        refine H_of_R (R_move (v := (e 0)) rfl ?_)
        refine vl_n ?_
        refine H_of_R (R_move (v := (e 8)) rfl ?_)
        refine vl_n ?_
        refine H_of_R (R_nil H fun t52 H => ?_)
        refine vl_n ?_
        refine H_of_R (R_fld TF_119_3 H fun t53 H => ?_)
        refine vl_n ?_
        refine H_of_R (R_load1 T1_117 H fun _ t54 _ _ H => ?_)
        refine vl_n ?_
        refine H_of_R (R_nil H fun t55 H => ?_)
        refine vl_n ?_
        refine H_of_R (R_load1 T1_120 H fun _ t56 _ _ H => ?_)
        refine vl_n ?_
        refine H_of_R (R_move (v := (e 9)) rfl ?_)
        refine vl_n ?_
        refine H_of_R (R_idx TE_120 H fun t58 H => ?_)
        refine vl_n ?_
        refine H_of_R (R_move (v := (e 2)) rfl ?_)
        refine vl_n ?_
        refine H_call HB_61 H fun t60 h H => ?_
        refine vl_n ?_
        refine H_of_R (R_assign (v := t60) rfl ?_)
        refine vl_e ?_
        exact ⟨H, hq1⟩
      refine WPc_seq' ?_
      refine W_region (by kernel_rfl) ?_
      refine vl_n ?_
      refine H_of_R (R_move (v := (e 8)) rfl ?_)
      refine vl_n ?_
      refine H_call HB_62 H fun t44 h H => ?_
      refine vl_e ?_
      obtain ⟨b, hc, H1, H2⟩ := H
      refine WPc_cond hc (fun hh => ?_) (fun hh => ?_)
      · have H := H1 hh; clear H1 H2
        refine WPc_seq' ?_
        refine W_region (by kernel_rfl) ?_
        refine vl_n ?_
        refine H_of_R (R_move (v := (e 0)) rfl ?_)
        refine vl_n ?_
        refine H_of_R (R_nil H fun t46 H => ?_)
        refine vl_n ?_
        refine H_of_R (R_fld TF_112_4 H fun t47 H => ?_)
        refine vl_n ?_
        refine H_of_R (R_fld TF_110_0 H fun t48 H => ?_)
        refine vl_n ?_
        refine H_of_R (R_load1 T1_3 H fun _ t49 _ _ H => ?_)
        refine vl_n ?_
        refine H_of_R (R_assign (v := t49) rfl ?_)
        refine vl_n ?_
        refine H_of_R (R_assign (v := (.bool false)) rfl ?_)
        refine vl_e ?_
        refine WPc_ret ?_
        refine resH_of rfl ?_
        exact H
      · have H := H2 hh; clear H1 H2
        refine WPc_skip ?_
        exact ⟨H, hq1⟩
    refine WPc_seq' ?_
    refine W_region (by kernel_rfl) ?_
    refine vl_n ?_
    refine H_of_R (R_move (v := t33) rfl ?_)
    refine vl_e ?_
    obtain ⟨b, hc, H1, H2⟩ := H
    refine WPc_cond hc (fun hh => ?_) (fun hh => ?_)
    · have H := H1 hh; clear H1 H2
      refine WPc_seq' ?_
      refine W_region (by kernel_rfl) ?_
      refine vl_n ?_
      refine H_of_R (R_move (v := (e1 8)) rfl ?_)
      refine vl_n ?_
      refine H_of_R (R_nil H fun t36 H => ?_)
      refine vl_n ?_
      refine H_of_R (R_fld TF_119_2 H fun t37 H => ?_)
      refine vl_n ?_
      refine H_of_R (R_load1 T1_116 H fun _ t38 _ _ H => ?_)
      refine vl_n ?_
      refine H_of_R (R_move (v := t32) rfl ?_)
      refine vl_n ?_
      refine H_of_R (R_idx TE_116 H fun t40 H => ?_)
      refine vl_n ?_
      refine H_of_R (R_fld TF_110_0 H fun t41 H => ?_)
      refine vl_n ?_
      refine H_of_R (R_load1 T1_3 H fun _ t42 _ _ H => ?_)
      refine vl_n ?_
      refine H_of_R (R_assign (v := t42) rfl ?_)
      refine vl_n ?_
      refine H_of_R (R_assign (v := (.bool true)) rfl ?_)
      refine vl_e ?_
      refine WPc_ret ?_
      refine resH_of rfl ?_
      exact H
    · have H := H2 hh; clear H1 H2
      refine WPc_skip ?_
      exact ⟨H, rfl⟩
  refine WPc_seq' ?_
  refine W_region (by kernel_rfl) ?_
  refine vl_n ?_
  refine H_of_R (R_move (v := a0) rfl ?_)
  refine vl_n ?_
  refine H_of_R (R_nil H fun t12 H => ?_)
  refine vl_n ?_
  refine H_of_R (R_fld TF_112_2 H fun t13 H => ?_)
  refine vl_n ?_
  refine H_of_R (R_load1 T1_108 H fun _ t14 _ _ H => ?_)
  refine vl_n ?_
  refine H_of_R (R_eqNilP Try.underlying108 rfl H fun t15 H => ?_)
  refine vl_e ?_
  obtain ⟨b, hc, H1, H2⟩ := H
  refine WPc_cond hc (fun hh => ?_) (fun hh => ?_)
  · have H := H1 hh; clear H1 H2
    refine WPc_seq' ?_
    refine W_region (by kernel_rfl) ?_
    refine vl_n ?_
    refine H_of_R (R_move (v := a0) rfl ?_)
    refine vl_n ?_
    refine H_of_R (R_nil H fun t17 H => ?_)
    refine vl_n ?_
    refine H_of_R (R_fld TF_112_4 H fun t18 H => ?_)
    refine vl_n ?_
    refine H_of_R (R_fld TF_110_0 H fun t19 H => ?_)
    refine vl_n ?_
    refine H_of_R (R_load1 T1_3 H fun _ t20 _ _ H => ?_)
    refine vl_n ?_
    refine H_of_R (R_assign (v := t20) rfl ?_)
    refine vl_n ?_
    refine H_of_R (R_assign (v := (.bool false)) rfl ?_)
    refine vl_e ?_
    refine WPc_ret ?_
    refine resH_of rfl ?_
    exact H
  · have H := H2 hh; clear H1 H2
    refine WPc_skip ?_
    exact H
/-! ### (*pub/tidwallbtree.Map[string, int]).Get -/
def Map_si_Get.sh (a0 : Value) (a1 : Value) (h : Heap) (Q : Value → Heap → Prop) : Prop :=
    Map_si_get.call #[a0, a1, (.bool false)] h fun t8 h =>
    extr 0 t8 fun t9 =>
    extr 1 t8 fun t10 =>
    Q (.tuple #[t9, t10]) h
theorem Map_si_Get.body (a0 : Value) (a1 : Value) (h : Heap) (Q : Value → Heap → Prop) (H : Map_si_Get.sh a0 a1 h Q) : Map_si_Get.call #[a0, a1] h Q := by
  refine callsH_of (args := [a0, a1]) Try.func34 rfl rfl ?_
  unfold Map_si_Get.sh at H
  refine WPc_seq' ?_
  refine W_region (by kernel_rfl) ?_
  refine vl_n ?_
  refine H_of_R (R_assign (v := (.int .i64 0)) rfl ?_)
  refine vl_n ?_
  refine H_of_R (R_assign (v := (.bool false)) rfl ?_)
  refine vl_e ?_
  refine WPc_seq' ?_
  refine W_region (by kernel_rfl) ?_
  refine vl_n ?_
  refine H_of_R (R_move (v := a0) rfl ?_)
  refine vl_n ?_
  refine H_of_R (R_move (v := a1) rfl ?_)
  refine vl_n ?_
  refine H_call HB_56 H fun t8 h H => ?_
  refine vl_n ?_
  refine H_of_R (R_ext H fun t9 H => ?_)
  refine vl_n ?_
  refine H_of_R (R_ext H fun t10 H => ?_)
  refine vl_n ?_
  refine H_of_R (R_assign (v := t9) rfl ?_)
  refine vl_n ?_
  refine H_of_R (R_assign (v := t10) rfl ?_)
  refine vl_e ?_
  refine WPc_ret ?_
  refine resH_of rfl ?_
  exact H
/-! ### impl.WGet -/
def i_WGet.j1 (s9 : Value) (s10 : Value) (h : Heap) (Q : Value → Heap → Prop) : Prop :=
    Q (.tuple #[s9, s10]) h
def i_WGet.j4 (s8 : Value) (s9 : Value) (s10 : Value) (s18 : Value) (s19 : Value) (s20 : Value) (h : Heap) (K1 : List Value → Heap → Prop) (Q : Value → Heap → Prop) : Prop :=
    arith (· + ·) s20 (.int .i64 1) fun t38 =>
    K1 [s9, s10, t38] h
def i_WGet.j3 (s8 : Value) (s9 : Value) (s10 : Value) (s18 : Value) (s19 : Value) (s20 : Value) (h : Heap) (K1 : List Value → Heap → Prop) (Q : Value → Heap → Prop) : Prop :=
    idx 1 s18 s20 fun t22 =>
    load1 t22 h fun t23 =>
    Map_si_Get.call #[s8, t23] h fun t27 h =>
    extr 0 t27 fun t28 =>
    extr 1 t27 fun t29 =>
    mkSl (if 1 * 1 = 0 then [] else zeros [(.int .i64 0)] 1) 1 [(0 * 1, 1, t28)] 3 h fun t32 h =>
    app 3 1 8 [(.int .i64 0)] s9 t32 h fun t33 h =>
    mkSl (if 1 * 1 = 0 then [] else zeros [(.bool false)] 1) 1 [(0 * 1, 1, t29)] 4 h fun t36 h =>
    app 4 1 1 [(.bool false)] s10 t36 h fun t37 h =>
    i_WGet.j4 s8 t33 t37 s18 s19 s20 h K1 Q
def i_WGet.l2.b (c8 : Value) (c18 : Value) (c19 : Value) (s9 : Value) (s10 : Value) (s20 : Value) (h : Heap) (K1 : List Value → Heap → Prop) (Q : Value → Heap → Prop) : Prop :=
    cmpI (fun a b => decide (a < b)) s20 c19 fun t21 =>
    ifV t21
    (i_WGet.j3 c8 s9 s10 c18 c19 s20 h K1 Q)
    (i_WGet.j1 s9 s10 h Q)
def i_WGet.sh (a0 : Value) (a1 : Value) (a2 : Value) (h : Heap) (Q : Value → Heap → Prop) : Prop :=
    i_growWords.call #[a0, a1] h fun t17 h =>
    lenV a2 fun t19 =>
    loopC (fun c s h K1 => i_WGet.l2.b (c.getD 0 undef) (c.getD 1 undef) (c.getD 2 undef) (s.getD 0 undef) (s.getD 1 undef) (s.getD 2 undef) h K1 Q) [t17, a2, t19] [(.slice none 0 0), (.slice none 0 0), (.int .i64 0)] h
theorem i_WGet.body (a0 : Value) (a1 : Value) (a2 : Value) (h : Heap) (Q : Value → Heap → Prop) (H : i_WGet.sh a0 a1 a2 h Q) : i_WGet.call #[a0, a1, a2] h Q := by
  refine callsH_of (args := [a0, a1, a2]) Try.func10 rfl rfl ?_
  unfold i_WGet.sh at H
  refine WPc_seq' ?_
  refine W_region (by kernel_rfl) ?_
  refine vl_n ?_
  refine H_of_R (R_assign (v := (.slice none 0 0)) rfl ?_)
  refine vl_n ?_
  refine H_of_R (R_assign (v := (.slice none 0 0)) rfl ?_)
  refine vl_e ?_
  refine WPc_seq' ?_
  refine W_region (by kernel_rfl) ?_
  refine vl_n ?_
  refine H_of_R (R_move (v := a0) rfl ?_)
  refine vl_n ?_
  refine H_of_R (R_move (v := a1) rfl ?_)
  refine vl_n ?_
  refine H_call HB_33 H fun t17 h H => ?_
  refine vl_n ?_
  refine H_of_R (R_assign (v := t17) rfl ?_)
  refine vl_e ?_
  refine WPc_seq' ?_
  refine W_region (by kernel_rfl) ?_
  refine vl_n ?_
  refine H_of_R (R_assign (v := (.slice none 0 0)) rfl ?_)
  refine vl_e ?_
  refine WPc_seq' ?_
  refine W_region (by kernel_rfl) ?_
  refine vl_n ?_
  refine H_of_R (R_assign (v := (.slice none 0 0)) rfl ?_)
  refine vl_e ?_
  refine WPc_seq (fun e h => i_WGet.j1 (e 9) (e 10) h Q) ?_ (fun e h H => ?_)
  rotate_left
  · unfold i_WGet.j1 at H
    refine WPc_seq' ?_
    refine W_region (by kernel_rfl) ?_
    refine vl_n ?_
    refine H_of_R (R_move (v := (e 9)) rfl ?_)
    refine vl_n ?_
    refine H_of_R (R_move (v := (e 10)) rfl ?_)
    refine vl_n ?_
    refine H_of_R (R_assign (v := (e 9)) rfl ?_)
    refine vl_n ?_
    refine H_of_R (R_assign (v := (e 10)) rfl ?_)
    refine vl_e ?_
    refine WPc_ret ?_
    refine resH_of rfl ?_
    exact H
  refine WPc_seq' ?_
  refine W_region (by kernel_rfl) ?_
  refine vl_n ?_
  refine H_of_R (R_move (v := a2) rfl ?_)
  refine vl_n ?_
  refine H_of_R (R_len Try.underlying28 H fun t19 H => ?_)
  refine vl_n ?_
  refine H_of_R (R_move (v := (.int .i64 0)) rfl ?_)
  refine vl_e ?_
  refine WPc_block ?_
  refine loop_at (fun e => [e 9, e 10, e 20]) (fun e => [e 8, e 18, e 19]) H rfl rfl ?_
  intro K1 e1 h H hin1
  replace H : i_WGet.l2.b (e1 8) (e1 18) (e1 19) (e1 9) (e1 10) (e1 20) h K1 Q := H
  unfold i_WGet.l2.b at H
  clear hin1
  refine WPc_seq' ?_
  refine W_region (by kernel_rfl) ?_
  refine vl_n ?_
  refine H_of_R (R_lss H fun t21 H => ?_)
  refine vl_e ?_
  refine WPc_seq (fun e h => i_WGet.j3 (e 8) (e 9) (e 10) (e 18) (e 19) (e 20) h K1 Q ∧ [e1 8, e1 18, e1 19] = [e 8, e 18, e 19]) ?_ (fun e h ⟨H, hq1⟩ => ?_)
  rotate_left
  · unfold i_WGet.j3 at H
    refine WPc_seq (fun e h => i_WGet.j4 (e 8) (e 9) (e 10) (e 18) (e 19) (e 20) h K1 Q ∧ [e1 8, e1 18, e1 19] = [e 8, e 18, e 19]) ?_ (fun e h ⟨H, hq1⟩ => ?_)
    rotate_left
    · unfold i_WGet.j4 at H
      refine W_region (by kernel_rfl) ?_
      refine vl_n ?_
      refine H_of_R (R_add H fun t38 H => ?_)
      refine vl_n ?_
      refine H_of_R (R_move (v := t38) rfl ?_)
      refine vl_e ?_
      exact ⟨H, hq1⟩
    refine WPc_block ?_
    refine WPc_seq' ?_
    refine W_region (by kernel_rfl) ?_
    refine vl_n ?_
    refine H_of_R (R_idx TE_28 H fun t22 H => ?_)
    refine vl_n ?_
    refine H_of_R (R_load1 T1_9 H fun _ t23 _ _ H => ?_)
    refine vl_n ?_
    refine H_of_R (R_assign (v := t23) rfl ?_)
    refine vl_e ?_
    refine WPc_seq' ?_
    refine W_region (by kernel_rfl) ?_
    refine vl_n ?_
    refine H_of_R (R_move (v := (e 8)) rfl ?_)
    refine vl_n ?_
    refine H_of_R (R_move (v := t23) rfl ?_)
    refine vl_n ?_
    refine H_call HB_34 H fun t27 h H => ?_
    refine vl_n ?_
    refine H_of_R (R_move (v := t27) rfl ?_)
    refine vl_n ?_
    refine H_of_R (R_ext H fun t28 H => ?_)
    refine vl_n ?_
    refine H_of_R (R_ext H fun t29 H => ?_)
    refine vl_n ?_
    refine H_of_R (R_assign (v := t28) rfl ?_)
    refine vl_n ?_
    refine H_of_R (R_assign (v := t29) rfl ?_)
    refine vl_e ?_
    refine W_region (by kernel_rfl) ?_
    refine vl_n ?_
    refine H_of_R (R_move (v := (e 9)) rfl ?_)
    refine vl_n ?_
    refine H_of_R (R_move (v := t28) rfl ?_)
    refine vl_n ?_
    refine H_mkSl TZ_29 (by decide) rfl H rfl fun t32 h H => ?_
    refine vl_n ?_
    refine H_app TZ_29 TU_29 H fun t33 h H => ?_
    refine vl_n ?_
    refine H_of_R (R_move (v := (e 10)) rfl ?_)
    refine vl_n ?_
    refine H_of_R (R_move (v := t29) rfl ?_)
    refine vl_n ?_
    refine H_mkSl TZ_30 (by decide) rfl H rfl fun t36 h H => ?_
    refine vl_n ?_
    refine H_app TZ_30 TU_30 H fun t37 h H => ?_
    refine vl_n ?_
    refine H_of_R (R_assign (v := t33) rfl ?_)
    refine vl_n ?_
    refine H_of_R (R_assign (v := t37) rfl ?_)
    refine vl_e ?_
    exact ⟨H, hq1⟩
  obtain ⟨b, hc, H1, H2⟩ := H
  refine WPc_cond hc (fun hh => ?_) (fun hh => ?_)
  · have H := H1 hh; clear H1 H2
    refine WPc_skip ?_
    exact ⟨H, rfl⟩
  · have H := H2 hh; clear H1 H2
    refine WPc_exit ?_
    exact H
/-! ### slices.Index[[]string,string] -/
def sl_Index_ss.j1 (h : Heap) (Q : Value → Heap → Prop) : Prop :=
    Q (.int .i64 (-1)) h
def sl_Index_ss.j4 (s0 : Value) (s1 : Value) (s7 : Value) (s8 : Value) (h : Heap) (K1 : List Value → Heap → Prop) (Q : Value → Heap → Prop) : Prop :=
    arith (· + ·) s8 (.int .i64 1) fun t18 =>
    K1 [t18] h
def sl_Index_ss.j3 (s0 : Value) (s1 : Value) (s7 : Value) (s8 : Value) (h : Heap) (K1 : List Value → Heap → Prop) (Q : Value → Heap → Prop) : Prop :=
    idx 1 s0 s8 fun t14 =>
    load1 t14 h fun t15 =>
    cmpS (fun _ eq => eq) s1 t15 fun t16 =>
    ifV t16
    (Q s8 h)
    (sl_Index_ss.j4 s0 s1 s7 s8 h K1 Q)
def sl_Index_ss.l2.b (c0 : Value) (c1 : Value) (c7 : Value) (s8 : Value) (h : Heap) (K1 : List Value → Heap → Prop) (Q : Value → Heap → Prop) : Prop :=
    cmpI (fun a b => decide (a < b)) s8 c7 fun t9 =>
    ifV t9
    (sl_Index_ss.j3 c0 c1 c7 s8 h K1 Q)
    (sl_Index_ss.j1 h Q)
def sl_Index_ss.sh (a0 : Value) (a1 : Value) (h : Heap) (Q : Value → Heap → Prop) : Prop :=
    lenV a0 fun t7 =>
    loopC (fun c s h K1 => sl_Index_ss.l2.b (c.getD 0 undef) (c.getD 1 undef) (c.getD 2 undef) (s.getD 0 undef) h K1 Q) [a0, a1, t7] [(.int .i64 0)] h
theorem sl_Index_ss.body (a0 : Value) (a1 : Value) (h : Heap) (Q : Value → Heap → Prop) (H : sl_Index_ss.sh a0 a1 h Q) : sl_Index_ss.call #[a0, a1] h Q := by
  refine callsH_of (args := [a0, a1]) Try.func35 rfl rfl ?_
  unfold sl_Index_ss.sh at H
  refine WPc_seq' ?_
  refine W_region (by kernel_rfl) ?_
  refine vl_n ?_
  refine H_of_R (R_assign (v := (.int .i64 0)) rfl ?_)
  refine vl_e ?_
  refine WPc_seq (fun e h => sl_Index_ss.j1 h Q) ?_ (fun e h H => ?_)
  rotate_left
  · unfold sl_Index_ss.j1 at H
    refine WPc_seq' ?_
    refine W_region (by kernel_rfl) ?_
    refine vl_n ?_
    refine H_of_R (R_assign (v := (.int .i64 (-1))) rfl ?_)
    refine vl_e ?_
    refine WPc_ret ?_
    refine resH_of rfl ?_
    exact H
  refine WPc_seq' ?_
  refine W_region (by kernel_rfl) ?_
  refine vl_n ?_
  refine H_of_R (R_move (v := a0) rfl ?_)
  refine vl_n ?_
  refine H_of_R (R_len Try.underlying28 H fun t7 H => ?_)
  refine vl_n ?_
  refine H_of_R (R_move (v := (.int .i64 0)) rfl ?_)
  refine vl_e ?_
  refine WPc_block ?_
  refine loop_at (fun e => [e 8]) (fun e => [e 0, e 1, e 7]) H rfl rfl ?_
  intro K1 e1 h H hin1
  replace H : sl_Index_ss.l2.b (e1 0) (e1 1) (e1 7) (e1 8) h K1 Q := H
  unfold sl_Index_ss.l2.b at H
  clear hin1
  refine WPc_seq' ?_
  refine W_region (by kernel_rfl) ?_
  refine vl_n ?_
  refine H_of_R (R_lss H fun t9 H => ?_)
  refine vl_e ?_
  refine WPc_seq (fun e h => sl_Index_ss.j3 (e 0) (e 1) (e 7) (e 8) h K1 Q ∧ [e1 0, e1 1, e1 7] = [e 0, e 1, e 7]) ?_ (fun e h ⟨H, hq1⟩ => ?_)
  rotate_left
  · unfold sl_Index_ss.j3 at H
    refine WPc_seq (fun e h => sl_Index_ss.j4 (e 0) (e 1) (e 7) (e 8) h K1 Q ∧ [e1 0, e1 1, e1 7] = [e 0, e 1, e 7]) ?_ (fun e h ⟨H, hq1⟩ => ?_)
    rotate_left
    · unfold sl_Index_ss.j4 at H
      refine W_region (by kernel_rfl) ?_
      refine vl_n ?_
      refine H_of_R (R_add H fun t18 H => ?_)
      refine vl_n ?_
      refine H_of_R (R_move (v := t18) rfl ?_)
      refine vl_e ?_
      exact ⟨H, hq1⟩
    refine WPc_block ?_
    refine WPc_seq' ?_
    refine W_region (by kernel_rfl) ?_
    refine vl_n ?_
    refine H_of_R (R_move (v := (e 8)) rfl ?_)
    refine vl_n ?_
    refine H_of_R (R_assign (v := (e 8)) rfl ?_)
    refine vl_e ?_
    refine WPc_seq' ?_
    refine W_region (by kernel_rfl) ?_
    refine vl_n ?_
    refine H_of_R (R_move (v := (e 1)) rfl ?_)
    refine vl_n ?_
    refine H_of_R (R_move (v := (e 0)) rfl ?_)
    refine vl_n ?_
    refine H_of_R (R_move (v := (e 8)) rfl ?_)
    refine vl_n ?_
    refine H_of_R (R_idx TE_28 H fun t14 H => ?_)
    refine vl_n ?_
    refine H_of_R (R_load1 T1_9 H fun _ t15 _ _ H => ?_)
    refine vl_n ?_
    refine H_of_R (R_eqS H fun t16 H => ?_)
    refine vl_e ?_
    obtain ⟨b, hc, H1, H2⟩ := H
    refine WPc_cond hc (fun hh => ?_) (fun hh => ?_)
    · have H := H1 hh; clear H1 H2
      refine WPc_seq' ?_
      refine W_region (by kernel_rfl) ?_
      refine vl_n ?_
      refine H_of_R (R_move (v := (e 8)) rfl ?_)
      refine vl_n ?_
      refine H_of_R (R_assign (v := (e 8)) rfl ?_)
      refine vl_e ?_
      refine WPc_ret ?_
      refine resH_of rfl ?_
      exact H
    · have H := H2 hh; clear H1 H2
      refine WPc_skip ?_
      exact ⟨H, hq1⟩
  obtain ⟨b, hc, H1, H2⟩ := H
  refine WPc_cond hc (fun hh => ?_) (fun hh => ?_)
  · have H := H1 hh; clear H1 H2
    refine WPc_skip ?_
    exact ⟨H, rfl⟩
  · have H := H2 hh; clear H1 H2
    refine WPc_exit ?_
    exact H
/-! ### slices.Contains[[]string,string] -/
def sl_Contains_ss.sh (a0 : Value) (a1 : Value) (h : Heap) (Q : Value → Heap → Prop) : Prop :=
    sl_Index_ss.call #[a0, a1] h fun t7 h =>
    cmpI (fun a b => decide (a ≥ b)) t7 (.int .i64 0) fun t8 =>
    Q t8 h
theorem sl_Contains_ss.body (a0 : Value) (a1 : Value) (h : Heap) (Q : Value → Heap → Prop) (H : sl_Contains_ss.sh a0 a1 h Q) : sl_Contains_ss.call #[a0, a1] h Q := by
  refine callsH_of (args := [a0, a1]) Try.func11 rfl rfl ?_
  unfold sl_Contains_ss.sh at H
  refine WPc_seq' ?_
  refine W_region (by kernel_rfl) ?_
  refine vl_n ?_
  refine H_of_R (R_assign (v := (.bool false)) rfl ?_)
  refine vl_e ?_
  refine WPc_seq' ?_
  refine W_region (by kernel_rfl) ?_
  refine vl_n ?_
  refine H_of_R (R_move (v := a0) rfl ?_)
  refine vl_n ?_
  refine H_of_R (R_move (v := a1) rfl ?_)
  refine vl_n ?_
  refine H_call HB_35 H fun t7 h H => ?_
  refine vl_n ?_
  refine H_of_R (R_geq H fun t8 H => ?_)
  refine vl_n ?_
  refine H_of_R (R_assign (v := t8) rfl ?_)
  refine vl_e ?_
  refine WPc_ret ?_
  refine resH_of rfl ?_
  exact H

end Go.Proofs.Ytolkmlmnolibgaa
