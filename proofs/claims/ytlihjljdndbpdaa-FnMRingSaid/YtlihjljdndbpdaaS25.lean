/-
  Shallow forms of the walked functions, and that each call comes to its form. Written by a program of this repo (gen.py). Conditions: none.
-/
import Derived.Test.YtlihjljdndbpdaaST
namespace Go.Proofs.Ytlihjljdndbpdaa
open Go.Hp
set_option maxRecDepth 100000
set_option maxHeartbeats 8000000
set_option linter.unusedVariables false
set_option linter.unusedSimpArgs false

/-! ### spec.Owner -/
def s_Owner.j1 (s6 : Value) (h : Heap) (Q : Value → Heap → Prop) : Prop :=
    Q s6 h
def s_Owner.j4 (s1 : Value) (s5 : Value) (s6 : Value) (s10 : Value) (s11 : Value) (s12 : Value) (h : Heap) (K1 : List Value → Heap → Prop) (Q : Value → Heap → Prop) : Prop :=
    arith (· + ·) s12 (.int .i64 1) fun t27 =>
    K1 [s5, s6, t27] h
def s_Owner.j3 (s1 : Value) (s5 : Value) (s6 : Value) (s10 : Value) (s11 : Value) (s12 : Value) (h : Heap) (K1 : List Value → Heap → Prop) (Q : Value → Heap → Prop) : Prop :=
    idx 2 s10 s12 fun t14 =>
    loadN 2 t14 h fun t15 =>
    alloc [(.int .i64 0), (.int .i64 0)] 27 h fun t8 h =>
    storeN 2 t8 t15 h fun h =>
    fld 0 t8 fun t16 =>
    load1 t16 h fun t17 =>
    arith (· - ·) t17 s1 fun t19 =>
    s_Modulo.call #[t19, (.int .i64 65536)] h fun t20 h =>
    cmpI (fun a b => decide (a ≤ b)) t20 s5 fun t23 =>
    ifV t23
    (fld 1 t8 fun t25 =>
    load1 t25 h fun t26 =>
    s_Owner.j4 s1 t20 t26 s10 s11 s12 h K1 Q)
    (s_Owner.j4 s1 s5 s6 s10 s11 s12 h K1 Q)
def s_Owner.l2.b (c1 : Value) (c10 : Value) (c11 : Value) (s5 : Value) (s6 : Value) (s12 : Value) (h : Heap) (K1 : List Value → Heap → Prop) (Q : Value → Heap → Prop) : Prop :=
    cmpI (fun a b => decide (a < b)) s12 c11 fun t13 =>
    ifV t13
    (s_Owner.j3 c1 s5 s6 c10 c11 s12 h K1 Q)
    (s_Owner.j1 s6 h Q)
def s_Owner.sh (a0 : Value) (a1 : Value) (h : Heap) (Q : Value → Heap → Prop) : Prop :=
    lenV a0 fun t11 =>
    loopC (fun c s h K1 => s_Owner.l2.b (c.getD 0 undef) (c.getD 1 undef) (c.getD 2 undef) (s.getD 0 undef) (s.getD 1 undef) (s.getD 2 undef) h K1 Q) [a1, a0, t11] [(.int .i64 65536), (.int .i64 (-1)), (.int .i64 0)] h
theorem s_Owner.body (a0 : Value) (a1 : Value) (h : Heap) (Q : Value → Heap → Prop) (H : s_Owner.sh a0 a1 h Q) : s_Owner.call #[a0, a1] h Q := by
  refine callsH_of (args := [a0, a1]) Try.func30 rfl rfl ?_
  unfold s_Owner.sh at H
  refine WPc_seq' ?_
  refine W_region (by kernel_rfl) ?_
  refine vl_n ?_
  refine H_of_R (R_assign (v := (.int .i64 0)) rfl ?_)
  refine vl_e ?_
  refine WPc_seq' ?_
  refine W_region (by kernel_rfl) ?_
  refine vl_n ?_
  refine H_of_R (R_assign (v := (.int .i64 65536)) rfl ?_)
  refine vl_n ?_
  refine H_of_R (R_assign (v := (.int .i64 (-1))) rfl ?_)
  refine vl_e ?_
  refine WPc_seq (fun e h => s_Owner.j1 (e 6) h Q) ?_ (fun e h H => ?_)
  rotate_left
  · unfold s_Owner.j1 at H
    refine WPc_seq' ?_
    refine W_region (by kernel_rfl) ?_
    refine vl_n ?_
    refine H_of_R (R_move (v := (e 6)) rfl ?_)
    refine vl_n ?_
    refine H_of_R (R_assign (v := (e 6)) rfl ?_)
    refine vl_e ?_
    refine WPc_ret ?_
    refine resH_of rfl ?_
    exact H
  refine WPc_seq' ?_
  refine W_region (by kernel_rfl) ?_
  refine vl_n ?_
  refine H_of_R (R_move (v := a0) rfl ?_)
  refine vl_n ?_
  refine H_of_R (R_len Try.underlying22 H fun t11 H => ?_)
  refine vl_n ?_
  refine H_of_R (R_move (v := (.int .i64 0)) rfl ?_)
  refine vl_e ?_
  refine WPc_block ?_
  refine loop_at (fun e => [e 5, e 6, e 12]) (fun e => [e 1, e 10, e 11]) H rfl rfl ?_
  intro K1 e1 h H hin1
  replace H : s_Owner.l2.b (e1 1) (e1 10) (e1 11) (e1 5) (e1 6) (e1 12) h K1 Q := H
  unfold s_Owner.l2.b at H
  clear hin1
  refine WPc_seq' ?_
  refine W_region (by kernel_rfl) ?_
  refine vl_n ?_
  refine H_of_R (R_lss H fun t13 H => ?_)
  refine vl_e ?_
  refine WPc_seq (fun e h => s_Owner.j3 (e 1) (e 5) (e 6) (e 10) (e 11) (e 12) h K1 Q ∧ [e1 1, e1 10, e1 11] = [e 1, e 10, e 11]) ?_ (fun e h ⟨H, hq1⟩ => ?_)
  rotate_left
  · unfold s_Owner.j3 at H
    refine WPc_seq (fun e h => s_Owner.j4 (e 1) (e 5) (e 6) (e 10) (e 11) (e 12) h K1 Q ∧ [e1 1, e1 10, e1 11] = [e 1, e 10, e 11]) ?_ (fun e h ⟨H, hq1⟩ => ?_)
    rotate_left
    · unfold s_Owner.j4 at H
      refine W_region (by kernel_rfl) ?_
      refine vl_n ?_
      refine H_of_R (R_add H fun t27 H => ?_)
      refine vl_n ?_
      refine H_of_R (R_move (v := t27) rfl ?_)
      refine vl_e ?_
      exact ⟨H, hq1⟩
    refine WPc_block ?_
    refine WPc_seq' ?_
    refine W_region (by kernel_rfl) ?_
    refine vl_n ?_
    refine H_of_R (R_idx TE_22 H fun t14 H => ?_)
    refine vl_n ?_
    refine H_of_R (R_loadN TN_27 H fun _ t15 _ _ H _ _ => ?_)
    refine vl_n ?_
    refine H_alloc TV_27 H fun t8 h H => ?_
    refine vl_n ?_
    refine H_storeN TS_27 H fun h H => ?_
    refine vl_e ?_
    refine WPc_seq' ?_
    refine W_region (by kernel_rfl) ?_
    refine vl_n ?_
    refine H_of_R (R_fld TF_27_0 H fun t16 H => ?_)
    refine vl_n ?_
    refine H_of_R (R_load1 T1_3 H fun _ t17 _ _ H => ?_)
    refine vl_n ?_
    refine H_of_R (R_move (v := (e 1)) rfl ?_)
    refine vl_n ?_
    refine H_of_R (R_sub H fun t19 H => ?_)
    refine vl_n ?_
    refine H_call HB_27 H fun t20 h H => ?_
    refine vl_n ?_
    refine H_of_R (R_assign (v := t20) rfl ?_)
    refine vl_e ?_
    refine WPc_seq' ?_
    refine W_region (by kernel_rfl) ?_
    refine vl_n ?_
    refine H_of_R (R_move (v := t20) rfl ?_)
    refine vl_n ?_
    refine H_of_R (R_move (v := (e 5)) rfl ?_)
    refine vl_n ?_
    refine H_of_R (R_leq H fun t23 H => ?_)
    refine vl_e ?_
    obtain ⟨b, hc, H1, H2⟩ := H
    refine WPc_cond hc (fun hh => ?_) (fun hh => ?_)
    · have H := H1 hh; clear H1 H2
      refine W_drawn [0, 0, 2, 1, 15] (.take 0 (.take 1 (.take 2 (.take 3 (.take 4 .done))))) mixed (by kernel_rfl) ?_
      refine tkP rfl ?_
      refine R_move (v := t20) rfl ⟨fun _ => trivial, ?_⟩
      refine tkP rfl ?_
      refine R_fld TF_27_1 H fun t25 H => ⟨fun _ => trivial, ?_⟩
      refine tkL rfl ?_
      refine R_load1 T1_3 H fun at26 t26 hat26 _ H => ?_
      refine tkP rfl ?_
      refine R_assign (v := t20) rfl ⟨fun _ => trivial, ?_⟩
      refine tkP rfl ?_
      refine R_assign (v := t26) rfl ⟨fun _ => trivial, ?_⟩
      refine vp_done ?_
      exact ⟨H, hq1⟩
    · have H := H2 hh; clear H1 H2
      refine WPc_skip ?_
      exact ⟨H, hq1⟩
  obtain ⟨b, hc, H1, H2⟩ := H
  refine WPc_cond hc (fun hh => ?_) (fun hh => ?_)
  · have H := H1 hh; clear H1 H2
    refine WPc_skip ?_
    exact ⟨H, rfl⟩
  · have H := H2 hh; clear H1 H2
    refine WPc_exit ?_
    exact H
/-! ### laws.FnMRing -/
def l_FnMRing.j5 (h : Heap) (Q : Value → Heap → Prop) : Prop :=
    l_aliveM.call #[] h fun t106 h =>
    Q t106 h
def l_FnMRing.j8 (s0 : Value) (s3 : Value) (s9 : Value) (s10 : Value) (s66 : Value) (s67 : Value) (s68 : Value) (h : Heap) (K1 : List Value → Heap → Prop) (Q : Value → Heap → Prop) : Prop :=
    arith (· + ·) s68 (.int .i64 1) fun t105 =>
    K1 [t105] h
def l_FnMRing.j7 (s0 : Value) (s3 : Value) (s9 : Value) (s10 : Value) (s66 : Value) (s67 : Value) (s68 : Value) (h : Heap) (K1 : List Value → Heap → Prop) (Q : Value → Heap → Prop) : Prop :=
    idx 1 s66 s68 fun t70 =>
    load1 t70 h fun t71 =>
    cvI .i64 t71 fun t75 =>
    l_owner.call #[s0, s9, t75] h fun t76 h =>
    cvI .i64 t71 fun t80 =>
    l_owner.call #[s0, s10, t80] h fun t81 h =>
    cvI .i64 t71 fun t85 =>
    s_Owner.call #[s9, t85] h fun t86 h =>
    cmpI (fun a b => a != b) t76 t86 fun t87 =>
    br t87 false (cvI .i64 s3 fun t91 =>
    cmpI (fun a b => a != b) t76 t91 fun t92 =>
    br t92 true (cmpI (fun a b => a != b) t76 t81 fun t96 =>
    br t96 false (cvI .i64 s3 fun t102_2 =>
    cmpI (fun a b => a == b) t81 t102_2 fun t103_2 =>
    ifV t103_2
    (Q (.bool false) h)
    (l_FnMRing.j8 s0 s3 s9 s10 s66 s67 s68 h K1 Q)) (Q (.bool false) h)) (cvI .i64 s3 fun t102 =>
    cmpI (fun a b => a == b) t81 t102 fun t103 =>
    ifV t103
    (Q (.bool false) h)
    (l_FnMRing.j8 s0 s3 s9 s10 s66 s67 s68 h K1 Q))) (Q (.bool false) h)
def l_FnMRing.l6.b (c0 : Value) (c3 : Value) (c9 : Value) (c10 : Value) (c66 : Value) (c67 : Value) (s68 : Value) (h : Heap) (K1 : List Value → Heap → Prop) (Q : Value → Heap → Prop) : Prop :=
    cmpI (fun a b => decide (a < b)) s68 c67 fun t69 =>
    ifV t69
    (l_FnMRing.j7 c0 c3 c9 c10 c66 c67 s68 h K1 Q)
    (l_FnMRing.j5 h Q)
def l_FnMRing.j4 (s0 : Value) (s2 : Value) (s3 : Value) (s9 : Value) (s10 : Value) (h : Heap) (Q : Value → Heap → Prop) : Prop :=
    lenV s2 fun t67 =>
    loopC (fun c s h K1 => l_FnMRing.l6.b (c.getD 0 undef) (c.getD 1 undef) (c.getD 2 undef) (c.getD 3 undef) (c.getD 4 undef) (c.getD 5 undef) (s.getD 0 undef) h K1 Q) [s0, s3, s9, s10, s2, t67] [(.int .i64 0)] h
def l_FnMRing.j11 (s0 : Value) (s2 : Value) (s3 : Value) (s9 : Value) (s10 : Value) (s50 : Value) (s51 : Value) (s52 : Value) (h : Heap) (K1 : List Value → Heap → Prop) (Q : Value → Heap → Prop) : Prop :=
    arith (· + ·) s52 (.int .i64 1) fun t65 =>
    K1 [s10, t65] h
def l_FnMRing.j10 (s0 : Value) (s2 : Value) (s3 : Value) (s9 : Value) (s10 : Value) (s50 : Value) (s51 : Value) (s52 : Value) (h : Heap) (K1 : List Value → Heap → Prop) (Q : Value → Heap → Prop) : Prop :=
    idx 2 s50 s52 fun t54 =>
    loadN 2 t54 h fun t55 =>
    alloc [(.int .i64 0), (.int .i64 0)] 27 h fun t14 h =>
    storeN 2 t14 t55 h fun h =>
    fld 1 t14 fun t56 =>
    load1 t56 h fun t57 =>
    cvI .i64 s3 fun t59 =>
    cmpI (fun a b => a != b) t57 t59 fun t60 =>
    ifV t60
    (loadN 2 t14 h fun t62 =>
    mkSl (if 1 * 2 = 0 then [] else zeros [(.int .i64 0), (.int .i64 0)] 1) 1 [(0 * 2, 2, t62)] 27 h fun t63 h =>
    app 27 2 16 [(.int .i64 0), (.int .i64 0)] s10 t63 h fun t64 h =>
    l_FnMRing.j11 s0 s2 s3 s9 t64 s50 s51 s52 h K1 Q)
    (l_FnMRing.j11 s0 s2 s3 s9 s10 s50 s51 s52 h K1 Q)
def l_FnMRing.l9.b (c0 : Value) (c2 : Value) (c3 : Value) (c9 : Value) (c50 : Value) (c51 : Value) (s10 : Value) (s52 : Value) (h : Heap) (K1 : List Value → Heap → Prop) (Q : Value → Heap → Prop) : Prop :=
    cmpI (fun a b => decide (a < b)) s52 c51 fun t53 =>
    ifV t53
    (l_FnMRing.j10 c0 c2 c3 c9 s10 c50 c51 s52 h K1 Q)
    (l_FnMRing.j4 c0 c2 c3 c9 s10 h Q)
def l_FnMRing.j3 (s0 : Value) (s2 : Value) (s3 : Value) (s9 : Value) (s10 : Value) (h : Heap) (Q : Value → Heap → Prop) : Prop :=
    i_MScan.call #[s0, s9, (.int .i64 0)] h fun t50 h =>
    lenV t50 fun t51 =>
    loopC (fun c s h K1 => l_FnMRing.l9.b (c.getD 0 undef) (c.getD 1 undef) (c.getD 2 undef) (c.getD 3 undef) (c.getD 4 undef) (c.getD 5 undef) (s.getD 0 undef) (s.getD 1 undef) h K1 Q) [s0, s2, s3, s9, t50, t51] [s10, (.int .i64 0)] h
def l_FnMRing.j14 (s0 : Value) (s2 : Value) (s3 : Value) (s9 : Value) (s10 : Value) (s31 : Value) (s32 : Value) (s33 : Value) (h : Heap) (K1 : List Value → Heap → Prop) (Q : Value → Heap → Prop) : Prop :=
    arith (· + ·) s33 (.int .i64 1) fun t47 =>
    K1 [s9, t47] h
def l_FnMRing.j13 (s0 : Value) (s2 : Value) (s3 : Value) (s9 : Value) (s10 : Value) (s31 : Value) (s32 : Value) (s33 : Value) (h : Heap) (K1 : List Value → Heap → Prop) (Q : Value → Heap → Prop) : Prop :=
    idx 2 s31 s33 fun t35 =>
    loadN 2 t35 h fun t36 =>
    alloc [(.int .i64 0), (.int .i64 0)] 27 h fun t12 h =>
    storeN 2 t12 t36 h fun h =>
    fld 0 t12 fun t38 =>
    load1 t38 h fun t39 =>
    fld 1 t12 fun t41 =>
    load1 t41 h fun t42 =>
    s_Modulo.call #[t39, (.int .i64 65536)] h fun t40 h =>
    still1 t41 t42 h ∧ s_Modulo.call #[t42, (.int .i64 256)] h fun t43 h =>
    buildV [(.int .i64 0), (.int .i64 0)] [(0, 1, t40), (1, 1, t43)] fun t44 =>
    mkSl (if 1 * 2 = 0 then [] else zeros [(.int .i64 0), (.int .i64 0)] 1) 1 [(0 * 2, 2, t44)] 27 h fun t45 h =>
    app 27 2 16 [(.int .i64 0), (.int .i64 0)] s9 t45 h fun t46 h =>
    l_FnMRing.j14 s0 s2 s3 t46 s10 s31 s32 s33 h K1 Q
def l_FnMRing.l12.b (c0 : Value) (c2 : Value) (c3 : Value) (c10 : Value) (c31 : Value) (c32 : Value) (s9 : Value) (s33 : Value) (h : Heap) (K1 : List Value → Heap → Prop) (Q : Value → Heap → Prop) : Prop :=
    cmpI (fun a b => decide (a < b)) s33 c32 fun t34 =>
    ifV t34
    (l_FnMRing.j13 c0 c2 c3 s9 c10 c31 c32 s33 h K1 Q)
    (l_FnMRing.j3 c0 c2 c3 s9 c10 h Q)
def l_FnMRing.j2 (s0 : Value) (s1 : Value) (s2 : Value) (s3 : Value) (h : Heap) (Q : Value → Heap → Prop) : Prop :=
    lenV s1 fun t32 =>
    loopC (fun c s h K1 => l_FnMRing.l12.b (c.getD 0 undef) (c.getD 1 undef) (c.getD 2 undef) (c.getD 3 undef) (c.getD 4 undef) (c.getD 5 undef) (s.getD 0 undef) (s.getD 1 undef) h K1 Q) [s0, s2, s3, (.slice none 0 0), s1, t32] [(.slice none 0 0), (.int .i64 0)] h
def l_FnMRing.j1 (s0 : Value) (s1 : Value) (s2 : Value) (s3 : Value) (h : Heap) (Q : Value → Heap → Prop) : Prop :=
    l_fit.call #[s0] h fun t28 h =>
    notV t28 fun t29 =>
    ifV t29
    (l_aliveM.call #[] h fun t30 h =>
    Q t30 h)
    (l_FnMRing.j2 s0 s1 s2 s3 h Q)
def l_FnMRing.sh (a0 : Value) (a1 : Value) (a2 : Value) (a3 : Value) (h : Heap) (Q : Value → Heap → Prop) : Prop :=
    lenV a1 fun t20 =>
    cmpI (fun a b => decide (a > b)) t20 (.int .i64 2147483647) fun t21 =>
    br t21 false (lenV a2 fun t24 =>
    cmpI (fun a b => decide (a > b)) t24 (.int .i64 2147483647) fun t25 =>
    ifV t25
    (Q (.bool true) h)
    (l_FnMRing.j1 a0 a1 a2 a3 h Q)) (Q (.bool true) h)
theorem l_FnMRing.body (a0 : Value) (a1 : Value) (a2 : Value) (a3 : Value) (h : Heap) (Q : Value → Heap → Prop) (H : l_FnMRing.sh a0 a1 a2 a3 h Q) : l_FnMRing.call #[a0, a1, a2, a3] h Q := by
  refine callsH_of (args := [a0, a1, a2, a3]) Try.func6 rfl rfl ?_
  unfold l_FnMRing.sh at H
  refine WPc_seq' ?_
  refine W_region (by kernel_rfl) ?_
  refine vl_n ?_
  refine H_of_R (R_assign (v := (.bool false)) rfl ?_)
  refine vl_e ?_
  refine WPc_seq (fun e h => l_FnMRing.j1 (e 0) (e 1) (e 2) (e 3) h Q) ?_ (fun e h H => ?_)
  rotate_left
  · unfold l_FnMRing.j1 at H
    refine WPc_seq (fun e h => l_FnMRing.j2 (e 0) (e 1) (e 2) (e 3) h Q) ?_ (fun e h H => ?_)
    rotate_left
    · unfold l_FnMRing.j2 at H
      refine WPc_seq' ?_
      refine W_region (by kernel_rfl) ?_
      refine vl_n ?_
      refine H_of_R (R_assign (v := (.slice none 0 0)) rfl ?_)
      refine vl_n ?_
      refine H_of_R (R_assign (v := (.slice none 0 0)) rfl ?_)
      refine vl_e ?_
      refine WPc_seq (fun e h => l_FnMRing.j3 (e 0) (e 2) (e 3) (e 9) (e 10) h Q) ?_ (fun e h H => ?_)
      rotate_left
      · unfold l_FnMRing.j3 at H
        refine WPc_seq (fun e h => l_FnMRing.j4 (e 0) (e 2) (e 3) (e 9) (e 10) h Q) ?_ (fun e h H => ?_)
        rotate_left
        · unfold l_FnMRing.j4 at H
          refine WPc_seq (fun e h => l_FnMRing.j5 h Q) ?_ (fun e h H => ?_)
          rotate_left
          · unfold l_FnMRing.j5 at H
            refine WPc_seq' ?_
            refine W_region (by kernel_rfl) ?_
            refine vl_n ?_
            refine H_call HB_26 H fun t106 h H => ?_
            refine vl_n ?_
            refine H_of_R (R_assign (v := t106) rfl ?_)
            refine vl_e ?_
            refine WPc_ret ?_
            refine resH_of rfl ?_
            exact H
          refine WPc_seq' ?_
          refine W_region (by kernel_rfl) ?_
          refine vl_n ?_
          refine H_of_R (R_move (v := (e 2)) rfl ?_)
          refine vl_n ?_
          refine H_of_R (R_len Try.underlying48 H fun t67 H => ?_)
          refine vl_n ?_
          refine H_of_R (R_move (v := (.int .i64 0)) rfl ?_)
          refine vl_e ?_
          refine WPc_block ?_
          refine loop_at (fun e => [e 68]) (fun e => [e 0, e 3, e 9, e 10, e 66, e 67]) H rfl rfl ?_
          intro K1 e1 h H hin1
          replace H : l_FnMRing.l6.b (e1 0) (e1 3) (e1 9) (e1 10) (e1 66) (e1 67) (e1 68) h K1 Q := H
          unfold l_FnMRing.l6.b at H
          clear hin1
          refine WPc_seq' ?_
          refine W_region (by kernel_rfl) ?_
          refine vl_n ?_
          refine H_of_R (R_lss H fun t69 H => ?_)
          refine vl_e ?_
          refine WPc_seq (fun e h => l_FnMRing.j7 (e 0) (e 3) (e 9) (e 10) (e 66) (e 67) (e 68) h K1 Q ∧ [e1 0, e1 3, e1 9, e1 10, e1 66, e1 67] = [e 0, e 3, e 9, e 10, e 66, e 67]) ?_ (fun e h ⟨H, hq1⟩ => ?_)
          rotate_left
          · unfold l_FnMRing.j7 at H
            refine WPc_seq (fun e h => l_FnMRing.j8 (e 0) (e 3) (e 9) (e 10) (e 66) (e 67) (e 68) h K1 Q ∧ [e1 0, e1 3, e1 9, e1 10, e1 66, e1 67] = [e 0, e 3, e 9, e 10, e 66, e 67]) ?_ (fun e h ⟨H, hq1⟩ => ?_)
            rotate_left
            · unfold l_FnMRing.j8 at H
              refine W_region (by kernel_rfl) ?_
              refine vl_n ?_
              refine H_of_R (R_add H fun t105 H => ?_)
              refine vl_n ?_
              refine H_of_R (R_move (v := t105) rfl ?_)
              refine vl_e ?_
              exact ⟨H, hq1⟩
            refine WPc_block ?_
            refine WPc_seq' ?_
            refine W_region (by kernel_rfl) ?_
            refine vl_n ?_
            refine H_of_R (R_idx TE_48 H fun t70 H => ?_)
            refine vl_n ?_
            refine H_of_R (R_load1 T1_52 H fun _ t71 _ _ H => ?_)
            refine vl_n ?_
            refine H_of_R (R_assign (v := t71) rfl ?_)
            refine vl_e ?_
            refine WPc_seq' ?_
            refine W_region (by kernel_rfl) ?_
            refine vl_n ?_
            refine H_of_R (R_move (v := (e 0)) rfl ?_)
            refine vl_n ?_
            refine H_of_R (R_move (v := (e 9)) rfl ?_)
            refine vl_n ?_
            refine H_of_R (R_move (v := t71) rfl ?_)
            refine vl_n ?_
            refine H_of_R (R_cvI Try.underlying52 Try.underlying3 H fun t75 H => ?_)
            refine vl_n ?_
            refine H_call HB_29 H fun t76 h H => ?_
            refine vl_n ?_
            refine H_of_R (R_move (v := (e 0)) rfl ?_)
            refine vl_n ?_
            refine H_of_R (R_move (v := (e 10)) rfl ?_)
            refine vl_n ?_
            refine H_of_R (R_move (v := t71) rfl ?_)
            refine vl_n ?_
            refine H_of_R (R_cvI Try.underlying52 Try.underlying3 H fun t80 H => ?_)
            refine vl_n ?_
            refine H_call HB_29 H fun t81 h H => ?_
            refine vl_n ?_
            refine H_of_R (R_assign (v := t76) rfl ?_)
            refine vl_n ?_
            refine H_of_R (R_assign (v := t81) rfl ?_)
            refine vl_e ?_
            refine WPc_seq' ?_
            refine W_region (by kernel_rfl) ?_
            refine vl_n ?_
            refine H_of_R (R_move (v := t76) rfl ?_)
            refine vl_n ?_
            refine H_of_R (R_move (v := (e 9)) rfl ?_)
            refine vl_n ?_
            refine H_of_R (R_move (v := t71) rfl ?_)
            refine vl_n ?_
            refine H_of_R (R_cvI Try.underlying52 Try.underlying3 H fun t85 H => ?_)
            refine vl_n ?_
            refine H_call HB_30 H fun t86 h H => ?_
            refine vl_n ?_
            refine H_of_R (R_neI H fun t87 H => ?_)
            refine vl_n ?_
            refine H_of_R (R_move (v := t87) rfl ?_)
            obtain ⟨b, hb, H1, H2⟩ := H
            cases b
            · have H := H1 rfl; clear H1 H2
              refine vl_y rfl hb ?_
              refine H_of_R (R_move (v := t76) rfl ?_)
              refine vl_y rfl hb ?_
              refine H_of_R (R_move (v := (e 3)) rfl ?_)
              refine vl_y rfl hb ?_
              refine H_of_R (R_cvI Try.underlying5 Try.underlying3 H fun t91 H => ?_)
              refine vl_y rfl hb ?_
              refine H_of_R (R_neI H fun t92 H => ?_)
              refine vl_y rfl hb ?_
              refine H_of_R (R_move (v := t92) rfl ?_)
              obtain ⟨b_2, hb_2, H1, H2⟩ := H
              cases b_2
              · have H := H2 rfl; clear H1 H2
                refine vl_s rfl (nbT hb_2) ?_
                refine vl_s rfl (nbT hb_2) ?_
                refine vl_s rfl (nbT hb_2) ?_
                refine vl_y rfl hb ?_
                refine H_of_R (R_pickC (v := (.bool false)) false hb_2 rfl ?_)
                refine vl_n ?_
                refine H_of_R (R_pickC (v := (.bool false)) false hb rfl ?_)
                refine vl_n ?_
                refine H_of_R (R_move (v := (.bool false)) rfl ?_)
                refine vl_y rfl rfl ?_
                refine H_of_R (R_move (v := t81) rfl ?_)
                refine vl_y rfl rfl ?_
                refine H_of_R (R_move (v := (e 3)) rfl ?_)
                refine vl_y rfl rfl ?_
                refine H_of_R (R_cvI Try.underlying5 Try.underlying3 H fun t102 H => ?_)
                refine vl_y rfl rfl ?_
                refine H_of_R (R_eqI H fun t103 H => ?_)
                refine vl_n ?_
                refine H_of_R (R_pickC (v := t103) false rfl rfl ?_)
                refine vl_e ?_
                obtain ⟨b_3, hc, H1, H2⟩ := H
                refine WPc_cond hc (fun hh => ?_) (fun hh => ?_)
                · have H := H1 hh; clear H1 H2
                  refine WPc_seq' ?_
                  refine W_region (by kernel_rfl) ?_
                  refine vl_n ?_
                  refine H_of_R (R_assign (v := (.bool false)) rfl ?_)
                  refine vl_e ?_
                  refine WPc_ret ?_
                  refine resH_of rfl ?_
                  exact H
                · have H := H2 hh; clear H1 H2
                  refine WPc_skip ?_
                  exact ⟨H, hq1⟩
              · have H := H1 rfl; clear H1 H2
                refine vl_y rfl hb_2 ?_
                refine H_of_R (R_move (v := t76) rfl ?_)
                refine vl_y rfl hb_2 ?_
                refine H_of_R (R_move (v := t81) rfl ?_)
                refine vl_y rfl hb_2 ?_
                refine H_of_R (R_neI H fun t96 H => ?_)
                refine vl_y rfl hb ?_
                refine H_of_R (R_pickC (v := t96) true hb_2 rfl ?_)
                refine vl_n ?_
                refine H_of_R (R_pickC (v := t96) false hb rfl ?_)
                refine vl_n ?_
                refine H_of_R (R_move (v := t96) rfl ?_)
                obtain ⟨b_4, hb_3, H1, H2⟩ := H
                cases b_4
                · have H := H1 rfl; clear H1 H2
                  refine vl_y rfl hb_3 ?_
                  refine H_of_R (R_move (v := t81) rfl ?_)
                  refine vl_y rfl hb_3 ?_
                  refine H_of_R (R_move (v := (e 3)) rfl ?_)
                  refine vl_y rfl hb_3 ?_
                  refine H_of_R (R_cvI Try.underlying5 Try.underlying3 H fun t102_2 H => ?_)
                  refine vl_y rfl hb_3 ?_
                  refine H_of_R (R_eqI H fun t103_2 H => ?_)
                  refine vl_n ?_
                  refine H_of_R (R_pickC (v := t103_2) false hb_3 rfl ?_)
                  refine vl_e ?_
                  obtain ⟨b_5, hc_2, H1, H2⟩ := H
                  refine WPc_cond hc_2 (fun hh => ?_) (fun hh => ?_)
                  · have H := H1 hh; clear H1 H2
                    refine WPc_seq' ?_
                    refine W_region (by kernel_rfl) ?_
                    refine vl_n ?_
                    refine H_of_R (R_assign (v := (.bool false)) rfl ?_)
                    refine vl_e ?_
                    refine WPc_ret ?_
                    refine resH_of rfl ?_
                    exact H
                  · have H := H2 hh; clear H1 H2
                    refine WPc_skip ?_
                    exact ⟨H, hq1⟩
                · have H := H2 rfl; clear H1 H2
                  refine vl_s rfl (nbF hb_3) ?_
                  refine vl_s rfl (nbF hb_3) ?_
                  refine vl_s rfl (nbF hb_3) ?_
                  refine vl_s rfl (nbF hb_3) ?_
                  refine vl_n ?_
                  refine H_of_R (R_pickC (v := (.bool true)) true hb_3 rfl ?_)
                  refine vl_e ?_
                  refine WPc_cond (t := true) rfl (fun _ => ?_) (fun hh => by cases hh)
                  refine WPc_seq' ?_
                  refine W_region (by kernel_rfl) ?_
                  refine vl_n ?_
                  refine H_of_R (R_assign (v := (.bool false)) rfl ?_)
                  refine vl_e ?_
                  refine WPc_ret ?_
                  refine resH_of rfl ?_
                  exact H
            · have H := H2 rfl; clear H1 H2
              refine vl_s rfl (nbF hb) ?_
              refine vl_s rfl (nbF hb) ?_
              refine vl_s rfl (nbF hb) ?_
              refine vl_s rfl (nbF hb) ?_
              refine vl_s rfl (nbF hb) ?_
              refine vl_s rfl nbU ?_
              refine vl_s rfl nbU ?_
              refine vl_s rfl nbU ?_
              refine vl_s rfl (nbF hb) ?_
              refine vl_n ?_
              refine H_of_R (R_pickC (v := (.bool true)) true hb rfl ?_)
              refine vl_n ?_
              refine H_of_R (R_move (v := (.bool true)) rfl ?_)
              refine vl_s rfl (nbF rfl) ?_
              refine vl_s rfl (nbF rfl) ?_
              refine vl_s rfl (nbF rfl) ?_
              refine vl_s rfl (nbF rfl) ?_
              refine vl_n ?_
              refine H_of_R (R_pickC (v := (.bool true)) true rfl rfl ?_)
              refine vl_e ?_
              refine WPc_cond (t := true) rfl (fun _ => ?_) (fun hh => by cases hh)
              refine WPc_seq' ?_
              refine W_region (by kernel_rfl) ?_
              refine vl_n ?_
              refine H_of_R (R_assign (v := (.bool false)) rfl ?_)
              refine vl_e ?_
              refine WPc_ret ?_
              refine resH_of rfl ?_
              exact H
          obtain ⟨b, hc, H1, H2⟩ := H
          refine WPc_cond hc (fun hh => ?_) (fun hh => ?_)
          · have H := H1 hh; clear H1 H2
            refine WPc_skip ?_
            exact ⟨H, rfl⟩
          · have H := H2 hh; clear H1 H2
            refine WPc_exit ?_
            exact H
        refine WPc_seq' ?_
        refine W_region (by kernel_rfl) ?_
        refine vl_n ?_
        refine H_of_R (R_move (v := (e 0)) rfl ?_)
        refine vl_n ?_
        refine H_of_R (R_move (v := (e 9)) rfl ?_)
        refine vl_n ?_
        refine H_call HB_28 H fun t50 h H => ?_
        refine vl_n ?_
        refine H_of_R (R_len Try.underlying22 H fun t51 H => ?_)
        refine vl_n ?_
        refine H_of_R (R_move (v := (.int .i64 0)) rfl ?_)
        refine vl_e ?_
        refine WPc_block ?_
        refine loop_at (fun e => [e 10, e 52]) (fun e => [e 0, e 2, e 3, e 9, e 50, e 51]) H rfl rfl ?_
        intro K1 e1 h H hin1
        replace H : l_FnMRing.l9.b (e1 0) (e1 2) (e1 3) (e1 9) (e1 50) (e1 51) (e1 10) (e1 52) h K1 Q := H
        unfold l_FnMRing.l9.b at H
        clear hin1
        refine WPc_seq' ?_
        refine W_region (by kernel_rfl) ?_
        refine vl_n ?_
        refine H_of_R (R_lss H fun t53 H => ?_)
        refine vl_e ?_
        refine WPc_seq (fun e h => l_FnMRing.j10 (e 0) (e 2) (e 3) (e 9) (e 10) (e 50) (e 51) (e 52) h K1 Q ∧ [e1 0, e1 2, e1 3, e1 9, e1 50, e1 51] = [e 0, e 2, e 3, e 9, e 50, e 51]) ?_ (fun e h ⟨H, hq1⟩ => ?_)
        rotate_left
        · unfold l_FnMRing.j10 at H
          refine WPc_seq (fun e h => l_FnMRing.j11 (e 0) (e 2) (e 3) (e 9) (e 10) (e 50) (e 51) (e 52) h K1 Q ∧ [e1 0, e1 2, e1 3, e1 9, e1 50, e1 51] = [e 0, e 2, e 3, e 9, e 50, e 51]) ?_ (fun e h ⟨H, hq1⟩ => ?_)
          rotate_left
          · unfold l_FnMRing.j11 at H
            refine W_region (by kernel_rfl) ?_
            refine vl_n ?_
            refine H_of_R (R_add H fun t65 H => ?_)
            refine vl_n ?_
            refine H_of_R (R_move (v := t65) rfl ?_)
            refine vl_e ?_
            exact ⟨H, hq1⟩
          refine WPc_block ?_
          refine WPc_seq' ?_
          refine W_region (by kernel_rfl) ?_
          refine vl_n ?_
          refine H_of_R (R_idx TE_22 H fun t54 H => ?_)
          refine vl_n ?_
          refine H_of_R (R_loadN TN_27 H fun _ t55 _ _ H _ _ => ?_)
          refine vl_n ?_
          refine H_alloc TV_27 H fun t14 h H => ?_
          refine vl_n ?_
          refine H_storeN TS_27 H fun h H => ?_
          refine vl_e ?_
          refine WPc_seq' ?_
          refine W_region (by kernel_rfl) ?_
          refine vl_n ?_
          refine H_of_R (R_fld TF_27_1 H fun t56 H => ?_)
          refine vl_n ?_
          refine H_of_R (R_load1 T1_3 H fun _ t57 _ _ H => ?_)
          refine vl_n ?_
          refine H_of_R (R_move (v := (e 3)) rfl ?_)
          refine vl_n ?_
          refine H_of_R (R_cvI Try.underlying5 Try.underlying3 H fun t59 H => ?_)
          refine vl_n ?_
          refine H_of_R (R_neI H fun t60 H => ?_)
          refine vl_e ?_
          obtain ⟨b, hc, H1, H2⟩ := H
          refine WPc_cond hc (fun hh => ?_) (fun hh => ?_)
          · have H := H1 hh; clear H1 H2
            refine W_region (by kernel_rfl) ?_
            refine vl_n ?_
            refine H_of_R (R_move (v := (e 10)) rfl ?_)
            refine vl_n ?_
            refine H_of_R (R_loadN TN_27 H fun _ t62 _ _ H _ _ => ?_)
            refine vl_n ?_
            refine H_mkSl TZ_22 (by decide) rfl H rfl fun t63 h H => ?_
            refine vl_n ?_
            refine H_app TZ_22 TU_22 H fun t64 h H => ?_
            refine vl_n ?_
            refine H_of_R (R_assign (v := t64) rfl ?_)
            refine vl_e ?_
            exact ⟨H, hq1⟩
          · have H := H2 hh; clear H1 H2
            refine WPc_skip ?_
            exact ⟨H, hq1⟩
        obtain ⟨b, hc, H1, H2⟩ := H
        refine WPc_cond hc (fun hh => ?_) (fun hh => ?_)
        · have H := H1 hh; clear H1 H2
          refine WPc_skip ?_
          exact ⟨H, rfl⟩
        · have H := H2 hh; clear H1 H2
          refine WPc_exit ?_
          exact H
      refine WPc_seq' ?_
      refine W_region (by kernel_rfl) ?_
      refine vl_n ?_
      refine H_of_R (R_move (v := (e 1)) rfl ?_)
      refine vl_n ?_
      refine H_of_R (R_len Try.underlying22 H fun t32 H => ?_)
      refine vl_n ?_
      refine H_of_R (R_move (v := (.int .i64 0)) rfl ?_)
      refine vl_e ?_
      refine WPc_block ?_
      refine loop_at (fun e => [e 9, e 33]) (fun e => [e 0, e 2, e 3, e 10, e 31, e 32]) H rfl rfl ?_
      intro K1 e1 h H hin1
      replace H : l_FnMRing.l12.b (e1 0) (e1 2) (e1 3) (e1 10) (e1 31) (e1 32) (e1 9) (e1 33) h K1 Q := H
      unfold l_FnMRing.l12.b at H
      clear hin1
      refine WPc_seq' ?_
      refine W_region (by kernel_rfl) ?_
      refine vl_n ?_
      refine H_of_R (R_lss H fun t34 H => ?_)
      refine vl_e ?_
      refine WPc_seq (fun e h => l_FnMRing.j13 (e 0) (e 2) (e 3) (e 9) (e 10) (e 31) (e 32) (e 33) h K1 Q ∧ [e1 0, e1 2, e1 3, e1 10, e1 31, e1 32] = [e 0, e 2, e 3, e 10, e 31, e 32]) ?_ (fun e h ⟨H, hq1⟩ => ?_)
      rotate_left
      · unfold l_FnMRing.j13 at H
        refine WPc_seq (fun e h => l_FnMRing.j14 (e 0) (e 2) (e 3) (e 9) (e 10) (e 31) (e 32) (e 33) h K1 Q ∧ [e1 0, e1 2, e1 3, e1 10, e1 31, e1 32] = [e 0, e 2, e 3, e 10, e 31, e 32]) ?_ (fun e h ⟨H, hq1⟩ => ?_)
        rotate_left
        · unfold l_FnMRing.j14 at H
          refine W_region (by kernel_rfl) ?_
          refine vl_n ?_
          refine H_of_R (R_add H fun t47 H => ?_)
          refine vl_n ?_
          refine H_of_R (R_move (v := t47) rfl ?_)
          refine vl_e ?_
          exact ⟨H, hq1⟩
        refine WPc_block ?_
        refine WPc_seq' ?_
        refine W_region (by kernel_rfl) ?_
        refine vl_n ?_
        refine H_of_R (R_idx TE_22 H fun t35 H => ?_)
        refine vl_n ?_
        refine H_of_R (R_loadN TN_27 H fun _ t36 _ _ H _ _ => ?_)
        refine vl_n ?_
        refine H_alloc TV_27 H fun t12 h H => ?_
        refine vl_n ?_
        refine H_storeN TS_27 H fun h H => ?_
        refine vl_e ?_
        refine W_drawn [0, 0, 2, 6, 0, 16, 62, 126, 254, 511, 1023] (.take 0 (.take 1 (.take 2 (.take 4 (.take 5 (.alt 3 (.alt 6 (.take 7 (.alt 8 (.alt 9 (.take 10 .done) .none) .none)) .none) .none)))))) mixed (by kernel_rfl) ?_
        refine tkP rfl ?_
        refine R_move (v := (e 9)) rfl ⟨fun _ => trivial, ?_⟩
        refine tkP rfl ?_
        refine R_fld TF_27_0 H fun t38 H => ⟨fun _ => trivial, ?_⟩
        refine tkL rfl ?_
        refine R_load1 T1_3 H fun at39 t39 hat39 _ H => ?_
        refine tkP rfl ?_
        refine R_fld TF_27_1 H fun t41 H => ⟨fun _ => trivial, ?_⟩
        refine tkL rfl ?_
        refine R_load1 T1_3 H fun at42 t42 hat42 _ H => ?_
        refine alt_n rfl ?_ vp_none
        refine H_call HB_27 H fun t40 h ⟨S, H⟩ => ⟨(hcons rfl (still_1 S hat42) (hskip rfl hnil)), ?_⟩
        refine alt_n rfl ?_ vp_none
        refine H_call HB_27 H fun t43 h H => ⟨(hskip rfl hnil), ?_⟩
        refine tkP rfl ?_
        refine R_build TB_27 rfl (by decide) H fun t44 H => ⟨fun _ => trivial, ?_⟩
        refine alt_n rfl ?_ vp_none
        refine H_mkSl TZ_22 (by decide) rfl H rfl fun t45 h H => ⟨hnil, ?_⟩
        refine alt_n rfl ?_ vp_none
        refine H_app TZ_22 TU_22 H fun t46 h H => ⟨hnil, ?_⟩
        refine tkP rfl ?_
        refine R_assign (v := t46) rfl ⟨fun _ => trivial, ?_⟩
        refine vp_done ?_
        exact ⟨H, hq1⟩
      obtain ⟨b, hc, H1, H2⟩ := H
      refine WPc_cond hc (fun hh => ?_) (fun hh => ?_)
      · have H := H1 hh; clear H1 H2
        refine WPc_skip ?_
        exact ⟨H, rfl⟩
      · have H := H2 hh; clear H1 H2
        refine WPc_exit ?_
        exact H
    refine WPc_seq' ?_
    refine W_region (by kernel_rfl) ?_
    refine vl_n ?_
    refine H_of_R (R_move (v := (e 0)) rfl ?_)
    refine vl_n ?_
    refine H_call HB_25 H fun t28 h H => ?_
    refine vl_n ?_
    refine H_of_R (R_not H fun t29 H => ?_)
    refine vl_e ?_
    obtain ⟨b, hc, H1, H2⟩ := H
    refine WPc_cond hc (fun hh => ?_) (fun hh => ?_)
    · have H := H1 hh; clear H1 H2
      refine WPc_seq' ?_
      refine W_region (by kernel_rfl) ?_
      refine vl_n ?_
      refine H_call HB_26 H fun t30 h H => ?_
      refine vl_n ?_
      refine H_of_R (R_assign (v := t30) rfl ?_)
      refine vl_e ?_
      refine WPc_ret ?_
      refine resH_of rfl ?_
      exact H
    · have H := H2 hh; clear H1 H2
      refine WPc_skip ?_
      exact H
  refine WPc_seq' ?_
  refine W_region (by kernel_rfl) ?_
  refine vl_n ?_
  refine H_of_R (R_move (v := a1) rfl ?_)
  refine vl_n ?_
  refine H_of_R (R_len Try.underlying22 H fun t20 H => ?_)
  refine vl_n ?_
  refine H_of_R (R_gtr H fun t21 H => ?_)
  refine vl_n ?_
  refine H_of_R (R_move (v := t21) rfl ?_)
  obtain ⟨b, hb, H1, H2⟩ := H
  cases b
  · have H := H1 rfl; clear H1 H2
    refine vl_y rfl hb ?_
    refine H_of_R (R_move (v := a2) rfl ?_)
    refine vl_y rfl hb ?_
    refine H_of_R (R_len Try.underlying48 H fun t24 H => ?_)
    refine vl_y rfl hb ?_
    refine H_of_R (R_gtr H fun t25 H => ?_)
    refine vl_n ?_
    refine H_of_R (R_pickC (v := t25) false hb rfl ?_)
    refine vl_e ?_
    obtain ⟨b_2, hc, H1, H2⟩ := H
    refine WPc_cond hc (fun hh => ?_) (fun hh => ?_)
    · have H := H1 hh; clear H1 H2
      refine WPc_seq' ?_
      refine W_region (by kernel_rfl) ?_
      refine vl_n ?_
      refine H_of_R (R_assign (v := (.bool true)) rfl ?_)
      refine vl_e ?_
      refine WPc_ret ?_
      refine resH_of rfl ?_
      exact H
    · have H := H2 hh; clear H1 H2
      refine WPc_skip ?_
      exact H
  · have H := H2 rfl; clear H1 H2
    refine vl_s rfl (nbF hb) ?_
    refine vl_s rfl (nbF hb) ?_
    refine vl_s rfl (nbF hb) ?_
    refine vl_n ?_
    refine H_of_R (R_pickC (v := (.bool true)) true hb rfl ?_)
    refine vl_e ?_
    refine WPc_cond (t := true) rfl (fun _ => ?_) (fun hh => by cases hh)
    refine WPc_seq' ?_
    refine W_region (by kernel_rfl) ?_
    refine vl_n ?_
    refine H_of_R (R_assign (v := (.bool true)) rfl ?_)
    refine vl_e ?_
    refine WPc_ret ?_
    refine resH_of rfl ?_
    exact H
/-! ### impl.entries -/
def i_entries.sh (a0 : Value) (h : Heap) (Q : Value → Heap → Prop) : Prop :=
    alloc [(.slice none 0 0)] 22 h fun t3 h =>
    i_pairs.call #[t3, (.int .i64 0)] h fun t5 h =>
    Map_ii_Scan.call #[a0, t5] h fun t6 h =>
    load1 t3 h fun t7 =>
    Q t7 h
theorem i_entries.body (a0 : Value) (h : Heap) (Q : Value → Heap → Prop) (H : i_entries.sh a0 h Q) : i_entries.call #[a0] h Q := by
  refine callsH_of (args := [a0]) Try.func92 rfl rfl ?_
  unfold i_entries.sh at H
  refine WPc_seq' ?_
  refine W_region (by kernel_rfl) ?_
  refine vl_n ?_
  refine H_of_R (R_assign (v := (.slice none 0 0)) rfl ?_)
  refine vl_e ?_
  refine WPc_seq' ?_
  refine W_region (by kernel_rfl) ?_
  refine vl_n ?_
  refine H_alloc TV_22 H fun t3 h H => ?_
  refine vl_e ?_
  refine WPc_seq' ?_
  refine W_region (by kernel_rfl) ?_
  refine vl_n ?_
  refine H_of_R (R_move (v := a0) rfl ?_)
  refine vl_n ?_
  refine H_call HB_78 H fun t5 h H => ?_
  refine vl_n ?_
  refine H_call HB_77 H fun t6 h H => ?_
  refine vl_e ?_
  refine WPc_seq' ?_
  refine W_region (by kernel_rfl) ?_
  refine vl_n ?_
  refine H_of_R (R_load1 T1_22 H fun _ t7 _ _ H => ?_)
  refine vl_n ?_
  refine H_of_R (R_assign (v := t7) rfl ?_)
  refine vl_e ?_
  refine WPc_ret ?_
  refine resH_of rfl ?_
  exact H

end Go.Proofs.Ytlihjljdndbpdaa
