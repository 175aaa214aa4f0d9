/-
  Shallow forms of the walked functions, and that each call comes to its form. Written by a program of this repo (gen.py). Conditions: none.
-/
import Derived.Test.YtoinihchhngcpaaST
namespace Go.Proofs.Ytoinihchhngcpaa
open Go.Hp
set_option maxRecDepth 100000
set_option maxHeartbeats 8000000
set_option linter.unusedVariables false
set_option linter.unusedSimpArgs false

/-! ### laws.keysIn -/
def l_keysIn.j1 (s3 : Value) (h : Heap) (Q : Value → Heap → Prop) : Prop :=
    Q s3 h
def l_keysIn.j4 (s3 : Value) (s6 : Value) (s7 : Value) (s8 : Value) (h : Heap) (K1 : List Value → Heap → Prop) (Q : Value → Heap → Prop) : Prop :=
    arith (· + ·) s8 (.int .i64 1) fun t17 =>
    K1 [s3, t17] h
def l_keysIn.j3 (s3 : Value) (s6 : Value) (s7 : Value) (s8 : Value) (h : Heap) (K1 : List Value → Heap → Prop) (Q : Value → Heap → Prop) : Prop :=
    idx 2 s6 s8 fun t10 =>
    loadN 2 t10 h fun t11 =>
    alloc [(.string ⟨#[]⟩), (.int .i64 0)] 26 h fun t5 h =>
    storeN 2 t5 t11 h fun h =>
    fld 0 t5 fun t13 =>
    load1 t13 h fun t14 =>
    mkSl (if 1 * 1 = 0 then [] else zeros [(.string ⟨#[]⟩)] 1) 1 [(0 * 1, 1, t14)] 9 h fun t15 h =>
    app 9 1 16 [(.string ⟨#[]⟩)] s3 t15 h fun t16 h =>
    l_keysIn.j4 t16 s6 s7 s8 h K1 Q
def l_keysIn.l2.b (c6 : Value) (c7 : Value) (s3 : Value) (s8 : Value) (h : Heap) (K1 : List Value → Heap → Prop) (Q : Value → Heap → Prop) : Prop :=
    cmpI (fun a b => decide (a < b)) s8 c7 fun t9 =>
    ifV t9
    (l_keysIn.j3 s3 c6 c7 s8 h K1 Q)
    (l_keysIn.j1 s3 h Q)
def l_keysIn.sh (a0 : Value) (h : Heap) (Q : Value → Heap → Prop) : Prop :=
    lenV a0 fun t7 =>
    loopC (fun c s h K1 => l_keysIn.l2.b (c.getD 0 undef) (c.getD 1 undef) (s.getD 0 undef) (s.getD 1 undef) h K1 Q) [a0, t7] [(.slice none 0 0), (.int .i64 0)] h
theorem l_keysIn.body (a0 : Value) (h : Heap) (Q : Value → Heap → Prop) (H : l_keysIn.sh a0 h Q) : l_keysIn.call #[a0] h Q := by
  refine callsH_of (args := [a0]) Try.func29 rfl rfl ?_
  unfold l_keysIn.sh at H
  refine WPc_seq' ?_
  refine W_region (by kernel_rfl) ?_
  refine vl_n ?_
  refine H_of_R (R_assign (v := (.slice none 0 0)) rfl ?_)
  refine vl_e ?_
  refine WPc_seq' ?_
  refine W_region (by kernel_rfl) ?_
  refine vl_n ?_
  refine H_of_R (R_assign (v := (.slice none 0 0)) rfl ?_)
  refine vl_e ?_
  refine WPc_seq (fun e h => l_keysIn.j1 (e 3) h Q) ?_ (fun e h H => ?_)
  rotate_left
  · unfold l_keysIn.j1 at H
    refine WPc_seq' ?_
    refine W_region (by kernel_rfl) ?_
    refine vl_n ?_
    refine H_of_R (R_move (v := (e 3)) rfl ?_)
    refine vl_n ?_
    refine H_of_R (R_assign (v := (e 3)) rfl ?_)
    refine vl_e ?_
    refine WPc_ret ?_
    refine resH_of rfl ?_
    exact H
  refine WPc_seq' ?_
  refine W_region (by kernel_rfl) ?_
  refine vl_n ?_
  refine H_of_R (R_move (v := a0) rfl ?_)
  refine vl_n ?_
  refine H_of_R (R_len Try.underlying27 H fun t7 H => ?_)
  refine vl_n ?_
  refine H_of_R (R_move (v := (.int .i64 0)) rfl ?_)
  refine vl_e ?_
  refine WPc_block ?_
  refine loop_at (fun e => [e 3, e 8]) (fun e => [e 6, e 7]) H rfl rfl ?_
  intro K1 e1 h H hin1
  replace H : l_keysIn.l2.b (e1 6) (e1 7) (e1 3) (e1 8) h K1 Q := H
  unfold l_keysIn.l2.b at H
  clear hin1
  refine WPc_seq' ?_
  refine W_region (by kernel_rfl) ?_
  refine vl_n ?_
  refine H_of_R (R_lss H fun t9 H => ?_)
  refine vl_e ?_
  refine WPc_seq (fun e h => l_keysIn.j3 (e 3) (e 6) (e 7) (e 8) h K1 Q ∧ [e1 6, e1 7] = [e 6, e 7]) ?_ (fun e h ⟨H, hq1⟩ => ?_)
  rotate_left
  · unfold l_keysIn.j3 at H
    refine WPc_seq (fun e h => l_keysIn.j4 (e 3) (e 6) (e 7) (e 8) h K1 Q ∧ [e1 6, e1 7] = [e 6, e 7]) ?_ (fun e h ⟨H, hq1⟩ => ?_)
    rotate_left
    · unfold l_keysIn.j4 at H
      refine W_region (by kernel_rfl) ?_
      refine vl_n ?_
      refine H_of_R (R_add H fun t17 H => ?_)
      refine vl_n ?_
      refine H_of_R (R_move (v := t17) rfl ?_)
      refine vl_e ?_
      exact ⟨H, hq1⟩
    refine WPc_block ?_
    refine WPc_seq' ?_
    refine W_region (by kernel_rfl) ?_
    refine vl_n ?_
    refine H_of_R (R_idx TE_27 H fun t10 H => ?_)
    refine vl_n ?_
    refine H_of_R (R_loadN TN_26 H fun _ t11 _ _ H _ _ => ?_)
    refine vl_n ?_
    refine H_alloc TV_26 H fun t5 h H => ?_
    refine vl_n ?_
    refine H_storeN TS_26 H fun h H => ?_
    refine vl_e ?_
    refine W_region (by kernel_rfl) ?_
    refine vl_n ?_
    refine H_of_R (R_move (v := (e 3)) rfl ?_)
    refine vl_n ?_
    refine H_of_R (R_fld TF_26_0 H fun t13 H => ?_)
    refine vl_n ?_
    refine H_of_R (R_load1 T1_9 H fun _ t14 _ _ H => ?_)
    refine vl_n ?_
    refine H_mkSl TZ_28 (by decide) rfl H rfl fun t15 h H => ?_
    refine vl_n ?_
    refine H_app TZ_28 TU_28 H fun t16 h H => ?_
    refine vl_n ?_
    refine H_of_R (R_assign (v := t16) rfl ?_)
    refine vl_e ?_
    exact ⟨H, hq1⟩
  obtain ⟨b, hc, H1, H2⟩ := H
  refine WPc_cond hc (fun hh => ?_) (fun hh => ?_)
  · have H := H1 hh; clear H1 H2
    refine WPc_skip ?_
    exact ⟨H, rfl⟩
  · have H := H2 hh; clear H1 H2
    refine WPc_exit ?_
    exact H
/-! ### spec.WAscend -/
def s_WAscend.sh (a0 : Value) (a1 : Value) (a2 : Value) (h : Heap) (Q : Value → Heap → Prop) : Prop :=
    s_Words.call #[a0] h fun t11 h =>
    s_spot.call #[t11, a1] h fun t15 h =>
    extr 0 t15 fun t16 =>
    extr 1 t15 fun t17 =>
    slc 2 t11 (some t16) none none fun t20 =>
    s_First_implWord.call #[t20, a2] h fun t22 h =>
    Q t22 h
theorem s_WAscend.body (a0 : Value) (a1 : Value) (a2 : Value) (h : Heap) (Q : Value → Heap → Prop) (H : s_WAscend.sh a0 a1 a2 h Q) : s_WAscend.call #[a0, a1, a2] h Q := by
  refine callsH_of (args := [a0, a1, a2]) Try.func30 rfl rfl ?_
  unfold s_WAscend.sh at H
  refine WPc_seq' ?_
  refine W_region (by kernel_rfl) ?_
  refine vl_n ?_
  refine H_of_R (R_assign (v := (.slice none 0 0)) rfl ?_)
  refine vl_e ?_
  refine WPc_seq' ?_
  refine W_region (by kernel_rfl) ?_
  refine vl_n ?_
  refine H_of_R (R_move (v := a0) rfl ?_)
  refine vl_n ?_
  refine H_call HB_65 H fun t11 h H => ?_
  refine vl_n ?_
  refine H_of_R (R_assign (v := t11) rfl ?_)
  refine vl_e ?_
  refine WPc_seq' ?_
  refine W_region (by kernel_rfl) ?_
  refine vl_n ?_
  refine H_of_R (R_move (v := t11) rfl ?_)
  refine vl_n ?_
  refine H_of_R (R_move (v := a1) rfl ?_)
  refine vl_n ?_
  refine H_call HB_72 H fun t15 h H => ?_
  refine vl_n ?_
  refine H_of_R (R_move (v := t15) rfl ?_)
  refine vl_n ?_
  refine H_of_R (R_ext H fun t16 H => ?_)
  refine vl_n ?_
  refine H_of_R (R_ext H fun t17 H => ?_)
  refine vl_n ?_
  refine H_of_R (R_assign (v := t16) rfl ?_)
  refine vl_n ?_
  refine H_of_R (R_assign (v := t17) rfl ?_)
  refine vl_e ?_
  refine WPc_seq' ?_
  refine W_region (by kernel_rfl) ?_
  refine vl_n ?_
  refine H_of_R (R_move (v := t11) rfl ?_)
  refine vl_n ?_
  refine H_of_R (R_move (v := t16) rfl ?_)
  refine vl_n ?_
  refine H_of_R (R_slice TE_27 (by decide) H fun t20 H => ?_)
  refine vl_n ?_
  refine H_of_R (R_move (v := a2) rfl ?_)
  refine vl_n ?_
  refine H_call HB_64 H fun t22 h H => ?_
  refine vl_n ?_
  refine H_of_R (R_assign (v := t22) rfl ?_)
  refine vl_e ?_
  refine WPc_ret ?_
  refine resH_of rfl ?_
  exact H
/-! ### laws.FnExactTAscend -/
def l_FnExactTAscend.j1 (s0 : Value) (s1 : Value) (s2 : Value) (h : Heap) (Q : Value → Heap → Prop) : Prop :=
    i_TAscend.call #[s0, s1, s2] h fun t18 h =>
    s_Named.call #[s0] h fun t20 h =>
    s_WAscend.call #[t20, s1, s2] h fun t23 h =>
    l_keysIn.call #[t23] h fun t24 h =>
    sl_Equal_ss.call #[t18, t24] h fun t25 h =>
    br t25 true (l_aliveT.call #[] h fun t27 h =>
    Q t27 h) (Q (.bool false) h)
def l_FnExactTAscend.sh (a0 : Value) (a1 : Value) (a2 : Value) (h : Heap) (Q : Value → Heap → Prop) : Prop :=
    l_zzFits13.call #[a0] h fun t8 h =>
    notV t8 fun t9 =>
    br t9 false (lenStr a1 fun t12 =>
    cmpI (fun a b => decide (a > b)) t12 (.int .i64 2147483647) fun t13 =>
    ifV t13
    (Q (.bool true) h)
    (l_FnExactTAscend.j1 a0 a1 a2 h Q)) (Q (.bool true) h)
theorem l_FnExactTAscend.body (a0 : Value) (a1 : Value) (a2 : Value) (h : Heap) (Q : Value → Heap → Prop) (H : l_FnExactTAscend.sh a0 a1 a2 h Q) : l_FnExactTAscend.call #[a0, a1, a2] h Q := by
  refine callsH_of (args := [a0, a1, a2]) Try.func7 rfl rfl ?_
  unfold l_FnExactTAscend.sh at H
  refine WPc_seq' ?_
  refine W_region (by kernel_rfl) ?_
  refine vl_n ?_
  refine H_of_R (R_assign (v := (.bool false)) rfl ?_)
  refine vl_e ?_
  refine WPc_seq (fun e h => l_FnExactTAscend.j1 (e 0) (e 1) (e 2) h Q) ?_ (fun e h H => ?_)
  rotate_left
  · unfold l_FnExactTAscend.j1 at H
    refine WPc_seq' ?_
    refine W_region (by kernel_rfl) ?_
    refine vl_n ?_
    refine H_of_R (R_move (v := (e 0)) rfl ?_)
    refine vl_n ?_
    refine H_of_R (R_move (v := (e 1)) rfl ?_)
    refine vl_n ?_
    refine H_of_R (R_move (v := (e 2)) rfl ?_)
    refine vl_n ?_
    refine H_call HB_28 H fun t18 h H => ?_
    refine vl_n ?_
    refine H_of_R (R_move (v := (e 0)) rfl ?_)
    refine vl_n ?_
    refine H_call HB_31 H fun t20 h H => ?_
    refine vl_n ?_
    refine H_of_R (R_move (v := (e 1)) rfl ?_)
    refine vl_n ?_
    refine H_of_R (R_move (v := (e 2)) rfl ?_)
    refine vl_n ?_
    refine H_call HB_30 H fun t23 h H => ?_
    refine vl_n ?_
    refine H_call HB_29 H fun t24 h H => ?_
    refine vl_n ?_
    refine H_call HB_24 H fun t25 h H => ?_
    refine vl_n ?_
    refine H_of_R (R_move (v := t25) rfl ?_)
    obtain ⟨b, hb, H1, H2⟩ := H
    cases b
    · have H := H2 rfl; clear H1 H2
      refine vl_s rfl (nbT hb) ?_
      refine vl_n ?_
      refine H_of_R (R_pickC (v := (.bool false)) false hb rfl ?_)
      refine vl_n ?_
      refine H_of_R (R_assign (v := (.bool false)) rfl ?_)
      refine vl_e ?_
      refine WPc_ret ?_
      refine resH_of rfl ?_
      exact H
    · have H := H1 rfl; clear H1 H2
      refine vl_y rfl hb ?_
      refine H_call HB_27 H fun t27 h H => ?_
      refine vl_n ?_
      refine H_of_R (R_pickC (v := t27) true hb rfl ?_)
      refine vl_n ?_
      refine H_of_R (R_assign (v := t27) rfl ?_)
      refine vl_e ?_
      refine WPc_ret ?_
      refine resH_of rfl ?_
      exact H
  refine WPc_seq' ?_
  refine W_region (by kernel_rfl) ?_
  refine vl_n ?_
  refine H_of_R (R_move (v := a0) rfl ?_)
  refine vl_n ?_
  refine H_call HB_22 H fun t8 h H => ?_
  refine vl_n ?_
  refine H_of_R (R_not H fun t9 H => ?_)
  refine vl_n ?_
  refine H_of_R (R_move (v := t9) rfl ?_)
  obtain ⟨b, hb, H1, H2⟩ := H
  cases b
  · have H := H1 rfl; clear H1 H2
    refine vl_y rfl hb ?_
    refine H_of_R (R_move (v := a1) rfl ?_)
    refine vl_y rfl hb ?_
    refine H_of_R (R_lenS Try.underlying9 H fun t12 H => ?_)
    refine vl_y rfl hb ?_
    refine H_of_R (R_gtr H fun t13 H => ?_)
    refine vl_n ?_
    refine H_of_R (R_pickC (v := t13) false hb rfl ?_)
    refine vl_e ?_
    obtain ⟨b_2, hc, H1, H2⟩ := H
    refine WPc_cond hc (fun hh => ?_) (fun hh => ?_)
    · have H := H1 hh; clear H1 H2
      refine WPc_seq' ?_
      refine W_region (by kernel_rfl) ?_
      refine vl_n ?_
      refine H_of_R (R_assign (v := (.bool true)) rfl ?_)
      refine vl_e ?_
      refine WPc_ret ?_
      refine resH_of rfl ?_
      exact H
    · have H := H2 hh; clear H1 H2
      refine WPc_skip ?_
      exact H
  · have H := H2 rfl; clear H1 H2
    refine vl_s rfl (nbF hb) ?_
    refine vl_s rfl (nbF hb) ?_
    refine vl_s rfl (nbF hb) ?_
    refine vl_n ?_
    refine H_of_R (R_pickC (v := (.bool true)) true hb rfl ?_)
    refine vl_e ?_
    refine WPc_cond (t := true) rfl (fun _ => ?_) (fun hh => by cases hh)
    refine WPc_seq' ?_
    refine W_region (by kernel_rfl) ?_
    refine vl_n ?_
    refine H_of_R (R_assign (v := (.bool true)) rfl ?_)
    refine vl_e ?_
    refine WPc_ret ?_
    refine resH_of rfl ?_
    exact H
/-! ### laws.FnTNext -/
def l_FnTNext.j2 (s0 : Value) (s1 : Value) (s5 : Value) (h : Heap) (Q : Value → Heap → Prop) : Prop :=
    catS s1 (.string ⟨#[0]⟩) fun t31 =>
    i_TAscend.call #[s0, t31, (.int .i64 0)] h fun t32 h =>
    sl_Equal_ss.call #[t32, s5] h fun t34 h =>
    br t34 true (l_aliveT.call #[] h fun t36 h =>
    Q t36 h) (Q (.bool false) h)
def l_FnTNext.j1 (s0 : Value) (s1 : Value) (h : Heap) (Q : Value → Heap → Prop) : Prop :=
    i_TAscend.call #[s0, s1, (.int .i64 0)] h fun t16 h =>
    lenV t16 fun t18 =>
    cmpI (fun a b => decide (a > b)) t18 (.int .i64 0) fun t19 =>
    br t19 true (idx 1 t16 (.int .i64 0) fun t22 =>
    load1 t22 h fun t23 =>
    cmpS (fun _ eq => eq) t23 s1 fun t25 =>
    ifV t25
    (slc 1 t16 (some (.int .i64 1)) none none fun t28 =>
    l_FnTNext.j2 s0 s1 t28 h Q)
    (l_FnTNext.j2 s0 s1 t16 h Q)) (l_FnTNext.j2 s0 s1 t16 h Q)
def l_FnTNext.sh (a0 : Value) (a1 : Value) (h : Heap) (Q : Value → Heap → Prop) : Prop :=
    l_zzFits13.call #[a0] h fun t7 h =>
    notV t7 fun t8 =>
    br t8 false (lenStr a1 fun t11 =>
    cmpI (fun a b => decide (a > b)) t11 (.int .i64 2147483647) fun t12 =>
    ifV t12
    (Q (.bool true) h)
    (l_FnTNext.j1 a0 a1 h Q)) (Q (.bool true) h)
theorem l_FnTNext.body (a0 : Value) (a1 : Value) (h : Heap) (Q : Value → Heap → Prop) (H : l_FnTNext.sh a0 a1 h Q) : l_FnTNext.call #[a0, a1] h Q := by
  refine callsH_of (args := [a0, a1]) Try.func8 rfl rfl ?_
  unfold l_FnTNext.sh at H
  refine WPc_seq' ?_
  refine W_region (by kernel_rfl) ?_
  refine vl_n ?_
  refine H_of_R (R_assign (v := (.bool false)) rfl ?_)
  refine vl_e ?_
  refine WPc_seq (fun e h => l_FnTNext.j1 (e 0) (e 1) h Q) ?_ (fun e h H => ?_)
  rotate_left
  · unfold l_FnTNext.j1 at H
    refine WPc_seq' ?_
    refine W_region (by kernel_rfl) ?_
    refine vl_n ?_
    refine H_of_R (R_move (v := (e 0)) rfl ?_)
    refine vl_n ?_
    refine H_of_R (R_move (v := (e 1)) rfl ?_)
    refine vl_n ?_
    refine H_call HB_28 H fun t16 h H => ?_
    refine vl_n ?_
    refine H_of_R (R_assign (v := t16) rfl ?_)
    refine vl_e ?_
    refine WPc_seq (fun e h => l_FnTNext.j2 (e 0) (e 1) (e 5) h Q) ?_ (fun e h H => ?_)
    rotate_left
    · unfold l_FnTNext.j2 at H
      refine WPc_seq' ?_
      refine W_region (by kernel_rfl) ?_
      refine vl_n ?_
      refine H_of_R (R_move (v := (e 0)) rfl ?_)
      refine vl_n ?_
      refine H_of_R (R_move (v := (e 1)) rfl ?_)
      refine vl_n ?_
      refine H_of_R (R_cat H fun t31 H => ?_)
      refine vl_n ?_
      refine H_call HB_28 H fun t32 h H => ?_
      refine vl_n ?_
      refine H_of_R (R_move (v := (e 5)) rfl ?_)
      refine vl_n ?_
      refine H_call HB_24 H fun t34 h H => ?_
      refine vl_n ?_
      refine H_of_R (R_move (v := t34) rfl ?_)
      obtain ⟨b, hb, H1, H2⟩ := H
      cases b
      · have H := H2 rfl; clear H1 H2
        refine vl_s rfl (nbT hb) ?_
        refine vl_n ?_
        refine H_of_R (R_pickC (v := (.bool false)) false hb rfl ?_)
        refine vl_n ?_
        refine H_of_R (R_assign (v := (.bool false)) rfl ?_)
        refine vl_e ?_
        refine WPc_ret ?_
        refine resH_of rfl ?_
        exact H
      · have H := H1 rfl; clear H1 H2
        refine vl_y rfl hb ?_
        refine H_call HB_27 H fun t36 h H => ?_
        refine vl_n ?_
        refine H_of_R (R_pickC (v := t36) true hb rfl ?_)
        refine vl_n ?_
        refine H_of_R (R_assign (v := t36) rfl ?_)
        refine vl_e ?_
        refine WPc_ret ?_
        refine resH_of rfl ?_
        exact H
    refine WPc_seq' ?_
    refine W_region (by kernel_rfl) ?_
    refine vl_n ?_
    refine H_of_R (R_move (v := t16) rfl ?_)
    refine vl_n ?_
    refine H_of_R (R_len Try.underlying28 H fun t18 H => ?_)
    refine vl_n ?_
    refine H_of_R (R_gtr H fun t19 H => ?_)
    refine vl_n ?_
    refine H_of_R (R_move (v := t19) rfl ?_)
    obtain ⟨b, hb, H1, H2⟩ := H
    cases b
    · have H := H2 rfl; clear H1 H2
      refine vl_s rfl (nbT hb) ?_
      refine vl_s rfl (nbT hb) ?_
      refine vl_s rfl (nbT hb) ?_
      refine vl_s rfl (nbT hb) ?_
      refine vl_s rfl (nbT hb) ?_
      refine vl_n ?_
      refine H_of_R (R_pickC (v := (.bool false)) false hb rfl ?_)
      refine vl_e ?_
      refine WPc_cond (t := false) rfl (fun hh => by cases hh) (fun _ => ?_)
      refine WPc_skip ?_
      exact H
    · have H := H1 rfl; clear H1 H2
      refine vl_y rfl hb ?_
      refine H_of_R (R_move (v := t16) rfl ?_)
      refine vl_y rfl hb ?_
      refine H_of_R (R_idx TE_28 H fun t22 H => ?_)
      refine vl_y rfl hb ?_
      refine H_of_R (R_load1 T1_9 H fun _ t23 _ _ H => ?_)
      refine vl_y rfl hb ?_
      refine H_of_R (R_move (v := (e 1)) rfl ?_)
      refine vl_y rfl hb ?_
      refine H_of_R (R_eqS H fun t25 H => ?_)
      refine vl_n ?_
      refine H_of_R (R_pickC (v := t25) true hb rfl ?_)
      refine vl_e ?_
      obtain ⟨b_2, hc, H1, H2⟩ := H
      refine WPc_cond hc (fun hh => ?_) (fun hh => ?_)
      · have H := H1 hh; clear H1 H2
        refine W_region (by kernel_rfl) ?_
        refine vl_n ?_
        refine H_of_R (R_move (v := t16) rfl ?_)
        refine vl_n ?_
        refine H_of_R (R_slice TE_28 (by decide) H fun t28 H => ?_)
        refine vl_n ?_
        refine H_of_R (R_assign (v := t28) rfl ?_)
        refine vl_e ?_
        exact H
      · have H := H2 hh; clear H1 H2
        refine WPc_skip ?_
        exact H
  refine WPc_seq' ?_
  refine W_region (by kernel_rfl) ?_
  refine vl_n ?_
  refine H_of_R (R_move (v := a0) rfl ?_)
  refine vl_n ?_
  refine H_call HB_22 H fun t7 h H => ?_
  refine vl_n ?_
  refine H_of_R (R_not H fun t8 H => ?_)
  refine vl_n ?_
  refine H_of_R (R_move (v := t8) rfl ?_)
  obtain ⟨b, hb, H1, H2⟩ := H
  cases b
  · have H := H1 rfl; clear H1 H2
    refine vl_y rfl hb ?_
    refine H_of_R (R_move (v := a1) rfl ?_)
    refine vl_y rfl hb ?_
    refine H_of_R (R_lenS Try.underlying9 H fun t11 H => ?_)
    refine vl_y rfl hb ?_
    refine H_of_R (R_gtr H fun t12 H => ?_)
    refine vl_n ?_
    refine H_of_R (R_pickC (v := t12) false hb rfl ?_)
    refine vl_e ?_
    obtain ⟨b_2, hc, H1, H2⟩ := H
    refine WPc_cond hc (fun hh => ?_) (fun hh => ?_)
    · have H := H1 hh; clear H1 H2
      refine WPc_seq' ?_
      refine W_region (by kernel_rfl) ?_
      refine vl_n ?_
      refine H_of_R (R_assign (v := (.bool true)) rfl ?_)
      refine vl_e ?_
      refine WPc_ret ?_
      refine resH_of rfl ?_
      exact H
    · have H := H2 hh; clear H1 H2
      refine WPc_skip ?_
      exact H
  · have H := H2 rfl; clear H1 H2
    refine vl_s rfl (nbF hb) ?_
    refine vl_s rfl (nbF hb) ?_
    refine vl_s rfl (nbF hb) ?_
    refine vl_n ?_
    refine H_of_R (R_pickC (v := (.bool true)) true hb rfl ?_)
    refine vl_e ?_
    refine WPc_cond (t := true) rfl (fun _ => ?_) (fun hh => by cases hh)
    refine WPc_seq' ?_
    refine W_region (by kernel_rfl) ?_
    refine vl_n ?_
    refine H_of_R (R_assign (v := (.bool true)) rfl ?_)
    refine vl_e ?_
    refine WPc_ret ?_
    refine resH_of rfl ?_
    exact H

end Go.Proofs.Ytoinihchhngcpaa
