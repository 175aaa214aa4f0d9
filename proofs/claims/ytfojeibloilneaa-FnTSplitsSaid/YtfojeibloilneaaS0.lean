/-
  Shallow forms of the walked functions, and that each call comes to its form. Written by a program of this repo (gen.py). Conditions: none.
-/
import Derived.Test.YtfojeibloilneaaST
namespace Go.Proofs.Ytfojeibloilneaa
open Go.Hp
set_option maxRecDepth 100000
set_option maxHeartbeats 8000000
set_option linter.unusedVariables false
set_option linter.unusedSimpArgs false

/-! ### laws.zzFits13 -/
def l_zzFits13.j2 (h : Heap) (Q : Value → Heap → Prop) : Prop :=
    Q (.bool true) h
def l_zzFits13.j5 (s8 : Value) (s9 : Value) (s10 : Value) (h : Heap) (K1 : List Value → Heap → Prop) (Q : Value → Heap → Prop) : Prop :=
    arith (· + ·) s10 (.int .i64 1) fun t17 =>
    K1 [t17] h
def l_zzFits13.j4 (s8 : Value) (s9 : Value) (s10 : Value) (h : Heap) (K1 : List Value → Heap → Prop) (Q : Value → Heap → Prop) : Prop :=
    idx 1 s8 s10 fun t12 =>
    load1 t12 h fun t13 =>
    lenStr t13 fun t15 =>
    cmpI (fun a b => decide (a > b)) t15 (.int .i64 2147483647) fun t16 =>
    ifV t16
    (Q (.bool false) h)
    (l_zzFits13.j5 s8 s9 s10 h K1 Q)
def l_zzFits13.l3.b (c8 : Value) (c9 : Value) (s10 : Value) (h : Heap) (K1 : List Value → Heap → Prop) (Q : Value → Heap → Prop) : Prop :=
    cmpI (fun a b => decide (a < b)) s10 c9 fun t11 =>
    ifV t11
    (l_zzFits13.j4 c8 c9 s10 h K1 Q)
    (l_zzFits13.j2 h Q)
def l_zzFits13.j1 (s0 : Value) (h : Heap) (Q : Value → Heap → Prop) : Prop :=
    lenV s0 fun t9 =>
    loopC (fun c s h K1 => l_zzFits13.l3.b (c.getD 0 undef) (c.getD 1 undef) (s.getD 0 undef) h K1 Q) [s0, t9] [(.int .i64 0)] h
def l_zzFits13.sh (a0 : Value) (h : Heap) (Q : Value → Heap → Prop) : Prop :=
    lenV a0 fun t6 =>
    cmpI (fun a b => decide (a > b)) t6 (.int .i64 2147483647) fun t7 =>
    ifV t7
    (Q (.bool false) h)
    (l_zzFits13.j1 a0 h Q)
theorem l_zzFits13.body (a0 : Value) (h : Heap) (Q : Value → Heap → Prop) (H : l_zzFits13.sh a0 h Q) : l_zzFits13.call #[a0] h Q := by
  refine callsH_of (args := [a0]) Try.func9 rfl rfl ?_
  unfold l_zzFits13.sh at H
  refine WPc_seq' ?_
  refine W_region (by kernel_rfl) ?_
  refine vl_n ?_
  refine H_of_R (R_assign (v := (.bool false)) rfl ?_)
  refine vl_e ?_
  refine WPc_seq (fun e h => l_zzFits13.j1 (e 0) h Q) ?_ (fun e h H => ?_)
  rotate_left
  · unfold l_zzFits13.j1 at H
    refine WPc_seq (fun e h => l_zzFits13.j2 h Q) ?_ (fun e h H => ?_)
    rotate_left
    · unfold l_zzFits13.j2 at H
      refine WPc_seq' ?_
      refine W_region (by kernel_rfl) ?_
      refine vl_n ?_
      refine H_of_R (R_assign (v := (.bool true)) rfl ?_)
      refine vl_e ?_
      refine WPc_ret ?_
      refine resH_of rfl ?_
      exact H
    refine WPc_seq' ?_
    refine W_region (by kernel_rfl) ?_
    refine vl_n ?_
    refine H_of_R (R_move (v := (e 0)) rfl ?_)
    refine vl_n ?_
    refine H_of_R (R_len Try.underlying22 H fun t9 H => ?_)
    refine vl_n ?_
    refine H_of_R (R_move (v := (.int .i64 0)) rfl ?_)
    refine vl_e ?_
    refine WPc_block ?_
    refine loop_at (fun e => [e 10]) (fun e => [e 8, e 9]) H rfl rfl ?_
    intro K1 e1 h H hin1
    replace H : l_zzFits13.l3.b (e1 8) (e1 9) (e1 10) h K1 Q := H
    unfold l_zzFits13.l3.b at H
    clear hin1
    refine WPc_seq' ?_
    refine W_region (by kernel_rfl) ?_
    refine vl_n ?_
    refine H_of_R (R_lss H fun t11 H => ?_)
    refine vl_e ?_
    refine WPc_seq (fun e h => l_zzFits13.j4 (e 8) (e 9) (e 10) h K1 Q ∧ [e1 8, e1 9] = [e 8, e 9]) ?_ (fun e h ⟨H, hq1⟩ => ?_)
    rotate_left
    · unfold l_zzFits13.j4 at H
      refine WPc_seq (fun e h => l_zzFits13.j5 (e 8) (e 9) (e 10) h K1 Q ∧ [e1 8, e1 9] = [e 8, e 9]) ?_ (fun e h ⟨H, hq1⟩ => ?_)
      rotate_left
      · unfold l_zzFits13.j5 at H
        refine W_region (by kernel_rfl) ?_
        refine vl_n ?_
        refine H_of_R (R_add H fun t17 H => ?_)
        refine vl_n ?_
        refine H_of_R (R_move (v := t17) rfl ?_)
        refine vl_e ?_
        exact ⟨H, hq1⟩
      refine WPc_block ?_
      refine WPc_seq' ?_
      refine W_region (by kernel_rfl) ?_
      refine vl_n ?_
      refine H_of_R (R_idx TE_22 H fun t12 H => ?_)
      refine vl_n ?_
      refine H_of_R (R_load1 T1_9 H fun _ t13 _ _ H => ?_)
      refine vl_n ?_
      refine H_of_R (R_assign (v := t13) rfl ?_)
      refine vl_e ?_
      refine WPc_seq' ?_
      refine W_region (by kernel_rfl) ?_
      refine vl_n ?_
      refine H_of_R (R_move (v := t13) rfl ?_)
      refine vl_n ?_
      refine H_of_R (R_lenS Try.underlying9 H fun t15 H => ?_)
      refine vl_n ?_
      refine H_of_R (R_gtr H fun t16 H => ?_)
      refine vl_e ?_
      obtain ⟨b, hc, H1, H2⟩ := H
      refine WPc_cond hc (fun hh => ?_) (fun hh => ?_)
      · have H := H1 hh; clear H1 H2
        refine WPc_seq' ?_
        refine W_region (by kernel_rfl) ?_
        refine vl_n ?_
        refine H_of_R (R_assign (v := (.bool false)) rfl ?_)
        refine vl_e ?_
        refine WPc_ret ?_
        refine resH_of rfl ?_
        exact H
      · have H := H2 hh; clear H1 H2
        refine WPc_skip ?_
        exact ⟨H, hq1⟩
    obtain ⟨b, hc, H1, H2⟩ := H
    refine WPc_cond hc (fun hh => ?_) (fun hh => ?_)
    · have H := H1 hh; clear H1 H2
      refine WPc_skip ?_
      exact ⟨H, rfl⟩
    · have H := H2 hh; clear H1 H2
      refine WPc_exit ?_
      exact H
  refine WPc_seq' ?_
  refine W_region (by kernel_rfl) ?_
  refine vl_n ?_
  refine H_of_R (R_move (v := a0) rfl ?_)
  refine vl_n ?_
  refine H_of_R (R_len Try.underlying22 H fun t6 H => ?_)
  refine vl_n ?_
  refine H_of_R (R_gtr H fun t7 H => ?_)
  refine vl_e ?_
  obtain ⟨b, hc, H1, H2⟩ := H
  refine WPc_cond hc (fun hh => ?_) (fun hh => ?_)
  · have H := H1 hh; clear H1 H2
    refine WPc_seq' ?_
    refine W_region (by kernel_rfl) ?_
    refine vl_n ?_
    refine H_of_R (R_assign (v := (.bool false)) rfl ?_)
    refine vl_e ?_
    refine WPc_ret ?_
    refine resH_of rfl ?_
    exact H
  · have H := H2 hh; clear H1 H2
    refine WPc_skip ?_
    exact H
/-! ### pub/tidwallbtree.degreeToMinMax -/
def degreeToMinMax.j1 (s0 : Value) (h : Heap) (Q : Value → Heap → Prop) : Prop :=
    arith (· * ·) s0 (.int .i64 2) fun t9 =>
    arith (· - ·) t9 (.int .i64 1) fun t10 =>
    divi t10 (.int .i64 2) fun t12 =>
    Q (.tuple #[t12, t10]) h
def degreeToMinMax.sh (a0 : Value) (h : Heap) (Q : Value → Heap → Prop) : Prop :=
    cmpI (fun a b => decide (a ≤ b)) a0 (.int .i64 0) fun t5 =>
    ifV t5
    (degreeToMinMax.j1 (.int .i64 32) h Q)
    (cmpI (fun a b => a == b) a0 (.int .i64 1) fun t7 =>
    ifV t7
    (degreeToMinMax.j1 (.int .i64 2) h Q)
    (degreeToMinMax.j1 a0 h Q))
theorem degreeToMinMax.body (a0 : Value) (h : Heap) (Q : Value → Heap → Prop) (H : degreeToMinMax.sh a0 h Q) : degreeToMinMax.call #[a0] h Q := by
  refine callsH_of (args := [a0]) Try.func66 rfl rfl ?_
  unfold degreeToMinMax.sh at H
  refine WPc_seq' ?_
  refine W_region (by kernel_rfl) ?_
  refine vl_n ?_
  refine H_of_R (R_assign (v := (.int .i64 0)) rfl ?_)
  refine vl_n ?_
  refine H_of_R (R_assign (v := (.int .i64 0)) rfl ?_)
  refine vl_e ?_
  refine WPc_seq (fun e h => degreeToMinMax.j1 (e 0) h Q) ?_ (fun e h H => ?_)
  rotate_left
  · unfold degreeToMinMax.j1 at H
    refine WPc_seq' ?_
    refine W_region (by kernel_rfl) ?_
    refine vl_n ?_
    refine H_of_R (R_move (v := (e 0)) rfl ?_)
    refine vl_n ?_
    refine H_of_R (R_mul H fun t9 H => ?_)
    refine vl_n ?_
    refine H_of_R (R_sub H fun t10 H => ?_)
    refine vl_n ?_
    refine H_of_R (R_assign (v := t10) rfl ?_)
    refine vl_e ?_
    refine WPc_seq' ?_
    refine W_region (by kernel_rfl) ?_
    refine vl_n ?_
    refine H_of_R (R_move (v := t10) rfl ?_)
    refine vl_n ?_
    refine H_of_R (R_quo H fun t12 H => ?_)
    refine vl_n ?_
    refine H_of_R (R_assign (v := t12) rfl ?_)
    refine vl_e ?_
    refine WPc_seq' ?_
    refine W_region (by kernel_rfl) ?_
    refine vl_n ?_
    refine H_of_R (R_move (v := t12) rfl ?_)
    refine vl_n ?_
    refine H_of_R (R_move (v := t10) rfl ?_)
    refine vl_n ?_
    refine H_of_R (R_assign (v := t12) rfl ?_)
    refine vl_n ?_
    refine H_of_R (R_assign (v := t10) rfl ?_)
    refine vl_e ?_
    refine WPc_ret ?_
    refine resH_of rfl ?_
    exact H
  refine WPc_seq' ?_
  refine W_region (by kernel_rfl) ?_
  refine vl_n ?_
  refine H_of_R (R_move (v := a0) rfl ?_)
  refine vl_n ?_
  refine H_of_R (R_leq H fun t5 H => ?_)
  refine vl_e ?_
  obtain ⟨b, hc, H1, H2⟩ := H
  refine WPc_cond hc (fun hh => ?_) (fun hh => ?_)
  · have H := H1 hh; clear H1 H2
    refine W_region (by kernel_rfl) ?_
    refine vl_n ?_
    refine H_of_R (R_assign (v := (.int .i64 32)) rfl ?_)
    refine vl_e ?_
    exact H
  · have H := H2 hh; clear H1 H2
    refine WPc_seq' ?_
    refine W_region (by kernel_rfl) ?_
    refine vl_n ?_
    refine H_of_R (R_move (v := a0) rfl ?_)
    refine vl_n ?_
    refine H_of_R (R_eqI H fun t7 H => ?_)
    refine vl_e ?_
    obtain ⟨b_2, hc_2, H1, H2⟩ := H
    refine WPc_cond hc_2 (fun hh => ?_) (fun hh => ?_)
    · have H := H1 hh; clear H1 H2
      refine W_region (by kernel_rfl) ?_
      refine vl_n ?_
      refine H_of_R (R_assign (v := (.int .i64 2)) rfl ?_)
      refine vl_e ?_
      exact H
    · have H := H2 hh; clear H1 H2
      refine WPc_skip ?_
      exact H
/-! ### (*pub/tidwallbtree.Map[string, struct{}]).init -/
def Map_su_init.j1 (s0 : Value) (s1 : Value) (h : Heap) (Q : Value → Heap → Prop) : Prop :=
    degreeToMinMax.call #[s1] h fun t13 h =>
    extr 0 t13 fun t14 =>
    extr 1 t13 fun t15 =>
    nilck s0 fun t16 =>
    fld 5 t16 fun t17 =>
    store1 t17 t14 h fun h =>
    nilck s0 fun t18 =>
    fld 6 t18 fun t19 =>
    store1 t19 t15 h fun h =>
    nilck s0 fun t23 =>
    fld 4 t23 fun t24 =>
    fldZ Try.prog 0 t24 h fun t25 =>
    loadN 0 t25 h fun t26 =>
    extr 0 (.tuple #[.nilIface, .bool false]) fun t29 =>
    extr 1 (.tuple #[.nilIface, .bool false]) fun t30 =>
    nilck s0 fun t31 =>
    fld 7 t31 fun t32 =>
    store1 t32 t30 h fun h =>
    nilck s0 fun t34 =>
    fld 7 t34 fun t35 =>
    load1 t35 h fun t36 =>
    notV t36 fun t37 =>
    ifV t37
    (nilck s0 fun t41 =>
    fld 4 t41 fun t42 =>
    fldZ Try.prog 0 t42 h fun t43 =>
    loadN 0 t43 h fun t44 =>
    extr 0 (.tuple #[.nilIface, .bool false]) fun t47 =>
    extr 1 (.tuple #[.nilIface, .bool false]) fun t48 =>
    nilck s0 fun t49 =>
    fld 8 t49 fun t50 =>
    store1 t50 t48 h fun h =>
    Q (.tuple #[]) h)
    (Q (.tuple #[]) h)
def Map_su_init.sh (a0 : Value) (a1 : Value) (h : Heap) (Q : Value → Heap → Prop) : Prop :=
    nilck a0 fun t5 =>
    fld 5 t5 fun t6 =>
    load1 t6 h fun t7 =>
    cmpI (fun a b => a != b) t7 (.int .i64 0) fun t8 =>
    ifV t8
    (Q (.tuple #[]) h)
    (Map_su_init.j1 a0 a1 h Q)
theorem Map_su_init.body (a0 : Value) (a1 : Value) (h : Heap) (Q : Value → Heap → Prop) (H : Map_su_init.sh a0 a1 h Q) : Map_su_init.call #[a0, a1] h Q := by
  refine callsH_of (args := [a0, a1]) Try.func54 rfl rfl ?_
  unfold Map_su_init.sh at H
  refine WPc_seq (fun e h => Map_su_init.j1 (e 0) (e 1) h Q) ?_ (fun e h H => ?_)
  rotate_left
  · unfold Map_su_init.j1 at H
    refine WPc_seq' ?_
    refine W_region (by kernel_rfl) ?_
    refine vl_n ?_
    refine H_of_R (R_move (v := (e 0)) rfl ?_)
    refine vl_n ?_
    refine H_of_R (R_move (v := (e 0)) rfl ?_)
    refine vl_n ?_
    refine H_of_R (R_move (v := (e 1)) rfl ?_)
    refine vl_n ?_
    refine H_call HB_66 H fun t13 h H => ?_
    refine vl_n ?_
    refine H_of_R (R_move (v := t13) rfl ?_)
    refine vl_n ?_
    refine H_of_R (R_ext H fun t14 H => ?_)
    refine vl_n ?_
    refine H_of_R (R_ext H fun t15 H => ?_)
    refine vl_n ?_
    refine H_of_R (R_nil H fun t16 H => ?_)
    refine vl_n ?_
    refine H_of_R (R_fld TF_63_5 H fun t17 H => ?_)
    refine vl_n ?_
    refine H_store1 TS_3 H fun h H => ?_
    refine vl_n ?_
    refine H_of_R (R_nil H fun t18 H => ?_)
    refine vl_n ?_
    refine H_of_R (R_fld TF_63_6 H fun t19 H => ?_)
    refine vl_n ?_
    refine H_store1 TS_3 H fun h H => ?_
    refine vl_e ?_
    refine WPc_seq' ?_
    refine W_region (by kernel_rfl) ?_
    refine vl_n ?_
    refine H_of_R (R_move (v := (e 0)) rfl ?_)
    refine vl_n ?_
    refine H_of_R (R_move (v := (e 0)) rfl ?_)
    refine vl_n ?_
    refine H_of_R (R_nil H fun t23 H => ?_)
    refine vl_n ?_
    refine H_of_R (R_fld TF_63_4 H fun t24 H => ?_)
    refine vl_n ?_
    refine H_of_R (R_fldZ TFZ_61_0 H fun t25 H _ => ?_)
    refine vl_n ?_
    refine H_of_R (R_loadN TN_59 H fun _ t26 _ _ H _ _ => ?_)
    refine vl_n ?_
    refine H_of_R (R_mkI Try.underlying59 (by intro k hk; cases hk) ?_)
    refine vl_n ?_
    refine H_of_R (R_ta (t := 59) Try.underlying95 Try.type59 (missing_some rfl) Try.type95 rfl rfl ?_)
    refine vl_n ?_
    refine H_of_R (R_move (v := (.tuple #[.nilIface, .bool false])) rfl ?_)
    refine vl_n ?_
    refine H_of_R (R_ext H fun t29 H => ?_)
    refine vl_n ?_
    refine H_of_R (R_ext H fun t30 H => ?_)
    refine vl_n ?_
    refine H_of_R (R_nil H fun t31 H => ?_)
    refine vl_n ?_
    refine H_of_R (R_fld TF_63_7 H fun t32 H => ?_)
    refine vl_n ?_
    refine H_store1 TS_4 H fun h H => ?_
    refine vl_e ?_
    refine WPc_seq' ?_
    refine W_region (by kernel_rfl) ?_
    refine vl_n ?_
    refine H_of_R (R_move (v := (e 0)) rfl ?_)
    refine vl_n ?_
    refine H_of_R (R_nil H fun t34 H => ?_)
    refine vl_n ?_
    refine H_of_R (R_fld TF_63_7 H fun t35 H => ?_)
    refine vl_n ?_
    refine H_of_R (R_load1 T1_4 H fun _ t36 _ _ H => ?_)
    refine vl_n ?_
    refine H_of_R (R_not H fun t37 H => ?_)
    refine vl_e ?_
    obtain ⟨b, hc, H1, H2⟩ := H
    refine WPc_cond hc (fun hh => ?_) (fun hh => ?_)
    · have H := H1 hh; clear H1 H2
      refine W_region (by kernel_rfl) ?_
      refine vl_n ?_
      refine H_of_R (R_move (v := (e 0)) rfl ?_)
      refine vl_n ?_
      refine H_of_R (R_move (v := (e 0)) rfl ?_)
      refine vl_n ?_
      refine H_of_R (R_nil H fun t41 H => ?_)
      refine vl_n ?_
      refine H_of_R (R_fld TF_63_4 H fun t42 H => ?_)
      refine vl_n ?_
      refine H_of_R (R_fldZ TFZ_61_0 H fun t43 H _ => ?_)
      refine vl_n ?_
      refine H_of_R (R_loadN TN_59 H fun _ t44 _ _ H _ _ => ?_)
      refine vl_n ?_
      refine H_of_R (R_mkI Try.underlying59 (by intro k hk; cases hk) ?_)
      refine vl_n ?_
      refine H_of_R (R_ta (t := 59) Try.underlying98 Try.type59 (missing_some rfl) Try.type98 rfl rfl ?_)
      refine vl_n ?_
      refine H_of_R (R_move (v := (.tuple #[.nilIface, .bool false])) rfl ?_)
      refine vl_n ?_
      refine H_of_R (R_ext H fun t47 H => ?_)
      refine vl_n ?_
      refine H_of_R (R_ext H fun t48 H => ?_)
      refine vl_n ?_
      refine H_of_R (R_nil H fun t49 H => ?_)
      refine vl_n ?_
      refine H_of_R (R_fld TF_63_8 H fun t50 H => ?_)
      refine vl_n ?_
      refine H_store1 TS_4 H fun h H => ?_
      refine vl_e ?_
      refine resH_of rfl ?_
      exact H
    · have H := H2 hh; clear H1 H2
      refine WPc_skip ?_
      refine resH_of rfl ?_
      exact H
  refine WPc_seq' ?_
  refine W_region (by kernel_rfl) ?_
  refine vl_n ?_
  refine H_of_R (R_move (v := a0) rfl ?_)
  refine vl_n ?_
  refine H_of_R (R_nil H fun t5 H => ?_)
  refine vl_n ?_
  refine H_of_R (R_fld TF_63_5 H fun t6 H => ?_)
  refine vl_n ?_
  refine H_of_R (R_load1 T1_3 H fun _ t7 _ _ H => ?_)
  refine vl_n ?_
  refine H_of_R (R_neI H fun t8 H => ?_)
  refine vl_e ?_
  obtain ⟨b, hc, H1, H2⟩ := H
  refine WPc_cond hc (fun hh => ?_) (fun hh => ?_)
  · have H := H1 hh; clear H1 H2
    refine WPc_ret ?_
    refine resH_of rfl ?_
    exact H
  · have H := H2 hh; clear H1 H2
    refine WPc_skip ?_
    exact H
/-! ### (*pub/tidwallbtree.Map[string, struct{}]).newNode -/
def Map_su_newNode.j1 (s5 : Value) (h : Heap) (Q : Value → Heap → Prop) : Prop :=
    Q s5 h
def Map_su_newNode.sh (a0 : Value) (a1 : Value) (h : Heap) (Q : Value → Heap → Prop) : Prop :=
    alloc [(.int .u64 0), (.int .i64 0), (.slice none 0 0), (.pointer none)] 82 h fun t6 h =>
    nilck a0 fun t9 =>
    fld 0 t9 fun t10 =>
    load1 t10 h fun t11 =>
    nilck t6 fun t12 =>
    fld 0 t12 fun t13 =>
    store1 t13 t11 h fun h =>
    notV a1 fun t15 =>
    ifV t15
    (alloc [(.slice none 0 0)] 88 h fun t17 h =>
    nilck t6 fun t18 =>
    fld 3 t18 fun t19 =>
    store1 t19 t17 h fun h =>
    Map_su_newNode.j1 t6 h Q)
    (Map_su_newNode.j1 t6 h Q)
theorem Map_su_newNode.body (a0 : Value) (a1 : Value) (h : Heap) (Q : Value → Heap → Prop) (H : Map_su_newNode.sh a0 a1 h Q) : Map_su_newNode.call #[a0, a1] h Q := by
  refine callsH_of (args := [a0, a1]) Try.func55 rfl rfl ?_
  unfold Map_su_newNode.sh at H
  refine WPc_seq' ?_
  refine W_region (by kernel_rfl) ?_
  refine vl_n ?_
  refine H_of_R (R_assign (v := (.pointer none)) rfl ?_)
  refine vl_e ?_
  refine WPc_seq' ?_
  refine W_region (by kernel_rfl) ?_
  refine vl_n ?_
  refine H_alloc TV_82 H fun t6 h H => ?_
  refine vl_n ?_
  refine H_of_R (R_assign (v := t6) rfl ?_)
  refine vl_e ?_
  refine WPc_seq' ?_
  refine W_region (by kernel_rfl) ?_
  refine vl_n ?_
  refine H_of_R (R_move (v := t6) rfl ?_)
  refine vl_n ?_
  refine H_of_R (R_move (v := a0) rfl ?_)
  refine vl_n ?_
  refine H_of_R (R_nil H fun t9 H => ?_)
  refine vl_n ?_
  refine H_of_R (R_fld TF_63_0 H fun t10 H => ?_)
  refine vl_n ?_
  refine H_of_R (R_load1 T1_56 H fun _ t11 _ _ H => ?_)
  refine vl_n ?_
  refine H_of_R (R_nil H fun t12 H => ?_)
  refine vl_n ?_
  refine H_of_R (R_fld TF_82_0 H fun t13 H => ?_)
  refine vl_n ?_
  refine H_store1 TS_56 H fun h H => ?_
  refine vl_e ?_
  refine WPc_seq (fun e h => Map_su_newNode.j1 (e 5) h Q) ?_ (fun e h H => ?_)
  rotate_left
  · unfold Map_su_newNode.j1 at H
    refine WPc_seq' ?_
    refine W_region (by kernel_rfl) ?_
    refine vl_n ?_
    refine H_of_R (R_move (v := (e 5)) rfl ?_)
    refine vl_n ?_
    refine H_of_R (R_assign (v := (e 5)) rfl ?_)
    refine vl_e ?_
    refine WPc_ret ?_
    refine resH_of rfl ?_
    exact H
  refine WPc_seq' ?_
  refine W_region (by kernel_rfl) ?_
  refine vl_n ?_
  refine H_of_R (R_move (v := a1) rfl ?_)
  refine vl_n ?_
  refine H_of_R (R_not H fun t15 H => ?_)
  refine vl_e ?_
  obtain ⟨b, hc, H1, H2⟩ := H
  refine WPc_cond hc (fun hh => ?_) (fun hh => ?_)
  · have H := H1 hh; clear H1 H2
    refine W_region (by kernel_rfl) ?_
    refine vl_n ?_
    refine H_of_R (R_move (v := t6) rfl ?_)
    refine vl_n ?_
    refine H_alloc TV_88 H fun t17 h H => ?_
    refine vl_n ?_
    refine H_of_R (R_nil H fun t18 H => ?_)
    refine vl_n ?_
    refine H_of_R (R_fld TF_82_3 H fun t19 H => ?_)
    refine vl_n ?_
    refine H_store1 TS_80 H fun h H => ?_
    refine vl_e ?_
    exact H
  · have H := H2 hh; clear H1 H2
    refine WPc_skip ?_
    exact H
/-! ### (*pub/tidwallbtree.mapNode[string, struct{}]).leaf -/
def mapNode_su_leaf.sh (a0 : Value) (h : Heap) (Q : Value → Heap → Prop) : Prop :=
    nilck a0 fun t4 =>
    fld 3 t4 fun t5 =>
    load1 t5 h fun t6 =>
    eqNilP t6 fun t7 =>
    Q t7 h
theorem mapNode_su_leaf.body (a0 : Value) (h : Heap) (Q : Value → Heap → Prop) (H : mapNode_su_leaf.sh a0 h Q) : mapNode_su_leaf.call #[a0] h Q := by
  refine callsH_of (args := [a0]) Try.func63 rfl rfl ?_
  unfold mapNode_su_leaf.sh at H
  refine WPc_seq' ?_
  refine W_region (by kernel_rfl) ?_
  refine vl_n ?_
  refine H_of_R (R_assign (v := (.bool false)) rfl ?_)
  refine vl_e ?_
  refine WPc_seq' ?_
  refine W_region (by kernel_rfl) ?_
  refine vl_n ?_
  refine H_of_R (R_move (v := a0) rfl ?_)
  refine vl_n ?_
  refine H_of_R (R_nil H fun t4 H => ?_)
  refine vl_n ?_
  refine H_of_R (R_fld TF_82_3 H fun t5 H => ?_)
  refine vl_n ?_
  refine H_of_R (R_load1 T1_80 H fun _ t6 _ _ H => ?_)
  refine vl_n ?_
  refine H_of_R (R_eqNilP Try.underlying80 rfl H fun t7 H => ?_)
  refine vl_n ?_
  refine H_of_R (R_assign (v := t7) rfl ?_)
  refine vl_e ?_
  refine WPc_ret ?_
  refine resH_of rfl ?_
  exact H
/-! ### (*pub/tidwallbtree.mapNode[string, struct{}]).updateCount -/
def mapNode_su_updateCount.j3 (s0 : Value) (s2 : Value) (h : Heap) (K1 : List Value → Heap → Prop) (Q : Value → Heap → Prop) : Prop :=
    arith (· + ·) s2 (.int .i64 1) fun t24 =>
    K1 [t24] h
def mapNode_su_updateCount.j2 (s0 : Value) (s2 : Value) (h : Heap) (K1 : List Value → Heap → Prop) (Q : Value → Heap → Prop) : Prop :=
    nilck s0 fun t26 =>
    fld 1 t26 fun t27 =>
    load1 t27 h fun t28 =>
    nilck s0 fun t30 =>
    fld 3 t30 fun t31 =>
    load1 t31 h fun t32 =>
    nilck t32 fun t33 =>
    load1 t33 h fun t34 =>
    idx 1 t34 s2 fun t36 =>
    load1 t36 h fun t37 =>
    nilck t37 fun t38 =>
    fld 1 t38 fun t39 =>
    load1 t39 h fun t40 =>
    arith (· + ·) t28 t40 fun t41 =>
    nilck s0 fun t42 =>
    fld 1 t42 fun t43 =>
    store1 t43 t41 h fun h =>
    mapNode_su_updateCount.j3 s0 s2 h K1 Q
def mapNode_su_updateCount.l1.b (c0 : Value) (s2 : Value) (h : Heap) (K1 : List Value → Heap → Prop) (Q : Value → Heap → Prop) : Prop :=
    nilck c0 fun t16 =>
    fld 3 t16 fun t17 =>
    load1 t17 h fun t18 =>
    nilck t18 fun t19 =>
    load1 t19 h fun t20 =>
    lenV t20 fun t21 =>
    cmpI (fun a b => decide (a < b)) s2 t21 fun t22 =>
    ifV t22
    (mapNode_su_updateCount.j2 c0 s2 h K1 Q)
    (Q (.tuple #[]) h)
def mapNode_su_updateCount.sh (a0 : Value) (h : Heap) (Q : Value → Heap → Prop) : Prop :=
    nilck a0 fun t5 =>
    fld 2 t5 fun t6 =>
    load1 t6 h fun t7 =>
    lenV t7 fun t8 =>
    nilck a0 fun t9 =>
    fld 1 t9 fun t10 =>
    store1 t10 t8 h fun h =>
    mapNode_su_leaf.call #[a0] h fun t12 h =>
    notV t12 fun t13 =>
    ifV t13
    (loopC (fun c s h K1 => mapNode_su_updateCount.l1.b (c.getD 0 undef) (s.getD 0 undef) h K1 Q) [a0] [(.int .i64 0)] h)
    (Q (.tuple #[]) h)
theorem mapNode_su_updateCount.body (a0 : Value) (h : Heap) (Q : Value → Heap → Prop) (H : mapNode_su_updateCount.sh a0 h Q) : mapNode_su_updateCount.call #[a0] h Q := by
  refine callsH_of (args := [a0]) Try.func58 rfl rfl ?_
  unfold mapNode_su_updateCount.sh at H
  refine WPc_seq' ?_
  refine W_region (by kernel_rfl) ?_
  refine vl_n ?_
  refine H_of_R (R_move (v := a0) rfl ?_)
  refine vl_n ?_
  refine H_of_R (R_move (v := a0) rfl ?_)
  refine vl_n ?_
  refine H_of_R (R_nil H fun t5 H => ?_)
  refine vl_n ?_
  refine H_of_R (R_fld TF_82_2 H fun t6 H => ?_)
  refine vl_n ?_
  refine H_of_R (R_load1 T1_79 H fun _ t7 _ _ H => ?_)
  refine vl_n ?_
  refine H_of_R (R_len Try.underlying79 H fun t8 H => ?_)
  refine vl_n ?_
  refine H_of_R (R_nil H fun t9 H => ?_)
  refine vl_n ?_
  refine H_of_R (R_fld TF_82_1 H fun t10 H => ?_)
  refine vl_n ?_
  refine H_store1 TS_3 H fun h H => ?_
  refine vl_e ?_
  refine WPc_seq' ?_
  refine W_region (by kernel_rfl) ?_
  refine vl_n ?_
  refine H_of_R (R_move (v := a0) rfl ?_)
  refine vl_n ?_
  refine H_call HB_63 H fun t12 h H => ?_
  refine vl_n ?_
  refine H_of_R (R_not H fun t13 H => ?_)
  refine vl_e ?_
  obtain ⟨b, hc, H1, H2⟩ := H
  refine WPc_cond hc (fun hh => ?_) (fun hh => ?_)
  · have H := H1 hh; clear H1 H2
    refine WPc_seq' ?_
    refine W_region (by kernel_rfl) ?_
    refine vl_n ?_
    refine H_of_R (R_assign (v := (.int .i64 0)) rfl ?_)
    refine vl_e ?_
    refine WPc_block ?_
    refine loop_at (fun e => [e 2]) (fun e => [e 0]) H rfl rfl ?_
    intro K1 e1 h H hin1
    replace H : mapNode_su_updateCount.l1.b (e1 0) (e1 2) h K1 Q := H
    unfold mapNode_su_updateCount.l1.b at H
    clear hin1
    refine WPc_seq (fun e h => mapNode_su_updateCount.j2 (e 0) (e 2) h K1 Q ∧ [e1 0] = [e 0]) ?_ (fun e h ⟨H, hq1⟩ => ?_)
    rotate_left
    · unfold mapNode_su_updateCount.j2 at H
      refine WPc_seq (fun e h => mapNode_su_updateCount.j3 (e 0) (e 2) h K1 Q ∧ [e1 0] = [e 0]) ?_ (fun e h ⟨H, hq1⟩ => ?_)
      rotate_left
      · unfold mapNode_su_updateCount.j3 at H
        refine W_region (by kernel_rfl) ?_
        refine vl_n ?_
        refine H_of_R (R_move (v := (e 2)) rfl ?_)
        refine vl_n ?_
        refine H_of_R (R_add H fun t24 H => ?_)
        refine vl_n ?_
        refine H_of_R (R_assign (v := t24) rfl ?_)
        refine vl_e ?_
        exact ⟨H, hq1⟩
      refine WPc_block ?_
      refine W_drawn [0, 1, 3, 7, 0, 16, 48, 112, 240, 496, 0, 2032, 4080, 8176, 16368, 32752, 65535, 131071, 262143, 524287] (.take 0 (.take 1 (.take 2 (.take 3 (.take 4 (.take 5 (.take 6 (.take 7 (.take 8 (.take 9 (.take 10 (.take 11 (.take 12 (.take 13 (.take 14 (.take 15 (.take 16 (.take 17 (.take 18 (.alt 19 .done .none)))))))))))))))))))) mixed (by kernel_rfl) ?_
      refine tkP rfl ?_
      refine R_move (v := (e 0)) rfl ⟨fun _ => trivial, ?_⟩
      refine tkP rfl ?_
      refine R_nil H fun t26 H => ⟨fun _ => trivial, ?_⟩
      refine tkP rfl ?_
      refine R_fld TF_82_1 H fun t27 H => ⟨fun _ => trivial, ?_⟩
      refine tkL rfl ?_
      refine R_load1 T1_3 H fun at28 t28 hat28 _ H => ?_
      refine tkP rfl ?_
      refine R_move (v := (e 0)) rfl ⟨fun _ => trivial, ?_⟩
      refine tkP rfl ?_
      refine R_nil H fun t30 H => ⟨fun _ => trivial, ?_⟩
      refine tkP rfl ?_
      refine R_fld TF_82_3 H fun t31 H => ⟨fun _ => trivial, ?_⟩
      refine tkL rfl ?_
      refine R_load1 T1_80 H fun at32 t32 hat32 _ H => ?_
      refine tkP rfl ?_
      refine R_nil H fun t33 H => ⟨fun _ => trivial, ?_⟩
      refine tkL rfl ?_
      refine R_load1 T1_88 H fun at34 t34 hat34 _ H => ?_
      refine tkP rfl ?_
      refine R_move (v := (e 2)) rfl ⟨fun _ => trivial, ?_⟩
      refine tkP rfl ?_
      refine R_idx TE_88 H fun t36 H => ⟨fun _ => trivial, ?_⟩
      refine tkL rfl ?_
      refine R_load1 T1_58 H fun at37 t37 hat37 _ H => ?_
      refine tkP rfl ?_
      refine R_nil H fun t38 H => ⟨fun _ => trivial, ?_⟩
      refine tkP rfl ?_
      refine R_fld TF_82_1 H fun t39 H => ⟨fun _ => trivial, ?_⟩
      refine tkL rfl ?_
      refine R_load1 T1_3 H fun at40 t40 hat40 _ H => ?_
      refine tkP rfl ?_
      refine R_add H fun t41 H => ⟨fun _ => trivial, ?_⟩
      refine tkP rfl ?_
      refine R_nil H fun t42 H => ⟨fun _ => trivial, ?_⟩
      refine tkP rfl ?_
      refine R_fld TF_82_1 H fun t43 H => ⟨fun _ => trivial, ?_⟩
      refine alt_n rfl ?_ vp_none
      refine H_store1 TS_3 H fun h H => ⟨(hskip rfl (hskip rfl (hskip rfl (hskip rfl (hskip rfl hnil))))), ?_⟩
      refine vp_done ?_
      exact ⟨H, hq1⟩
    refine WPc_seq' ?_
    refine W_region (by kernel_rfl) ?_
    refine vl_n ?_
    refine H_of_R (R_move (v := (e1 2)) rfl ?_)
    refine vl_n ?_
    refine H_of_R (R_move (v := (e1 0)) rfl ?_)
    refine vl_n ?_
    refine H_of_R (R_nil H fun t16 H => ?_)
    refine vl_n ?_
    refine H_of_R (R_fld TF_82_3 H fun t17 H => ?_)
    refine vl_n ?_
    refine H_of_R (R_load1 T1_80 H fun _ t18 _ _ H => ?_)
    refine vl_n ?_
    refine H_of_R (R_nil H fun t19 H => ?_)
    refine vl_n ?_
    refine H_of_R (R_load1 T1_88 H fun _ t20 _ _ H => ?_)
    refine vl_n ?_
    refine H_of_R (R_len Try.underlying88 H fun t21 H => ?_)
    refine vl_n ?_
    refine H_of_R (R_lss H fun t22 H => ?_)
    refine vl_e ?_
    obtain ⟨b, hc, H1, H2⟩ := H
    refine WPc_cond hc (fun hh => ?_) (fun hh => ?_)
    · have H := H1 hh; clear H1 H2
      refine WPc_skip ?_
      exact ⟨H, rfl⟩
    · have H := H2 hh; clear H1 H2
      refine WPc_exit ?_
      refine resH_of rfl ?_
      exact H
  · have H := H2 hh; clear H1 H2
    refine WPc_skip ?_
    refine resH_of rfl ?_
    exact H

end Go.Proofs.Ytfojeibloilneaa
