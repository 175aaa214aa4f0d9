/-
  Shallow forms of the walked functions, and that each call comes to its form. Written by a program of this repo (gen.py). Conditions: none.
-/
import Derived.Test.YtolkmlmnolibgaaST
namespace Go.Proofs.Ytolkmlmnolibgaa
open Go.Hp
set_option maxRecDepth 100000
set_option maxHeartbeats 8000000
set_option linter.unusedVariables false
set_option linter.unusedSimpArgs false

/-! ### spec.Fits -/
def s_Fits.sh (a0 : Value) (h : Heap) (Q : Value → Heap → Prop) : Prop :=
    cmpI (fun a b => a == b) a0 (.int .i64 0) fun t4 =>
    br t4 false (cmpI (fun a b => decide (a ≥ b)) a0 (.int .i64 2) fun t7 =>
    br t7 true (cmpI (fun a b => decide (a ≤ b)) a0 (.int .i64 128) fun t10 =>
    Q t10 h) (Q (.bool false) h)) (Q (.bool true) h)
theorem s_Fits.body (a0 : Value) (h : Heap) (Q : Value → Heap → Prop) (H : s_Fits.sh a0 h Q) : s_Fits.call #[a0] h Q := by
  refine callsH_of (args := [a0]) Try.func30 rfl rfl ?_
  unfold s_Fits.sh at H
  refine WPc_seq' ?_
  refine W_region (by kernel_rfl) ?_
  refine vl_n ?_
  refine H_of_R (R_assign (v := (.bool false)) rfl ?_)
  refine vl_e ?_
  refine WPc_seq' ?_
  refine W_region (by kernel_rfl) ?_
  refine vl_n ?_
  refine H_of_R (R_move (v := a0) rfl ?_)
  refine vl_n ?_
  refine H_of_R (R_eqI H fun t4 H => ?_)
  refine vl_n ?_
  refine H_of_R (R_move (v := t4) rfl ?_)
  obtain ⟨b, hb, H1, H2⟩ := H
  cases b
  · have H := H1 rfl; clear H1 H2
    refine vl_y rfl hb ?_
    refine H_of_R (R_move (v := a0) rfl ?_)
    refine vl_y rfl hb ?_
    refine H_of_R (R_geq H fun t7 H => ?_)
    refine vl_y rfl hb ?_
    refine H_of_R (R_move (v := t7) rfl ?_)
    obtain ⟨b_2, hb_2, H1, H2⟩ := H
    cases b_2
    · have H := H2 rfl; clear H1 H2
      refine vl_s rfl (nbT hb_2) ?_
      refine vl_s rfl (nbT hb_2) ?_
      refine vl_y rfl hb ?_
      refine H_of_R (R_pickC (v := (.bool false)) false hb_2 rfl ?_)
      refine vl_n ?_
      refine H_of_R (R_pickC (v := (.bool false)) false hb rfl ?_)
      refine vl_n ?_
      refine H_of_R (R_assign (v := (.bool false)) rfl ?_)
      refine vl_e ?_
      refine WPc_ret ?_
      refine resH_of rfl ?_
      exact H
    · have H := H1 rfl; clear H1 H2
      refine vl_y rfl hb_2 ?_
      refine H_of_R (R_move (v := a0) rfl ?_)
      refine vl_y rfl hb_2 ?_
      refine H_of_R (R_leq H fun t10 H => ?_)
      refine vl_y rfl hb ?_
      refine H_of_R (R_pickC (v := t10) true hb_2 rfl ?_)
      refine vl_n ?_
      refine H_of_R (R_pickC (v := t10) false hb rfl ?_)
      refine vl_n ?_
      refine H_of_R (R_assign (v := t10) rfl ?_)
      refine vl_e ?_
      refine WPc_ret ?_
      refine resH_of rfl ?_
      exact H
  · have H := H2 rfl; clear H1 H2
    refine vl_s rfl (nbF hb) ?_
    refine vl_s rfl (nbF hb) ?_
    refine vl_s rfl (nbF hb) ?_
    refine vl_s rfl nbU ?_
    refine vl_s rfl nbU ?_
    refine vl_s rfl (nbF hb) ?_
    refine vl_n ?_
    refine H_of_R (R_pickC (v := (.bool true)) true hb rfl ?_)
    refine vl_n ?_
    refine H_of_R (R_assign (v := (.bool true)) rfl ?_)
    refine vl_e ?_
    refine WPc_ret ?_
    refine resH_of rfl ?_
    exact H
/-! ### laws.fit -/
def l_fit.sh (a0 : Value) (h : Heap) (Q : Value → Heap → Prop) : Prop :=
    cmpI (fun a b => decide (a > b)) a0 (.int .i64 0) fun t4 =>
    br t4 true (s_Fits.call #[a0] h fun t7 h =>
    Q t7 h) (Q (.bool false) h)
theorem l_fit.body (a0 : Value) (h : Heap) (Q : Value → Heap → Prop) (H : l_fit.sh a0 h Q) : l_fit.call #[a0] h Q := by
  refine callsH_of (args := [a0]) Try.func8 rfl rfl ?_
  unfold l_fit.sh at H
  refine WPc_seq' ?_
  refine W_region (by kernel_rfl) ?_
  refine vl_n ?_
  refine H_of_R (R_assign (v := (.bool false)) rfl ?_)
  refine vl_e ?_
  refine WPc_seq' ?_
  refine W_region (by kernel_rfl) ?_
  refine vl_n ?_
  refine H_of_R (R_move (v := a0) rfl ?_)
  refine vl_n ?_
  refine H_of_R (R_gtr H fun t4 H => ?_)
  refine vl_n ?_
  refine H_of_R (R_move (v := t4) rfl ?_)
  obtain ⟨b, hb, H1, H2⟩ := H
  cases b
  · have H := H2 rfl; clear H1 H2
    refine vl_s rfl (nbT hb) ?_
    refine vl_s rfl (nbT hb) ?_
    refine vl_n ?_
    refine H_of_R (R_pickC (v := (.bool false)) false hb rfl ?_)
    refine vl_n ?_
    refine H_of_R (R_assign (v := (.bool false)) rfl ?_)
    refine vl_e ?_
    refine WPc_ret ?_
    refine resH_of rfl ?_
    exact H
  · have H := H1 rfl; clear H1 H2
    refine vl_y rfl hb ?_
    refine H_of_R (R_move (v := a0) rfl ?_)
    refine vl_y rfl hb ?_
    refine H_call HB_30 H fun t7 h H => ?_
    refine vl_n ?_
    refine H_of_R (R_pickC (v := t7) true hb rfl ?_)
    refine vl_n ?_
    refine H_of_R (R_assign (v := t7) rfl ?_)
    refine vl_e ?_
    refine WPc_ret ?_
    refine resH_of rfl ?_
    exact H
/-! ### pub/tidwallbtree.degreeToMinMax -/
def degreeToMinMax.j1 (s0 : Value) (h : Heap) (Q : Value → Heap → Prop) : Prop :=
    arith (· * ·) s0 (.int .i64 2) fun t9 =>
    arith (· - ·) t9 (.int .i64 1) fun t10 =>
    divi t10 (.int .i64 2) fun t12 =>
    Q (.tuple #[t12, t10]) h
def degreeToMinMax.sh (a0 : Value) (h : Heap) (Q : Value → Heap → Prop) : Prop :=
    cmpI (fun a b => decide (a ≤ b)) a0 (.int .i64 0) fun t5 =>
    ifV t5
    (degreeToMinMax.j1 (.int .i64 32) h Q)
    (cmpI (fun a b => a == b) a0 (.int .i64 1) fun t7 =>
    ifV t7
    (degreeToMinMax.j1 (.int .i64 2) h Q)
    (degreeToMinMax.j1 a0 h Q))
theorem degreeToMinMax.body (a0 : Value) (h : Heap) (Q : Value → Heap → Prop) (H : degreeToMinMax.sh a0 h Q) : degreeToMinMax.call #[a0] h Q := by
  refine callsH_of (args := [a0]) Try.func98 rfl rfl ?_
  unfold degreeToMinMax.sh at H
  refine WPc_seq' ?_
  refine W_region (by kernel_rfl) ?_
  refine vl_n ?_
  refine H_of_R (R_assign (v := (.int .i64 0)) rfl ?_)
  refine vl_n ?_
  refine H_of_R (R_assign (v := (.int .i64 0)) rfl ?_)
  refine vl_e ?_
  refine WPc_seq (fun e h => degreeToMinMax.j1 (e 0) h Q) ?_ (fun e h H => ?_)
  rotate_left
  · unfold degreeToMinMax.j1 at H
    refine WPc_seq' ?_
    refine W_region (by kernel_rfl) ?_
    refine vl_n ?_
    refine H_of_R (R_move (v := (e 0)) rfl ?_)
    refine vl_n ?_
    refine H_of_R (R_mul H fun t9 H => ?_)
    refine vl_n ?_
    refine H_of_R (R_sub H fun t10 H => ?_)
    refine vl_n ?_
    refine H_of_R (R_assign (v := t10) rfl ?_)
    refine vl_e ?_
    refine WPc_seq' ?_
    refine W_region (by kernel_rfl) ?_
    refine vl_n ?_
    refine H_of_R (R_move (v := t10) rfl ?_)
    refine vl_n ?_
    refine H_of_R (R_quo H fun t12 H => ?_)
    refine vl_n ?_
    refine H_of_R (R_assign (v := t12) rfl ?_)
    refine vl_e ?_
    refine WPc_seq' ?_
    refine W_region (by kernel_rfl) ?_
    refine vl_n ?_
    refine H_of_R (R_move (v := t12) rfl ?_)
    refine vl_n ?_
    refine H_of_R (R_move (v := t10) rfl ?_)
    refine vl_n ?_
    refine H_of_R (R_assign (v := t12) rfl ?_)
    refine vl_n ?_
    refine H_of_R (R_assign (v := t10) rfl ?_)
    refine vl_e ?_
    refine WPc_ret ?_
    refine resH_of rfl ?_
    exact H
  refine WPc_seq' ?_
  refine W_region (by kernel_rfl) ?_
  refine vl_n ?_
  refine H_of_R (R_move (v := a0) rfl ?_)
  refine vl_n ?_
  refine H_of_R (R_leq H fun t5 H => ?_)
  refine vl_e ?_
  obtain ⟨b, hc, H1, H2⟩ := H
  refine WPc_cond hc (fun hh => ?_) (fun hh => ?_)
  · have H := H1 hh; clear H1 H2
    refine W_region (by kernel_rfl) ?_
    refine vl_n ?_
    refine H_of_R (R_assign (v := (.int .i64 32)) rfl ?_)
    refine vl_e ?_
    exact H
  · have H := H2 hh; clear H1 H2
    refine WPc_seq' ?_
    refine W_region (by kernel_rfl) ?_
    refine vl_n ?_
    refine H_of_R (R_move (v := a0) rfl ?_)
    refine vl_n ?_
    refine H_of_R (R_eqI H fun t7 H => ?_)
    refine vl_e ?_
    obtain ⟨b_2, hc_2, H1, H2⟩ := H
    refine WPc_cond hc_2 (fun hh => ?_) (fun hh => ?_)
    · have H := H1 hh; clear H1 H2
      refine W_region (by kernel_rfl) ?_
      refine vl_n ?_
      refine H_of_R (R_assign (v := (.int .i64 2)) rfl ?_)
      refine vl_e ?_
      exact H
    · have H := H2 hh; clear H1 H2
      refine WPc_skip ?_
      exact H
/-! ### (*pub/tidwallbtree.Map[string, int]).init -/
def Map_si_init.j1 (s0 : Value) (s1 : Value) (h : Heap) (Q : Value → Heap → Prop) : Prop :=
    degreeToMinMax.call #[s1] h fun t13 h =>
    extr 0 t13 fun t14 =>
    extr 1 t13 fun t15 =>
    nilck s0 fun t16 =>
    fld 6 t16 fun t17 =>
    store1 t17 t14 h fun h =>
    nilck s0 fun t18 =>
    fld 7 t18 fun t19 =>
    store1 t19 t15 h fun h =>
    nilck s0 fun t23 =>
    fld 4 t23 fun t24 =>
    fld 0 t24 fun t25 =>
    load1 t25 h fun t26 =>
    extr 0 (.tuple #[.nilIface, .bool false]) fun t29 =>
    extr 1 (.tuple #[.nilIface, .bool false]) fun t30 =>
    nilck s0 fun t31 =>
    fld 8 t31 fun t32 =>
    store1 t32 t30 h fun h =>
    nilck s0 fun t34 =>
    fld 8 t34 fun t35 =>
    load1 t35 h fun t36 =>
    notV t36 fun t37 =>
    ifV t37
    (nilck s0 fun t41 =>
    fld 4 t41 fun t42 =>
    fld 0 t42 fun t43 =>
    load1 t43 h fun t44 =>
    extr 0 (.tuple #[.nilIface, .bool false]) fun t47 =>
    extr 1 (.tuple #[.nilIface, .bool false]) fun t48 =>
    nilck s0 fun t49 =>
    fld 9 t49 fun t50 =>
    store1 t50 t48 h fun h =>
    Q (.tuple #[]) h)
    (Q (.tuple #[]) h)
def Map_si_init.sh (a0 : Value) (a1 : Value) (h : Heap) (Q : Value → Heap → Prop) : Prop :=
    nilck a0 fun t5 =>
    fld 6 t5 fun t6 =>
    load1 t6 h fun t7 =>
    cmpI (fun a b => a != b) t7 (.int .i64 0) fun t8 =>
    ifV t8
    (Q (.tuple #[]) h)
    (Map_si_init.j1 a0 a1 h Q)
theorem Map_si_init.body (a0 : Value) (a1 : Value) (h : Heap) (Q : Value → Heap → Prop) (H : Map_si_init.sh a0 a1 h Q) : Map_si_init.call #[a0, a1] h Q := by
  refine callsH_of (args := [a0, a1]) Try.func73 rfl rfl ?_
  unfold Map_si_init.sh at H
  refine WPc_seq (fun e h => Map_si_init.j1 (e 0) (e 1) h Q) ?_ (fun e h H => ?_)
  rotate_left
  · unfold Map_si_init.j1 at H
    refine WPc_seq' ?_
    refine W_region (by kernel_rfl) ?_
    refine vl_n ?_
    refine H_of_R (R_move (v := (e 0)) rfl ?_)
    refine vl_n ?_
    refine H_of_R (R_move (v := (e 0)) rfl ?_)
    refine vl_n ?_
    refine H_of_R (R_move (v := (e 1)) rfl ?_)
    refine vl_n ?_
    refine H_call HB_98 H fun t13 h H => ?_
    refine vl_n ?_
    refine H_of_R (R_move (v := t13) rfl ?_)
    refine vl_n ?_
    refine H_of_R (R_ext H fun t14 H => ?_)
    refine vl_n ?_
    refine H_of_R (R_ext H fun t15 H => ?_)
    refine vl_n ?_
    refine H_of_R (R_nil H fun t16 H => ?_)
    refine vl_n ?_
    refine H_of_R (R_fld TF_112_5 H fun t17 H => ?_)
    refine vl_n ?_
    refine H_store1 TS_3 H fun h H => ?_
    refine vl_n ?_
    refine H_of_R (R_nil H fun t18 H => ?_)
    refine vl_n ?_
    refine H_of_R (R_fld TF_112_6 H fun t19 H => ?_)
    refine vl_n ?_
    refine H_store1 TS_3 H fun h H => ?_
    refine vl_e ?_
    refine WPc_seq' ?_
    refine W_region (by kernel_rfl) ?_
    refine vl_n ?_
    refine H_of_R (R_move (v := (e 0)) rfl ?_)
    refine vl_n ?_
    refine H_of_R (R_move (v := (e 0)) rfl ?_)
    refine vl_n ?_
    refine H_of_R (R_nil H fun t23 H => ?_)
    refine vl_n ?_
    refine H_of_R (R_fld TF_112_4 H fun t24 H => ?_)
    refine vl_n ?_
    refine H_of_R (R_fld TF_110_0 H fun t25 H => ?_)
    refine vl_n ?_
    refine H_of_R (R_load1 T1_3 H fun _ t26 _ _ H => ?_)
    refine vl_n ?_
    refine H_of_R (R_mkI Try.underlying3 (by intro k hk; cases hk) ?_)
    refine vl_n ?_
    refine H_of_R (R_ta (t := 3) Try.underlying154 Try.type3 (missing_some rfl) Try.type154 rfl rfl ?_)
    refine vl_n ?_
    refine H_of_R (R_move (v := (.tuple #[.nilIface, .bool false])) rfl ?_)
    refine vl_n ?_
    refine H_of_R (R_ext H fun t29 H => ?_)
    refine vl_n ?_
    refine H_of_R (R_ext H fun t30 H => ?_)
    refine vl_n ?_
    refine H_of_R (R_nil H fun t31 H => ?_)
    refine vl_n ?_
    refine H_of_R (R_fld TF_112_7 H fun t32 H => ?_)
    refine vl_n ?_
    refine H_store1 TS_4 H fun h H => ?_
    refine vl_e ?_
    refine WPc_seq' ?_
    refine W_region (by kernel_rfl) ?_
    refine vl_n ?_
    refine H_of_R (R_move (v := (e 0)) rfl ?_)
    refine vl_n ?_
    refine H_of_R (R_nil H fun t34 H => ?_)
    refine vl_n ?_
    refine H_of_R (R_fld TF_112_7 H fun t35 H => ?_)
    refine vl_n ?_
    refine H_of_R (R_load1 T1_4 H fun _ t36 _ _ H => ?_)
    refine vl_n ?_
    refine H_of_R (R_not H fun t37 H => ?_)
    refine vl_e ?_
    obtain ⟨b, hc, H1, H2⟩ := H
    refine WPc_cond hc (fun hh => ?_) (fun hh => ?_)
    · have H := H1 hh; clear H1 H2
      refine W_region (by kernel_rfl) ?_
      refine vl_n ?_
      refine H_of_R (R_move (v := (e 0)) rfl ?_)
      refine vl_n ?_
      refine H_of_R (R_move (v := (e 0)) rfl ?_)
      refine vl_n ?_
      refine H_of_R (R_nil H fun t41 H => ?_)
      refine vl_n ?_
      refine H_of_R (R_fld TF_112_4 H fun t42 H => ?_)
      refine vl_n ?_
      refine H_of_R (R_fld TF_110_0 H fun t43 H => ?_)
      refine vl_n ?_
      refine H_of_R (R_load1 T1_3 H fun _ t44 _ _ H => ?_)
      refine vl_n ?_
      refine H_of_R (R_mkI Try.underlying3 (by intro k hk; cases hk) ?_)
      refine vl_n ?_
      refine H_of_R (R_ta (t := 3) Try.underlying157 Try.type3 (missing_some rfl) Try.type157 rfl rfl ?_)
      refine vl_n ?_
      refine H_of_R (R_move (v := (.tuple #[.nilIface, .bool false])) rfl ?_)
      refine vl_n ?_
      refine H_of_R (R_ext H fun t47 H => ?_)
      refine vl_n ?_
      refine H_of_R (R_ext H fun t48 H => ?_)
      refine vl_n ?_
      refine H_of_R (R_nil H fun t49 H => ?_)
      refine vl_n ?_
      refine H_of_R (R_fld TF_112_8 H fun t50 H => ?_)
      refine vl_n ?_
      refine H_store1 TS_4 H fun h H => ?_
      refine vl_e ?_
      refine resH_of rfl ?_
      exact H
    · have H := H2 hh; clear H1 H2
      refine WPc_skip ?_
      refine resH_of rfl ?_
      exact H
  refine WPc_seq' ?_
  refine W_region (by kernel_rfl) ?_
  refine vl_n ?_
  refine H_of_R (R_move (v := a0) rfl ?_)
  refine vl_n ?_
  refine H_of_R (R_nil H fun t5 H => ?_)
  refine vl_n ?_
  refine H_of_R (R_fld TF_112_5 H fun t6 H => ?_)
  refine vl_n ?_
  refine H_of_R (R_load1 T1_3 H fun _ t7 _ _ H => ?_)
  refine vl_n ?_
  refine H_of_R (R_neI H fun t8 H => ?_)
  refine vl_e ?_
  obtain ⟨b, hc, H1, H2⟩ := H
  refine WPc_cond hc (fun hh => ?_) (fun hh => ?_)
  · have H := H1 hh; clear H1 H2
    refine WPc_ret ?_
    refine resH_of rfl ?_
    exact H
  · have H := H2 hh; clear H1 H2
    refine WPc_skip ?_
    exact H
/-! ### pub/tidwallbtree.NewMap[string,int] -/
def NewMap_si.sh (a0 : Value) (h : Heap) (Q : Value → Heap → Prop) : Prop :=
    alloc [(.int .u64 0), (.pointer none), (.pointer none), (.int .i64 0), (.int .i64 0), (.string ⟨#[]⟩), (.int .i64 0), (.int .i64 0), (.bool false), (.bool false)] 112 h fun t4 h =>
    Map_si_init.call #[t4, a0] h fun t7 h =>
    Q t4 h
theorem NewMap_si.body (a0 : Value) (h : Heap) (Q : Value → Heap → Prop) (H : NewMap_si.sh a0 h Q) : NewMap_si.call #[a0] h Q := by
  refine callsH_of (args := [a0]) Try.func54 rfl rfl ?_
  unfold NewMap_si.sh at H
  refine WPc_seq' ?_
  refine W_region (by kernel_rfl) ?_
  refine vl_n ?_
  refine H_of_R (R_assign (v := (.pointer none)) rfl ?_)
  refine vl_e ?_
  refine WPc_seq' ?_
  refine W_region (by kernel_rfl) ?_
  refine vl_n ?_
  refine H_alloc TV_112 H fun t4 h H => ?_
  refine vl_n ?_
  refine H_of_R (R_assign (v := t4) rfl ?_)
  refine vl_e ?_
  refine WPc_seq' ?_
  refine W_region (by kernel_rfl) ?_
  refine vl_n ?_
  refine H_of_R (R_move (v := t4) rfl ?_)
  refine vl_n ?_
  refine H_of_R (R_move (v := a0) rfl ?_)
  refine vl_n ?_
  refine H_call HB_73 H fun t7 h H => ?_
  refine vl_e ?_
  refine WPc_seq' ?_
  refine W_region (by kernel_rfl) ?_
  refine vl_n ?_
  refine H_of_R (R_move (v := t4) rfl ?_)
  refine vl_n ?_
  refine H_of_R (R_assign (v := t4) rfl ?_)
  refine vl_e ?_
  refine WPc_ret ?_
  refine resH_of rfl ?_
  exact H
/-! ### (*pub/tidwallbtree.Map[string, int]).newNode -/
def Map_si_newNode.j1 (s5 : Value) (h : Heap) (Q : Value → Heap → Prop) : Prop :=
    Q s5 h
def Map_si_newNode.sh (a0 : Value) (a1 : Value) (h : Heap) (Q : Value → Heap → Prop) : Prop :=
    alloc [(.int .u64 0), (.int .i64 0), (.slice none 0 0), (.pointer none)] 119 h fun t6 h =>
    nilck a0 fun t9 =>
    fld 0 t9 fun t10 =>
    load1 t10 h fun t11 =>
    nilck t6 fun t12 =>
    fld 0 t12 fun t13 =>
    store1 t13 t11 h fun h =>
    notV a1 fun t15 =>
    ifV t15
    (alloc [(.slice none 0 0)] 120 h fun t17 h =>
    nilck t6 fun t18 =>
    fld 3 t18 fun t19 =>
    store1 t19 t17 h fun h =>
    Map_si_newNode.j1 t6 h Q)
    (Map_si_newNode.j1 t6 h Q)
theorem Map_si_newNode.body (a0 : Value) (a1 : Value) (h : Heap) (Q : Value → Heap → Prop) (H : Map_si_newNode.sh a0 a1 h Q) : Map_si_newNode.call #[a0, a1] h Q := by
  refine callsH_of (args := [a0, a1]) Try.func74 rfl rfl ?_
  unfold Map_si_newNode.sh at H
  refine WPc_seq' ?_
  refine W_region (by kernel_rfl) ?_
  refine vl_n ?_
  refine H_of_R (R_assign (v := (.pointer none)) rfl ?_)
  refine vl_e ?_
  refine WPc_seq' ?_
  refine W_region (by kernel_rfl) ?_
  refine vl_n ?_
  refine H_alloc TV_119 H fun t6 h H => ?_
  refine vl_n ?_
  refine H_of_R (R_assign (v := t6) rfl ?_)
  refine vl_e ?_
  refine WPc_seq' ?_
  refine W_region (by kernel_rfl) ?_
  refine vl_n ?_
  refine H_of_R (R_move (v := t6) rfl ?_)
  refine vl_n ?_
  refine H_of_R (R_move (v := a0) rfl ?_)
  refine vl_n ?_
  refine H_of_R (R_nil H fun t9 H => ?_)
  refine vl_n ?_
  refine H_of_R (R_fld TF_112_0 H fun t10 H => ?_)
  refine vl_n ?_
  refine H_of_R (R_load1 T1_89 H fun _ t11 _ _ H => ?_)
  refine vl_n ?_
  refine H_of_R (R_nil H fun t12 H => ?_)
  refine vl_n ?_
  refine H_of_R (R_fld TF_119_0 H fun t13 H => ?_)
  refine vl_n ?_
  refine H_store1 TS_89 H fun h H => ?_
  refine vl_e ?_
  refine WPc_seq (fun e h => Map_si_newNode.j1 (e 5) h Q) ?_ (fun e h H => ?_)
  rotate_left
  · unfold Map_si_newNode.j1 at H
    refine WPc_seq' ?_
    refine W_region (by kernel_rfl) ?_
    refine vl_n ?_
    refine H_of_R (R_move (v := (e 5)) rfl ?_)
    refine vl_n ?_
    refine H_of_R (R_assign (v := (e 5)) rfl ?_)
    refine vl_e ?_
    refine WPc_ret ?_
    refine resH_of rfl ?_
    exact H
  refine WPc_seq' ?_
  refine W_region (by kernel_rfl) ?_
  refine vl_n ?_
  refine H_of_R (R_move (v := a1) rfl ?_)
  refine vl_n ?_
  refine H_of_R (R_not H fun t15 H => ?_)
  refine vl_e ?_
  obtain ⟨b, hc, H1, H2⟩ := H
  refine WPc_cond hc (fun hh => ?_) (fun hh => ?_)
  · have H := H1 hh; clear H1 H2
    refine W_region (by kernel_rfl) ?_
    refine vl_n ?_
    refine H_of_R (R_move (v := t6) rfl ?_)
    refine vl_n ?_
    refine H_alloc TV_120 H fun t17 h H => ?_
    refine vl_n ?_
    refine H_of_R (R_nil H fun t18 H => ?_)
    refine vl_n ?_
    refine H_of_R (R_fld TF_119_3 H fun t19 H => ?_)
    refine vl_n ?_
    refine H_store1 TS_117 H fun h H => ?_
    refine vl_e ?_
    exact H
  · have H := H2 hh; clear H1 H2
    refine WPc_skip ?_
    exact H
/-! ### (*pub/tidwallbtree.mapNode[string, int]).leaf -/
def mapNode_si_leaf.sh (a0 : Value) (h : Heap) (Q : Value → Heap → Prop) : Prop :=
    nilck a0 fun t4 =>
    fld 3 t4 fun t5 =>
    load1 t5 h fun t6 =>
    eqNilP t6 fun t7 =>
    Q t7 h
theorem mapNode_si_leaf.body (a0 : Value) (h : Heap) (Q : Value → Heap → Prop) (H : mapNode_si_leaf.sh a0 h Q) : mapNode_si_leaf.call #[a0] h Q := by
  refine callsH_of (args := [a0]) Try.func62 rfl rfl ?_
  unfold mapNode_si_leaf.sh at H
  refine WPc_seq' ?_
  refine W_region (by kernel_rfl) ?_
  refine vl_n ?_
  refine H_of_R (R_assign (v := (.bool false)) rfl ?_)
  refine vl_e ?_
  refine WPc_seq' ?_
  refine W_region (by kernel_rfl) ?_
  refine vl_n ?_
  refine H_of_R (R_move (v := a0) rfl ?_)
  refine vl_n ?_
  refine H_of_R (R_nil H fun t4 H => ?_)
  refine vl_n ?_
  refine H_of_R (R_fld TF_119_3 H fun t5 H => ?_)
  refine vl_n ?_
  refine H_of_R (R_load1 T1_117 H fun _ t6 _ _ H => ?_)
  refine vl_n ?_
  refine H_of_R (R_eqNilP Try.underlying117 rfl H fun t7 H => ?_)
  refine vl_n ?_
  refine H_of_R (R_assign (v := t7) rfl ?_)
  refine vl_e ?_
  refine WPc_ret ?_
  refine resH_of rfl ?_
  exact H

end Go.Proofs.Ytolkmlmnolibgaa
