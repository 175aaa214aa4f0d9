/-
  Shallow forms of the walked functions, and that each call comes to its form. Written by a program of this repo (gen.py). Conditions: none.
-/
import Derived.Test.YtfojeibloilneaaST
namespace Go.Proofs.Ytfojeibloilneaa
open Go.Hp
set_option maxRecDepth 100000
set_option maxHeartbeats 8000000
set_option linter.unusedVariables false
set_option linter.unusedSimpArgs false

/-! ### (*pub/tidwallbtree.Map[string, struct{}]).isoLoad -/
def Map_su_isoLoad.j1 (s1 : Value) (h : Heap) (Q : Value → Heap → Prop) : Prop :=
    nilck s1 fun t29 =>
    load1 t29 h fun t30 =>
    Q t30 h
def Map_su_isoLoad.sh (a0 : Value) (a1 : Value) (a2 : Value) (h : Heap) (Q : Value → Heap → Prop) : Prop :=
    br a2 true (nilck a1 fun t10 =>
    load1 t10 h fun t11 =>
    nilck t11 fun t12 =>
    fld 0 t12 fun t13 =>
    load1 t13 h fun t14 =>
    nilck a0 fun t16 =>
    fld 0 t16 fun t17 =>
    load1 t17 h fun t18 =>
    cmpI (fun a b => a != b) t14 t18 fun t19 =>
    ifV t19
    (nilck a1 fun t24 =>
    load1 t24 h fun t25 =>
    Map_su_copy.call #[a0, t25] h fun t26 h =>
    nilck a1 fun t27 =>
    store1 t27 t26 h fun h =>
    Map_su_isoLoad.j1 a1 h Q)
    (Map_su_isoLoad.j1 a1 h Q)) (Map_su_isoLoad.j1 a1 h Q)
theorem Map_su_isoLoad.body (a0 : Value) (a1 : Value) (a2 : Value) (h : Heap) (Q : Value → Heap → Prop) (H : Map_su_isoLoad.sh a0 a1 a2 h Q) : Map_su_isoLoad.call #[a0, a1, a2] h Q := by
  refine callsH_of (args := [a0, a1, a2]) Try.func62 rfl rfl ?_
  unfold Map_su_isoLoad.sh at H
  refine WPc_seq' ?_
  refine W_region (by kernel_rfl) ?_
  refine vl_n ?_
  refine H_of_R (R_assign (v := (.pointer none)) rfl ?_)
  refine vl_e ?_
  refine WPc_seq (fun e h => Map_su_isoLoad.j1 (e 1) h Q) ?_ (fun e h H => ?_)
  rotate_left
  · unfold Map_su_isoLoad.j1 at H
    refine WPc_seq' ?_
    refine W_region (by kernel_rfl) ?_
    refine vl_n ?_
    refine H_of_R (R_move (v := (e 1)) rfl ?_)
    refine vl_n ?_
    refine H_of_R (R_nil H fun t29 H => ?_)
    refine vl_n ?_
    refine H_of_R (R_load1 T1_58 H fun _ t30 _ _ H => ?_)
    refine vl_n ?_
    refine H_of_R (R_assign (v := t30) rfl ?_)
    refine vl_e ?_
    refine WPc_ret ?_
    refine resH_of rfl ?_
    exact H
  refine WPc_seq' ?_
  refine W_drawn [0, 1, 3, 7, 15, 31, 63, 127, 3, 259, 771, 1795, 4095, 8191] (.take 0 (.take 1 (.take 2 (.take 3 (.take 4 (.take 5 (.take 6 (.take 7 (.take 8 (.take 9 (.take 10 (.take 11 (.take 12 (.take 13 .done)))))))))))))) mixed (by kernel_rfl) ?_
  refine tkP rfl ?_
  refine R_move (v := a2) rfl ⟨fun _ => trivial, ?_⟩
  refine tkP rfl ?_
  refine R_move (v := a2) rfl ⟨fun _ => trivial, ?_⟩
  obtain ⟨b, hb, H1, H2⟩ := H
  cases b
  · have H := H2 rfl; clear H1 H2
    refine tk_s rfl rfl (nbT hb) ?_
    refine tk_s rfl rfl (nbT hb) ?_
    refine tk_s rfl rfl (nbT hb) ?_
    refine tk_s rfl rfl (nbT hb) ?_
    refine tk_s rfl rfl (nbT hb) ?_
    refine tk_s rfl rfl (nbT hb) ?_
    refine tk_s rfl rfl (nbT hb) ?_
    refine tk_s rfl rfl (nbT hb) ?_
    refine tk_s rfl rfl (nbT hb) ?_
    refine tk_s rfl rfl (nbT hb) ?_
    refine tk_s rfl rfl (nbT hb) ?_
    refine tkP rfl ?_
    refine R_pickC (v := (.bool false)) false hb rfl ⟨fun _ => trivial, ?_⟩
    refine vp_done ?_
    refine WPc_cond (t := false) rfl (fun hh => by cases hh) (fun _ => ?_)
    refine WPc_skip ?_
    exact H
  · have H := H1 rfl; clear H1 H2
    refine tkPy rfl rfl hb ?_
    refine R_move (v := a1) rfl ⟨fun _ => trivial, ?_⟩
    refine tkPy rfl rfl hb ?_
    refine R_nil H fun t10 H => ⟨fun _ => trivial, ?_⟩
    refine tkLy rfl rfl hb ?_
    refine R_load1 T1_58 H fun at11 t11 hat11 _ H => ?_
    refine tkPy rfl rfl hb ?_
    refine R_nil H fun t12 H => ⟨fun _ => trivial, ?_⟩
    refine tkPy rfl rfl hb ?_
    refine R_fld TF_82_0 H fun t13 H => ⟨fun _ => trivial, ?_⟩
    refine tkLy rfl rfl hb ?_
    refine R_load1 T1_56 H fun at14 t14 hat14 _ H => ?_
    refine tkPy rfl rfl hb ?_
    refine R_move (v := a0) rfl ⟨fun _ => trivial, ?_⟩
    refine tkPy rfl rfl hb ?_
    refine R_nil H fun t16 H => ⟨fun _ => trivial, ?_⟩
    refine tkPy rfl rfl hb ?_
    refine R_fld TF_63_0 H fun t17 H => ⟨fun _ => trivial, ?_⟩
    refine tkLy rfl rfl hb ?_
    refine R_load1 T1_56 H fun at18 t18 hat18 _ H => ?_
    refine tkPy rfl rfl hb ?_
    refine R_neI H fun t19 H => ⟨fun _ => trivial, ?_⟩
    refine tkP rfl ?_
    refine R_pickC (v := t19) true hb rfl ⟨fun _ => trivial, ?_⟩
    refine vp_done ?_
    obtain ⟨b_2, hc, H1, H2⟩ := H
    refine WPc_cond hc (fun hh => ?_) (fun hh => ?_)
    · have H := H1 hh; clear H1 H2
      refine W_region (by kernel_rfl) ?_
      refine vl_n ?_
      refine H_of_R (R_move (v := a1) rfl ?_)
      refine vl_n ?_
      refine H_of_R (R_move (v := a0) rfl ?_)
      refine vl_n ?_
      refine H_of_R (R_move (v := a1) rfl ?_)
      refine vl_n ?_
      refine H_of_R (R_nil H fun t24 H => ?_)
      refine vl_n ?_
      refine H_of_R (R_load1 T1_58 H fun _ t25 _ _ H => ?_)
      refine vl_n ?_
      refine H_call HB_68 H fun t26 h H => ?_
      refine vl_n ?_
      refine H_of_R (R_nil H fun t27 H => ?_)
      refine vl_n ?_
      refine H_store1 TS_58 H fun h H => ?_
      refine vl_e ?_
      exact H
    · have H := H2 hh; clear H1 H2
      refine WPc_skip ?_
      exact H
/-! ### (*pub/tidwallbtree.Map[string, struct{}]).search -/
def Map_su_search.j2 (s8 : Value) (h : Heap) (Q : Value → Heap → Prop) : Prop :=
    Q (.tuple #[s8, (.bool false)]) h
def Map_su_search.j1 (s1 : Value) (s2 : Value) (s8 : Value) (h : Heap) (Q : Value → Heap → Prop) : Prop :=
    cmpI (fun a b => decide (a > b)) s8 (.int .i64 0) fun t38 =>
    br t38 true (nilck s1 fun t41 =>
    fld 2 t41 fun t42 =>
    load1 t42 h fun t43 =>
    arith (· - ·) s8 (.int .i64 1) fun t45 =>
    idx 1 t43 t45 fun t46 =>
    fld 0 t46 fun t47 =>
    load1 t47 h fun t48 =>
    cmpS (fun lt _ => lt) t48 s2 fun t50 =>
    notV t50 fun t51 =>
    ifV t51
    (arith (· - ·) s8 (.int .i64 1) fun t54 =>
    Q (.tuple #[t54, (.bool true)]) h)
    (Map_su_search.j2 s8 h Q)) (Map_su_search.j2 s8 h Q)
def Map_su_search.j4 (s1 : Value) (s2 : Value) (s8 : Value) (s9 : Value) (h : Heap) (K1 : List Value → Heap → Prop) (Q : Value → Heap → Prop) : Prop :=
    arith (· + ·) s8 s9 fun t21 =>
    divi t21 (.int .i64 2) fun t22 =>
    nilck s1 fun t25 =>
    fld 2 t25 fun t26 =>
    load1 t26 h fun t27 =>
    idx 1 t27 t22 fun t29 =>
    fld 0 t29 fun t30 =>
    load1 t30 h fun t31 =>
    cmpS (fun lt _ => lt) s2 t31 fun t32 =>
    notV t32 fun t33 =>
    ifV t33
    (arith (· + ·) t22 (.int .i64 1) fun t35 =>
    K1 [t35, s9] h)
    (K1 [s8, t22] h)
def Map_su_search.l3.b (c1 : Value) (c2 : Value) (s8 : Value) (s9 : Value) (h : Heap) (K1 : List Value → Heap → Prop) (Q : Value → Heap → Prop) : Prop :=
    cmpI (fun a b => decide (a < b)) s8 s9 fun t18 =>
    ifV t18
    (Map_su_search.j4 c1 c2 s8 s9 h K1 Q)
    (Map_su_search.j1 c1 c2 s8 h Q)
def Map_su_search.sh (a0 : Value) (a1 : Value) (a2 : Value) (h : Heap) (Q : Value → Heap → Prop) : Prop :=
    nilck a1 fun t12 =>
    fld 2 t12 fun t13 =>
    load1 t13 h fun t14 =>
    lenV t14 fun t15 =>
    loopC (fun c s h K1 => Map_su_search.l3.b (c.getD 0 undef) (c.getD 1 undef) (s.getD 0 undef) (s.getD 1 undef) h K1 Q) [a1, a2] [(.int .i64 0), t15] h
theorem Map_su_search.body (a0 : Value) (a1 : Value) (a2 : Value) (h : Heap) (Q : Value → Heap → Prop) (H : Map_su_search.sh a0 a1 a2 h Q) : Map_su_search.call #[a0, a1, a2] h Q := by
  refine callsH_of (args := [a0, a1, a2]) Try.func67 rfl rfl ?_
  unfold Map_su_search.sh at H
  refine WPc_seq' ?_
  refine W_region (by kernel_rfl) ?_
  refine vl_n ?_
  refine H_of_R (R_assign (v := (.int .i64 0)) rfl ?_)
  refine vl_n ?_
  refine H_of_R (R_assign (v := (.bool false)) rfl ?_)
  refine vl_e ?_
  refine WPc_seq' ?_
  refine W_drawn [0, 1, 3, 7, 15, 0, 63] (.take 0 (.take 1 (.take 2 (.take 3 (.take 4 (.take 5 (.take 6 .done))))))) mixed (by kernel_rfl) ?_
  refine tkP rfl ?_
  refine R_move (v := a1) rfl ⟨fun _ => trivial, ?_⟩
  refine tkP rfl ?_
  refine R_nil H fun t12 H => ⟨fun _ => trivial, ?_⟩
  refine tkP rfl ?_
  refine R_fld TF_82_2 H fun t13 H => ⟨fun _ => trivial, ?_⟩
  refine tkL rfl ?_
  refine R_load1 T1_79 H fun at14 t14 hat14 _ H => ?_
  refine tkP rfl ?_
  refine R_len Try.underlying79 H fun t15 H => ⟨fun _ => trivial, ?_⟩
  refine tkP rfl ?_
  refine R_assign (v := (.int .i64 0)) rfl ⟨fun _ => trivial, ?_⟩
  refine tkP rfl ?_
  refine R_assign (v := t15) rfl ⟨fun _ => trivial, ?_⟩
  refine vp_done ?_
  refine WPc_seq (fun e h => Map_su_search.j1 (e 1) (e 2) (e 8) h Q) ?_ (fun e h H => ?_)
  rotate_left
  · unfold Map_su_search.j1 at H
    refine WPc_seq (fun e h => Map_su_search.j2 (e 8) h Q) ?_ (fun e h H => ?_)
    rotate_left
    · unfold Map_su_search.j2 at H
      refine WPc_seq' ?_
      refine W_region (by kernel_rfl) ?_
      refine vl_n ?_
      refine H_of_R (R_move (v := (e 8)) rfl ?_)
      refine vl_n ?_
      refine H_of_R (R_assign (v := (e 8)) rfl ?_)
      refine vl_n ?_
      refine H_of_R (R_assign (v := (.bool false)) rfl ?_)
      refine vl_e ?_
      refine WPc_ret ?_
      refine resH_of rfl ?_
      exact H
    refine WPc_seq' ?_
    refine W_region (by kernel_rfl) ?_
    refine vl_n ?_
    refine H_of_R (R_move (v := (e 8)) rfl ?_)
    refine vl_n ?_
    refine H_of_R (R_gtr H fun t38 H => ?_)
    refine vl_n ?_
    refine H_of_R (R_move (v := t38) rfl ?_)
    obtain ⟨b, hb, H1, H2⟩ := H
    cases b
    · have H := H2 rfl; clear H1 H2
      refine vl_s rfl (nbT hb) ?_
      refine vl_s rfl (nbT hb) ?_
      refine vl_s rfl (nbT hb) ?_
      refine vl_s rfl (nbT hb) ?_
      refine vl_s rfl (nbT hb) ?_
      refine vl_s rfl (nbT hb) ?_
      refine vl_s rfl (nbT hb) ?_
      refine vl_s rfl (nbT hb) ?_
      refine vl_s rfl (nbT hb) ?_
      refine vl_s rfl (nbT hb) ?_
      refine vl_s rfl (nbT hb) ?_
      refine vl_s rfl (nbT hb) ?_
      refine vl_n ?_
      refine H_of_R (R_pickC (v := (.bool false)) false hb rfl ?_)
      refine vl_e ?_
      refine WPc_cond (t := false) rfl (fun hh => by cases hh) (fun _ => ?_)
      refine WPc_skip ?_
      exact H
    · have H := H1 rfl; clear H1 H2
      refine vl_y rfl hb ?_
      refine H_of_R (R_move (v := (e 1)) rfl ?_)
      refine vl_y rfl hb ?_
      refine H_of_R (R_nil H fun t41 H => ?_)
      refine vl_y rfl hb ?_
      refine H_of_R (R_fld TF_82_2 H fun t42 H => ?_)
      refine vl_y rfl hb ?_
      refine H_of_R (R_load1 T1_79 H fun _ t43 _ _ H => ?_)
      refine vl_y rfl hb ?_
      refine H_of_R (R_move (v := (e 8)) rfl ?_)
      refine vl_y rfl hb ?_
      refine H_of_R (R_sub H fun t45 H => ?_)
      refine vl_y rfl hb ?_
      refine H_of_R (R_idx TE_79 H fun t46 H => ?_)
      refine vl_y rfl hb ?_
      refine H_of_R (R_fld TF_61_1 H fun t47 H => ?_)
      refine vl_y rfl hb ?_
      refine H_of_R (R_load1 T1_9 H fun _ t48 _ _ H => ?_)
      refine vl_y rfl hb ?_
      refine H_of_R (R_move (v := (e 2)) rfl ?_)
      refine vl_y rfl hb ?_
      refine H_of_R (R_lssS H fun t50 H => ?_)
      refine vl_y rfl hb ?_
      refine H_of_R (R_not H fun t51 H => ?_)
      refine vl_n ?_
      refine H_of_R (R_pickC (v := t51) true hb rfl ?_)
      refine vl_e ?_
      obtain ⟨b_2, hc, H1, H2⟩ := H
      refine WPc_cond hc (fun hh => ?_) (fun hh => ?_)
      · have H := H1 hh; clear H1 H2
        refine WPc_seq' ?_
        refine W_region (by kernel_rfl) ?_
        refine vl_n ?_
        refine H_of_R (R_move (v := (e 8)) rfl ?_)
        refine vl_n ?_
        refine H_of_R (R_sub H fun t54 H => ?_)
        refine vl_n ?_
        refine H_of_R (R_assign (v := t54) rfl ?_)
        refine vl_n ?_
        refine H_of_R (R_assign (v := (.bool true)) rfl ?_)
        refine vl_e ?_
        refine WPc_ret ?_
        refine resH_of rfl ?_
        exact H
      · have H := H2 hh; clear H1 H2
        refine WPc_skip ?_
        exact H
  refine WPc_block ?_
  refine loop_at (fun e => [e 8, e 9]) (fun e => [e 1, e 2]) H rfl rfl ?_
  intro K1 e1 h H hin1
  replace H : Map_su_search.l3.b (e1 1) (e1 2) (e1 8) (e1 9) h K1 Q := H
  unfold Map_su_search.l3.b at H
  clear hin1
  refine WPc_seq (fun e h => Map_su_search.j4 (e 1) (e 2) (e 8) (e 9) h K1 Q ∧ [e1 1, e1 2] = [e 1, e 2]) ?_ (fun e h ⟨H, hq1⟩ => ?_)
  rotate_left
  · unfold Map_su_search.j4 at H
    refine WPc_block ?_
    refine WPc_seq' ?_
    refine W_region (by kernel_rfl) ?_
    refine vl_n ?_
    refine H_of_R (R_move (v := (e 8)) rfl ?_)
    refine vl_n ?_
    refine H_of_R (R_move (v := (e 9)) rfl ?_)
    refine vl_n ?_
    refine H_of_R (R_add H fun t21 H => ?_)
    refine vl_n ?_
    refine H_of_R (R_quo H fun t22 H => ?_)
    refine vl_n ?_
    refine H_of_R (R_assign (v := t22) rfl ?_)
    refine vl_e ?_
    refine WPc_seq' ?_
    refine W_region (by kernel_rfl) ?_
    refine vl_n ?_
    refine H_of_R (R_move (v := (e 2)) rfl ?_)
    refine vl_n ?_
    refine H_of_R (R_move (v := (e 1)) rfl ?_)
    refine vl_n ?_
    refine H_of_R (R_nil H fun t25 H => ?_)
    refine vl_n ?_
    refine H_of_R (R_fld TF_82_2 H fun t26 H => ?_)
    refine vl_n ?_
    refine H_of_R (R_load1 T1_79 H fun _ t27 _ _ H => ?_)
    refine vl_n ?_
    refine H_of_R (R_move (v := t22) rfl ?_)
    refine vl_n ?_
    refine H_of_R (R_idx TE_79 H fun t29 H => ?_)
    refine vl_n ?_
    refine H_of_R (R_fld TF_61_1 H fun t30 H => ?_)
    refine vl_n ?_
    refine H_of_R (R_load1 T1_9 H fun _ t31 _ _ H => ?_)
    refine vl_n ?_
    refine H_of_R (R_lssS H fun t32 H => ?_)
    refine vl_n ?_
    refine H_of_R (R_not H fun t33 H => ?_)
    refine vl_e ?_
    obtain ⟨b, hc, H1, H2⟩ := H
    refine WPc_cond hc (fun hh => ?_) (fun hh => ?_)
    · have H := H1 hh; clear H1 H2
      refine W_region (by kernel_rfl) ?_
      refine vl_n ?_
      refine H_of_R (R_move (v := t22) rfl ?_)
      refine vl_n ?_
      refine H_of_R (R_add H fun t35 H => ?_)
      refine vl_n ?_
      refine H_of_R (R_assign (v := t35) rfl ?_)
      refine vl_e ?_
      exact ⟨H, hq1⟩
    · have H := H2 hh; clear H1 H2
      refine W_region (by kernel_rfl) ?_
      refine vl_n ?_
      refine H_of_R (R_move (v := t22) rfl ?_)
      refine vl_n ?_
      refine H_of_R (R_assign (v := t22) rfl ?_)
      refine vl_e ?_
      exact ⟨H, hq1⟩
  refine WPc_seq' ?_
  refine W_region (by kernel_rfl) ?_
  refine vl_n ?_
  refine H_of_R (R_move (v := (e1 8)) rfl ?_)
  refine vl_n ?_
  refine H_of_R (R_move (v := (e1 9)) rfl ?_)
  refine vl_n ?_
  refine H_of_R (R_lss H fun t18 H => ?_)
  refine vl_e ?_
  obtain ⟨b, hc, H1, H2⟩ := H
  refine WPc_cond hc (fun hh => ?_) (fun hh => ?_)
  · have H := H1 hh; clear H1 H2
    refine WPc_skip ?_
    exact ⟨H, rfl⟩
  · have H := H2 hh; clear H1 H2
    refine WPc_exit ?_
    exact H

end Go.Proofs.Ytfojeibloilneaa
