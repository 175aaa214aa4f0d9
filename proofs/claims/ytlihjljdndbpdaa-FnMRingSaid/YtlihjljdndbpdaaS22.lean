/-
  Shallow forms of the walked functions, and that each call comes to its form. Written by a program of this repo (gen.py). Conditions: none.
-/
import Derived.Test.YtlihjljdndbpdaaST
namespace Go.Proofs.Ytlihjljdndbpdaa
open Go.Hp
set_option maxRecDepth 100000
set_option maxHeartbeats 8000000
set_option linter.unusedVariables false
set_option linter.unusedSimpArgs false

/-! ### (*pub/tidwallbtree.mapNode[int, int]).keys -/
def mapNode_ii_keys.j2 (s0 : Value) (s1 : Value) (h : Heap) (Q : Value → Heap → Prop) : Prop :=
    nilck s0 fun t62 =>
    fld 3 t62 fun t63 =>
    load1 t63 h fun t64 =>
    nilck t64 fun t65 =>
    load1 t65 h fun t66 =>
    nilck s0 fun t68 =>
    fld 3 t68 fun t69 =>
    load1 t69 h fun t70 =>
    nilck t70 fun t71 =>
    load1 t71 h fun t72 =>
    lenV t72 fun t73 =>
    arith (· - ·) t73 (.int .i64 1) fun t74 =>
    idx 1 t66 t74 fun t75 =>
    load1 t75 h fun t76 =>
    mapNode_ii_keys.call #[t76, s1] h fun t78 h =>
    Q t78 h
def mapNode_ii_keys.j5 (s0 : Value) (s1 : Value) (s6 : Value) (h : Heap) (K1 : List Value → Heap → Prop) (Q : Value → Heap → Prop) : Prop :=
    arith (· + ·) s6 (.int .i64 1) fun t38 =>
    K1 [s1, t38] h
def mapNode_ii_keys.j4 (s0 : Value) (s1 : Value) (s6 : Value) (h : Heap) (K1 : List Value → Heap → Prop) (Q : Value → Heap → Prop) : Prop :=
    nilck s0 fun t40 =>
    fld 3 t40 fun t41 =>
    load1 t41 h fun t42 =>
    nilck t42 fun t43 =>
    load1 t43 h fun t44 =>
    idx 1 t44 s6 fun t46 =>
    load1 t46 h fun t47 =>
    mapNode_ii_keys.call #[t47, s1] h fun t49 h =>
    nilck s0 fun t52 =>
    fld 2 t52 fun t53 =>
    load1 t53 h fun t54 =>
    idx 2 t54 s6 fun t56 =>
    fld 1 t56 fun t57 =>
    load1 t57 h fun t58 =>
    mkSl (if 1 * 1 = 0 then [] else zeros [(.int .i64 0)] 1) 1 [(0 * 1, 1, t58)] 3 h fun t59 h =>
    app 3 1 8 [(.int .i64 0)] t49 t59 h fun t60 h =>
    mapNode_ii_keys.j5 s0 t60 s6 h K1 Q
def mapNode_ii_keys.l3.b (c0 : Value) (s1 : Value) (s6 : Value) (h : Heap) (K1 : List Value → Heap → Prop) (Q : Value → Heap → Prop) : Prop :=
    nilck c0 fun t32 =>
    fld 2 t32 fun t33 =>
    load1 t33 h fun t34 =>
    lenV t34 fun t35 =>
    cmpI (fun a b => decide (a < b)) s6 t35 fun t36 =>
    ifV t36
    (mapNode_ii_keys.j4 c0 s1 s6 h K1 Q)
    (mapNode_ii_keys.j2 c0 s1 h Q)
def mapNode_ii_keys.j1 (s0 : Value) (s1 : Value) (h : Heap) (Q : Value → Heap → Prop) : Prop :=
    loopC (fun c s h K1 => mapNode_ii_keys.l3.b (c.getD 0 undef) (s.getD 0 undef) (s.getD 1 undef) h K1 Q) [s0] [s1, (.int .i64 0)] h
def mapNode_ii_keys.j6 (s1 : Value) (h : Heap) (Q : Value → Heap → Prop) : Prop :=
    Q s1 h
def mapNode_ii_keys.j9 (s0 : Value) (s1 : Value) (s5 : Value) (h : Heap) (K1 : List Value → Heap → Prop) (Q : Value → Heap → Prop) : Prop :=
    arith (· + ·) s5 (.int .i64 1) fun t17 =>
    K1 [s1, t17] h
def mapNode_ii_keys.j8 (s0 : Value) (s1 : Value) (s5 : Value) (h : Heap) (K1 : List Value → Heap → Prop) (Q : Value → Heap → Prop) : Prop :=
    nilck s0 fun t20 =>
    fld 2 t20 fun t21 =>
    load1 t21 h fun t22 =>
    idx 2 t22 s5 fun t24 =>
    fld 1 t24 fun t25 =>
    load1 t25 h fun t26 =>
    mkSl (if 1 * 1 = 0 then [] else zeros [(.int .i64 0)] 1) 1 [(0 * 1, 1, t26)] 3 h fun t27 h =>
    app 3 1 8 [(.int .i64 0)] s1 t27 h fun t28 h =>
    mapNode_ii_keys.j9 s0 t28 s5 h K1 Q
def mapNode_ii_keys.l7.b (c0 : Value) (s1 : Value) (s5 : Value) (h : Heap) (K1 : List Value → Heap → Prop) (Q : Value → Heap → Prop) : Prop :=
    nilck c0 fun t11 =>
    fld 2 t11 fun t12 =>
    load1 t12 h fun t13 =>
    lenV t13 fun t14 =>
    cmpI (fun a b => decide (a < b)) s5 t14 fun t15 =>
    ifV t15
    (mapNode_ii_keys.j8 c0 s1 s5 h K1 Q)
    (mapNode_ii_keys.j6 s1 h Q)
def mapNode_ii_keys.sh (a0 : Value) (a1 : Value) (h : Heap) (Q : Value → Heap → Prop) : Prop :=
    mapNode_ii_leaf.call #[a0] h fun t8 h =>
    ifV t8
    (loopC (fun c s h K1 => mapNode_ii_keys.l7.b (c.getD 0 undef) (s.getD 0 undef) (s.getD 1 undef) h K1 Q) [a0] [a1, (.int .i64 0)] h)
    (mapNode_ii_keys.j1 a0 a1 h Q)
theorem mapNode_ii_keys.body (a0 : Value) (a1 : Value) (h : Heap) (Q : Value → Heap → Prop) (H : mapNode_ii_keys.sh a0 a1 h Q) : mapNode_ii_keys.call #[a0, a1] h Q := by
  refine callsH_of (args := [a0, a1]) Try.func168 rfl rfl ?_
  unfold mapNode_ii_keys.sh at H
  refine WPc_seq' ?_
  refine W_region (by kernel_rfl) ?_
  refine vl_n ?_
  refine H_of_R (R_assign (v := (.slice none 0 0)) rfl ?_)
  refine vl_e ?_
  refine WPc_seq (fun e h => mapNode_ii_keys.j1 (e 0) (e 1) h Q) ?_ (fun e h H => ?_)
  rotate_left
  · unfold mapNode_ii_keys.j1 at H
    refine WPc_seq (fun e h => mapNode_ii_keys.j2 (e 0) (e 1) h Q) ?_ (fun e h H => ?_)
    rotate_left
    · unfold mapNode_ii_keys.j2 at H
      refine WPc_seq' ?_
      refine W_drawn [0, 1, 3, 7, 15, 31, 0, 64, 192, 448, 960, 1984, 4032, 8128, 16383, 32767, 0, 131071, 262143] (.take 0 (.take 1 (.take 2 (.take 3 (.take 4 (.take 5 (.take 6 (.take 7 (.take 8 (.take 9 (.take 10 (.take 11 (.take 12 (.take 13 (.take 14 (.take 15 (.take 16 (.alt 17 (.take 18 .done) .none)))))))))))))))))) mixed (by kernel_rfl) ?_
      refine tkP rfl ?_
      refine R_move (v := (e 0)) rfl ⟨fun _ => trivial, ?_⟩
      refine tkP rfl ?_
      refine R_nil H fun t62 H => ⟨fun _ => trivial, ?_⟩
      refine tkP rfl ?_
      refine R_fld TF_188_3 H fun t63 H => ⟨fun _ => trivial, ?_⟩
      refine tkL rfl ?_
      refine R_load1 T1_186 H fun at64 t64 hat64 _ H => ?_
      refine tkP rfl ?_
      refine R_nil H fun t65 H => ⟨fun _ => trivial, ?_⟩
      refine tkL rfl ?_
      refine R_load1 T1_194 H fun at66 t66 hat66 _ H => ?_
      refine tkP rfl ?_
      refine R_move (v := (e 0)) rfl ⟨fun _ => trivial, ?_⟩
      refine tkP rfl ?_
      refine R_nil H fun t68 H => ⟨fun _ => trivial, ?_⟩
      refine tkP rfl ?_
      refine R_fld TF_188_3 H fun t69 H => ⟨fun _ => trivial, ?_⟩
      refine tkL rfl ?_
      refine R_load1 T1_186 H fun at70 t70 hat70 _ H => ?_
      refine tkP rfl ?_
      refine R_nil H fun t71 H => ⟨fun _ => trivial, ?_⟩
      refine tkL rfl ?_
      refine R_load1 T1_194 H fun at72 t72 hat72 _ H => ?_
      refine tkP rfl ?_
      refine R_len Try.underlying194 H fun t73 H => ⟨fun _ => trivial, ?_⟩
      refine tkP rfl ?_
      refine R_sub H fun t74 H => ⟨fun _ => trivial, ?_⟩
      refine tkP rfl ?_
      refine R_idx TE_194 H fun t75 H => ⟨fun _ => trivial, ?_⟩
      refine tkL rfl ?_
      refine R_load1 T1_173 H fun at76 t76 hat76 _ H => ?_
      refine tkP rfl ?_
      refine R_move (v := (e 1)) rfl ⟨fun _ => trivial, ?_⟩
      refine alt_n rfl ?_ vp_none
      refine H_call HB_168 H fun t78 h H => ⟨(hskip rfl (hskip rfl (hskip rfl (hskip rfl (hskip rfl hnil))))), ?_⟩
      refine tkP rfl ?_
      refine R_assign (v := t78) rfl ⟨fun _ => trivial, ?_⟩
      refine vp_done ?_
      refine WPc_ret ?_
      refine resH_of rfl ?_
      exact H
    refine WPc_seq' ?_
    refine W_region (by kernel_rfl) ?_
    refine vl_n ?_
    refine H_of_R (R_assign (v := (.int .i64 0)) rfl ?_)
    refine vl_e ?_
    refine WPc_block ?_
    refine loop_at (fun e => [e 1, e 6]) (fun e => [e 0]) H rfl rfl ?_
    intro K1 e1 h H hin1
    replace H : mapNode_ii_keys.l3.b (e1 0) (e1 1) (e1 6) h K1 Q := H
    unfold mapNode_ii_keys.l3.b at H
    clear hin1
    refine WPc_seq (fun e h => mapNode_ii_keys.j4 (e 0) (e 1) (e 6) h K1 Q ∧ [e1 0] = [e 0]) ?_ (fun e h ⟨H, hq1⟩ => ?_)
    rotate_left
    · unfold mapNode_ii_keys.j4 at H
      refine WPc_seq (fun e h => mapNode_ii_keys.j5 (e 0) (e 1) (e 6) h K1 Q ∧ [e1 0] = [e 0]) ?_ (fun e h ⟨H, hq1⟩ => ?_)
      rotate_left
      · unfold mapNode_ii_keys.j5 at H
        refine W_region (by kernel_rfl) ?_
        refine vl_n ?_
        refine H_of_R (R_move (v := (e 6)) rfl ?_)
        refine vl_n ?_
        refine H_of_R (R_add H fun t38 H => ?_)
        refine vl_n ?_
        refine H_of_R (R_assign (v := t38) rfl ?_)
        refine vl_e ?_
        exact ⟨H, hq1⟩
      refine WPc_block ?_
      refine WPc_seq' ?_
      refine W_region (by kernel_rfl) ?_
      refine vl_n ?_
      refine H_of_R (R_move (v := (e 0)) rfl ?_)
      refine vl_n ?_
      refine H_of_R (R_nil H fun t40 H => ?_)
      refine vl_n ?_
      refine H_of_R (R_fld TF_188_3 H fun t41 H => ?_)
      refine vl_n ?_
      refine H_of_R (R_load1 T1_186 H fun _ t42 _ _ H => ?_)
      refine vl_n ?_
      refine H_of_R (R_nil H fun t43 H => ?_)
      refine vl_n ?_
      refine H_of_R (R_load1 T1_194 H fun _ t44 _ _ H => ?_)
      refine vl_n ?_
      refine H_of_R (R_move (v := (e 6)) rfl ?_)
      refine vl_n ?_
      refine H_of_R (R_idx TE_194 H fun t46 H => ?_)
      refine vl_n ?_
      refine H_of_R (R_load1 T1_173 H fun _ t47 _ _ H => ?_)
      refine vl_n ?_
      refine H_of_R (R_move (v := (e 1)) rfl ?_)
      refine vl_n ?_
      refine H_call HB_168 H fun t49 h H => ?_
      refine vl_n ?_
      refine H_of_R (R_assign (v := t49) rfl ?_)
      refine vl_e ?_
      refine W_region (by kernel_rfl) ?_
      refine vl_n ?_
      refine H_of_R (R_move (v := t49) rfl ?_)
      refine vl_n ?_
      refine H_of_R (R_move (v := (e 0)) rfl ?_)
      refine vl_n ?_
      refine H_of_R (R_nil H fun t52 H => ?_)
      refine vl_n ?_
      refine H_of_R (R_fld TF_188_2 H fun t53 H => ?_)
      refine vl_n ?_
      refine H_of_R (R_load1 T1_185 H fun _ t54 _ _ H => ?_)
      refine vl_n ?_
      refine H_of_R (R_move (v := (e 6)) rfl ?_)
      refine vl_n ?_
      refine H_of_R (R_idx TE_185 H fun t56 H => ?_)
      refine vl_n ?_
      refine H_of_R (R_fld TF_178_1 H fun t57 H => ?_)
      refine vl_n ?_
      refine H_of_R (R_load1 T1_3 H fun _ t58 _ _ H => ?_)
      refine vl_n ?_
      refine H_mkSl TZ_37 (by decide) rfl H rfl fun t59 h H => ?_
      refine vl_n ?_
      refine H_app TZ_37 TU_37 H fun t60 h H => ?_
      refine vl_n ?_
      refine H_of_R (R_assign (v := t60) rfl ?_)
      refine vl_e ?_
      exact ⟨H, hq1⟩
    refine WPc_seq' ?_
    refine W_region (by kernel_rfl) ?_
    refine vl_n ?_
    refine H_of_R (R_move (v := (e1 6)) rfl ?_)
    refine vl_n ?_
    refine H_of_R (R_move (v := (e1 0)) rfl ?_)
    refine vl_n ?_
    refine H_of_R (R_nil H fun t32 H => ?_)
    refine vl_n ?_
    refine H_of_R (R_fld TF_188_2 H fun t33 H => ?_)
    refine vl_n ?_
    refine H_of_R (R_load1 T1_185 H fun _ t34 _ _ H => ?_)
    refine vl_n ?_
    refine H_of_R (R_len Try.underlying185 H fun t35 H => ?_)
    refine vl_n ?_
    refine H_of_R (R_lss H fun t36 H => ?_)
    refine vl_e ?_
    obtain ⟨b, hc, H1, H2⟩ := H
    refine WPc_cond hc (fun hh => ?_) (fun hh => ?_)
    · have H := H1 hh; clear H1 H2
      refine WPc_skip ?_
      exact ⟨H, rfl⟩
    · have H := H2 hh; clear H1 H2
      refine WPc_exit ?_
      exact H
  refine WPc_seq' ?_
  refine W_region (by kernel_rfl) ?_
  refine vl_n ?_
  refine H_of_R (R_move (v := a0) rfl ?_)
  refine vl_n ?_
  refine H_call HB_126 H fun t8 h H => ?_
  refine vl_e ?_
  obtain ⟨b, hc, H1, H2⟩ := H
  refine WPc_cond hc (fun hh => ?_) (fun hh => ?_)
  · have H := H1 hh; clear H1 H2
    refine WPc_seq (fun e h => mapNode_ii_keys.j6 (e 1) h Q) ?_ (fun e h H => ?_)
    rotate_left
    · unfold mapNode_ii_keys.j6 at H
      refine WPc_seq' ?_
      refine W_region (by kernel_rfl) ?_
      refine vl_n ?_
      refine H_of_R (R_move (v := (e 1)) rfl ?_)
      refine vl_n ?_
      refine H_of_R (R_assign (v := (e 1)) rfl ?_)
      refine vl_e ?_
      refine WPc_ret ?_
      refine resH_of rfl ?_
      exact H
    refine WPc_seq' ?_
    refine W_region (by kernel_rfl) ?_
    refine vl_n ?_
    refine H_of_R (R_assign (v := (.int .i64 0)) rfl ?_)
    refine vl_e ?_
    refine WPc_block ?_
    refine loop_at (fun e => [e 1, e 5]) (fun e => [e 0]) H rfl rfl ?_
    intro K1 e1 h H hin1
    replace H : mapNode_ii_keys.l7.b (e1 0) (e1 1) (e1 5) h K1 Q := H
    unfold mapNode_ii_keys.l7.b at H
    clear hin1
    refine WPc_seq (fun e h => mapNode_ii_keys.j8 (e 0) (e 1) (e 5) h K1 Q ∧ [e1 0] = [e 0]) ?_ (fun e h ⟨H, hq1⟩ => ?_)
    rotate_left
    · unfold mapNode_ii_keys.j8 at H
      refine WPc_seq (fun e h => mapNode_ii_keys.j9 (e 0) (e 1) (e 5) h K1 Q ∧ [e1 0] = [e 0]) ?_ (fun e h ⟨H, hq1⟩ => ?_)
      rotate_left
      · unfold mapNode_ii_keys.j9 at H
        refine W_region (by kernel_rfl) ?_
        refine vl_n ?_
        refine H_of_R (R_move (v := (e 5)) rfl ?_)
        refine vl_n ?_
        refine H_of_R (R_add H fun t17 H => ?_)
        refine vl_n ?_
        refine H_of_R (R_assign (v := t17) rfl ?_)
        refine vl_e ?_
        exact ⟨H, hq1⟩
      refine WPc_block ?_
      refine W_region (by kernel_rfl) ?_
      refine vl_n ?_
      refine H_of_R (R_move (v := (e 1)) rfl ?_)
      refine vl_n ?_
      refine H_of_R (R_move (v := (e 0)) rfl ?_)
      refine vl_n ?_
      refine H_of_R (R_nil H fun t20 H => ?_)
      refine vl_n ?_
      refine H_of_R (R_fld TF_188_2 H fun t21 H => ?_)
      refine vl_n ?_
      refine H_of_R (R_load1 T1_185 H fun _ t22 _ _ H => ?_)
      refine vl_n ?_
      refine H_of_R (R_move (v := (e 5)) rfl ?_)
      refine vl_n ?_
      refine H_of_R (R_idx TE_185 H fun t24 H => ?_)
      refine vl_n ?_
      refine H_of_R (R_fld TF_178_1 H fun t25 H => ?_)
      refine vl_n ?_
      refine H_of_R (R_load1 T1_3 H fun _ t26 _ _ H => ?_)
      refine vl_n ?_
      refine H_mkSl TZ_37 (by decide) rfl H rfl fun t27 h H => ?_
      refine vl_n ?_
      refine H_app TZ_37 TU_37 H fun t28 h H => ?_
      refine vl_n ?_
      refine H_of_R (R_assign (v := t28) rfl ?_)
      refine vl_e ?_
      exact ⟨H, hq1⟩
    refine WPc_seq' ?_
    refine W_region (by kernel_rfl) ?_
    refine vl_n ?_
    refine H_of_R (R_move (v := (e1 5)) rfl ?_)
    refine vl_n ?_
    refine H_of_R (R_move (v := (e1 0)) rfl ?_)
    refine vl_n ?_
    refine H_of_R (R_nil H fun t11 H => ?_)
    refine vl_n ?_
    refine H_of_R (R_fld TF_188_2 H fun t12 H => ?_)
    refine vl_n ?_
    refine H_of_R (R_load1 T1_185 H fun _ t13 _ _ H => ?_)
    refine vl_n ?_
    refine H_of_R (R_len Try.underlying185 H fun t14 H => ?_)
    refine vl_n ?_
    refine H_of_R (R_lss H fun t15 H => ?_)
    refine vl_e ?_
    obtain ⟨b, hc, H1, H2⟩ := H
    refine WPc_cond hc (fun hh => ?_) (fun hh => ?_)
    · have H := H1 hh; clear H1 H2
      refine WPc_skip ?_
      exact ⟨H, rfl⟩
    · have H := H2 hh; clear H1 H2
      refine WPc_exit ?_
      exact H
  · have H := H2 hh; clear H1 H2
    refine WPc_skip ?_
    exact H
/-! ### (*pub/tidwallbtree.Map[int, int]).Keys -/
def Map_ii_Keys.j1 (s3 : Value) (h : Heap) (Q : Value → Heap → Prop) : Prop :=
    Q s3 h
def Map_ii_Keys.sh (a0 : Value) (h : Heap) (Q : Value → Heap → Prop) : Prop :=
    Map_ii_Len.call #[a0] h fun t5 h =>
    mks 3 1 8 [(.int .i64 0)] (.int .i64 0) t5 h fun t6 h =>
    nilck a0 fun t8 =>
    fld 2 t8 fun t9 =>
    load1 t9 h fun t10 =>
    neNilP t10 fun t11 =>
    ifV t11
    (nilck a0 fun t13 =>
    fld 2 t13 fun t14 =>
    load1 t14 h fun t15 =>
    mapNode_ii_keys.call #[t15, t6] h fun t17 h =>
    Map_ii_Keys.j1 t17 h Q)
    (Map_ii_Keys.j1 t6 h Q)
theorem Map_ii_Keys.body (a0 : Value) (h : Heap) (Q : Value → Heap → Prop) (H : Map_ii_Keys.sh a0 h Q) : Map_ii_Keys.call #[a0] h Q := by
  refine callsH_of (args := [a0]) Try.func128 rfl rfl ?_
  unfold Map_ii_Keys.sh at H
  refine WPc_seq' ?_
  refine W_region (by kernel_rfl) ?_
  refine vl_n ?_
  refine H_of_R (R_assign (v := (.slice none 0 0)) rfl ?_)
  refine vl_e ?_
  refine WPc_seq' ?_
  refine W_region (by kernel_rfl) ?_
  refine vl_n ?_
  refine H_of_R (R_move (v := a0) rfl ?_)
  refine vl_n ?_
  refine H_call HB_100 H fun t5 h H => ?_
  refine vl_n ?_
  refine H_mks TZ_37 rfl H fun t6 h H => ?_
  refine vl_n ?_
  refine H_of_R (R_assign (v := t6) rfl ?_)
  refine vl_e ?_
  refine WPc_seq (fun e h => Map_ii_Keys.j1 (e 3) h Q) ?_ (fun e h H => ?_)
  rotate_left
  · unfold Map_ii_Keys.j1 at H
    refine WPc_seq' ?_
    refine W_region (by kernel_rfl) ?_
    refine vl_n ?_
    refine H_of_R (R_move (v := (e 3)) rfl ?_)
    refine vl_n ?_
    refine H_of_R (R_assign (v := (e 3)) rfl ?_)
    refine vl_e ?_
    refine WPc_ret ?_
    refine resH_of rfl ?_
    exact H
  refine WPc_seq' ?_
  refine W_region (by kernel_rfl) ?_
  refine vl_n ?_
  refine H_of_R (R_move (v := a0) rfl ?_)
  refine vl_n ?_
  refine H_of_R (R_nil H fun t8 H => ?_)
  refine vl_n ?_
  refine H_of_R (R_fld TF_182_2 H fun t9 H => ?_)
  refine vl_n ?_
  refine H_of_R (R_load1 T1_173 H fun _ t10 _ _ H => ?_)
  refine vl_n ?_
  refine H_of_R (R_neNilP Try.underlying173 rfl H fun t11 H => ?_)
  refine vl_e ?_
  obtain ⟨b, hc, H1, H2⟩ := H
  refine WPc_cond hc (fun hh => ?_) (fun hh => ?_)
  · have H := H1 hh; clear H1 H2
    refine W_region (by kernel_rfl) ?_
    refine vl_n ?_
    refine H_of_R (R_move (v := a0) rfl ?_)
    refine vl_n ?_
    refine H_of_R (R_nil H fun t13 H => ?_)
    refine vl_n ?_
    refine H_of_R (R_fld TF_182_2 H fun t14 H => ?_)
    refine vl_n ?_
    refine H_of_R (R_load1 T1_173 H fun _ t15 _ _ H => ?_)
    refine vl_n ?_
    refine H_of_R (R_move (v := t6) rfl ?_)
    refine vl_n ?_
    refine H_call HB_168 H fun t17 h H => ?_
    refine vl_n ?_
    refine H_of_R (R_assign (v := t17) rfl ?_)
    refine vl_e ?_
    exact H
  · have H := H2 hh; clear H1 H2
    refine WPc_skip ?_
    exact H
/-! ### impl.MKeys -/
def i_MKeys.sh (a0 : Value) (a1 : Value) (h : Heap) (Q : Value → Heap → Prop) : Prop :=
    i_growMap.call #[a0, a1] h fun t7 h =>
    Map_ii_Keys.call #[t7] h fun t8 h =>
    Q t8 h
theorem i_MKeys.body (a0 : Value) (a1 : Value) (h : Heap) (Q : Value → Heap → Prop) (H : i_MKeys.sh a0 a1 h Q) : i_MKeys.call #[a0, a1] h Q := by
  refine callsH_of (args := [a0, a1]) Try.func74 rfl rfl ?_
  unfold i_MKeys.sh at H
  refine WPc_seq' ?_
  refine W_region (by kernel_rfl) ?_
  refine vl_n ?_
  refine H_of_R (R_assign (v := (.slice none 0 0)) rfl ?_)
  refine vl_e ?_
  refine WPc_seq' ?_
  refine W_region (by kernel_rfl) ?_
  refine vl_n ?_
  refine H_of_R (R_move (v := a0) rfl ?_)
  refine vl_n ?_
  refine H_of_R (R_move (v := a1) rfl ?_)
  refine vl_n ?_
  refine H_call HB_76 H fun t7 h H => ?_
  refine vl_n ?_
  refine H_call HB_128 H fun t8 h H => ?_
  refine vl_n ?_
  refine H_of_R (R_assign (v := t8) rfl ?_)
  refine vl_e ?_
  refine WPc_ret ?_
  refine resH_of rfl ?_
  exact H
/-! ### laws.exItems -/
def l_exItems.sh (h : Heap) (Q : Value → Heap → Prop) : Prop :=
    buildV [(.int .i64 0), (.int .i64 0)] [(0, 1, (.int .i64 5)), (1, 1, (.int .i64 1))] fun t1 =>
    buildV [(.int .i64 0), (.int .i64 0)] [(0, 1, (.int .i64 3)), (1, 1, (.int .i64 2))] fun t2 =>
    buildV [(.int .i64 0), (.int .i64 0)] [(0, 1, (.int .i64 9)), (1, 1, (.int .i64 3))] fun t3 =>
    buildV [(.int .i64 0), (.int .i64 0)] [(0, 1, (.int .i64 3)), (1, 1, (.int .i64 4))] fun t4 =>
    buildV [(.int .i64 0), (.int .i64 0)] [(0, 1, (.int .i64 1)), (1, 1, (.int .i64 5))] fun t5 =>
    buildV [(.int .i64 0), (.int .i64 0)] [(0, 1, (.int .i64 7)), (1, 1, (.int .i64 6))] fun t6 =>
    buildV [(.int .i64 0), (.int .i64 0)] [(0, 1, (.int .i64 8)), (1, 1, (.int .i64 7))] fun t7 =>
    mkSl (if 7 * 2 = 0 then [] else zeros [(.int .i64 0), (.int .i64 0)] 7) 7 [(0 * 2, 2, t1), (1 * 2, 2, t2), (2 * 2, 2, t3), (3 * 2, 2, t4), (4 * 2, 2, t5), (5 * 2, 2, t6), (6 * 2, 2, t7)] 27 h fun t8 h =>
    Q t8 h
theorem l_exItems.body (h : Heap) (Q : Value → Heap → Prop) (H : l_exItems.sh h Q) : l_exItems.call #[] h Q := by
  refine callsH_of (args := []) Try.func75 rfl rfl ?_
  unfold l_exItems.sh at H
  refine WPc_seq' ?_
  refine W_region (by kernel_rfl) ?_
  refine vl_n ?_
  refine H_of_R (R_assign (v := (.slice none 0 0)) rfl ?_)
  refine vl_e ?_
  refine WPc_seq' ?_
  refine W_region (by kernel_rfl) ?_
  refine vl_n ?_
  refine H_of_R (R_build TB_27 rfl (by decide) H fun t1 H => ?_)
  refine vl_n ?_
  refine H_of_R (R_build TB_27 rfl (by decide) H fun t2 H => ?_)
  refine vl_n ?_
  refine H_of_R (R_build TB_27 rfl (by decide) H fun t3 H => ?_)
  refine vl_n ?_
  refine H_of_R (R_build TB_27 rfl (by decide) H fun t4 H => ?_)
  refine vl_n ?_
  refine H_of_R (R_build TB_27 rfl (by decide) H fun t5 H => ?_)
  refine vl_n ?_
  refine H_of_R (R_build TB_27 rfl (by decide) H fun t6 H => ?_)
  refine vl_n ?_
  refine H_of_R (R_build TB_27 rfl (by decide) H fun t7 H => ?_)
  refine vl_n ?_
  refine H_mkSl TZ_22 (by decide) rfl H rfl fun t8 h H => ?_
  refine vl_n ?_
  refine H_of_R (R_assign (v := t8) rfl ?_)
  refine vl_e ?_
  refine WPc_ret ?_
  refine resH_of rfl ?_
  exact H
/-! ### laws.aliveM -/
def l_aliveM.sh (h : Heap) (Q : Value → Heap → Prop) : Prop :=
    l_exItems.call #[] h fun t1 h =>
    slc 2 t1 none (some (.int .i64 3)) none fun t2 =>
    i_MKeys.call #[(.int .i64 2), t2] h fun t3 h =>
    lenV t3 fun t4 =>
    cmpI (fun a b => a == b) t4 (.int .i64 3) fun t5 =>
    Q t5 h
theorem l_aliveM.body (h : Heap) (Q : Value → Heap → Prop) (H : l_aliveM.sh h Q) : l_aliveM.call #[] h Q := by
  refine callsH_of (args := []) Try.func26 rfl rfl ?_
  unfold l_aliveM.sh at H
  refine WPc_seq' ?_
  refine W_region (by kernel_rfl) ?_
  refine vl_n ?_
  refine H_of_R (R_assign (v := (.bool false)) rfl ?_)
  refine vl_e ?_
  refine WPc_seq' ?_
  refine W_region (by kernel_rfl) ?_
  refine vl_n ?_
  refine H_call HB_75 H fun t1 h H => ?_
  refine vl_n ?_
  refine H_of_R (R_slice TE_22 (by decide) H fun t2 H => ?_)
  refine vl_n ?_
  refine H_call HB_74 H fun t3 h H => ?_
  refine vl_n ?_
  refine H_of_R (R_len Try.underlying37 H fun t4 H => ?_)
  refine vl_n ?_
  refine H_of_R (R_eqI H fun t5 H => ?_)
  refine vl_n ?_
  refine H_of_R (R_assign (v := t5) rfl ?_)
  refine vl_e ?_
  refine WPc_ret ?_
  refine resH_of rfl ?_
  exact H
/-! ### spec.Modulo -/
def s_Modulo.sh (a0 : Value) (a1 : Value) (h : Heap) (Q : Value → Heap → Prop) : Prop :=
    remi a0 a1 fun t7 =>
    arith (· + ·) t7 a1 fun t9 =>
    remi t9 a1 fun t11 =>
    Q t11 h
theorem s_Modulo.body (a0 : Value) (a1 : Value) (h : Heap) (Q : Value → Heap → Prop) (H : s_Modulo.sh a0 a1 h Q) : s_Modulo.call #[a0, a1] h Q := by
  refine callsH_of (args := [a0, a1]) Try.func27 rfl rfl ?_
  unfold s_Modulo.sh at H
  refine WPc_seq' ?_
  refine W_region (by kernel_rfl) ?_
  refine vl_n ?_
  refine H_of_R (R_assign (v := (.int .i64 0)) rfl ?_)
  refine vl_e ?_
  refine WPc_seq' ?_
  refine W_region (by kernel_rfl) ?_
  refine vl_n ?_
  refine H_of_R (R_move (v := a0) rfl ?_)
  refine vl_n ?_
  refine H_of_R (R_move (v := a1) rfl ?_)
  refine vl_n ?_
  refine H_of_R (R_rem H fun t7 H => ?_)
  refine vl_n ?_
  refine H_of_R (R_move (v := a1) rfl ?_)
  refine vl_n ?_
  refine H_of_R (R_add H fun t9 H => ?_)
  refine vl_n ?_
  refine H_of_R (R_move (v := a1) rfl ?_)
  refine vl_n ?_
  refine H_of_R (R_rem H fun t11 H => ?_)
  refine vl_n ?_
  refine H_of_R (R_assign (v := t11) rfl ?_)
  refine vl_e ?_
  refine WPc_ret ?_
  refine resH_of rfl ?_
  exact H

end Go.Proofs.Ytlihjljdndbpdaa
