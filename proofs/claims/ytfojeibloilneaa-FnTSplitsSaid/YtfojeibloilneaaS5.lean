/-
  Shallow forms of the walked functions, and that each call comes to its form. Written by a program of this repo (gen.py). Conditions: none.
-/
import Derived.Test.YtfojeibloilneaaST
namespace Go.Proofs.Ytfojeibloilneaa
open Go.Hp
set_option maxRecDepth 100000
set_option maxHeartbeats 8000000
set_option linter.unusedVariables false
set_option linter.unusedSimpArgs false

/-! ### (*pub/tidwallbtree.Set[string]).Insert -/
def Set_s_Insert.sh (a0 : Value) (a1 : Value) (h : Heap) (Q : Value → Heap → Prop) : Prop :=
    nilck a0 fun t5 =>
    fld 0 t5 fun t6 =>
    buildV [] [] fun t8 =>
    Map_su_Set.call #[t6, a1, t8] h fun t9 h =>
    Q (.tuple #[]) h
theorem Set_s_Insert.body (a0 : Value) (a1 : Value) (h : Heap) (Q : Value → Heap → Prop) (H : Set_s_Insert.sh a0 a1 h Q) : Set_s_Insert.call #[a0, a1] h Q := by
  refine callsH_of (args := [a0, a1]) Try.func27 rfl rfl ?_
  unfold Set_s_Insert.sh at H
  refine W_region (by kernel_rfl) ?_
  refine vl_n ?_
  refine H_of_R (R_move (v := a0) rfl ?_)
  refine vl_n ?_
  refine H_of_R (R_nil H fun t5 H => ?_)
  refine vl_n ?_
  refine H_of_R (R_fld TF_65_0 H fun t6 H => ?_)
  refine vl_n ?_
  refine H_of_R (R_move (v := a1) rfl ?_)
  refine vl_n ?_
  refine H_of_R (R_build TB_59 rfl (by decide) H fun t8 H => ?_)
  refine vl_n ?_
  refine H_call HB_43 H fun t9 h H => ?_
  refine vl_e ?_
  refine resH_of rfl ?_
  exact H
/-! ### impl.growTexts -/
def i_growTexts.j1 (s3 : Value) (h : Heap) (Q : Value → Heap → Prop) : Prop :=
    Q s3 h
def i_growTexts.j4 (s3 : Value) (s7 : Value) (s8 : Value) (s9 : Value) (h : Heap) (K1 : List Value → Heap → Prop) (Q : Value → Heap → Prop) : Prop :=
    arith (· + ·) s9 (.int .i64 1) fun t16 =>
    K1 [t16] h
def i_growTexts.j3 (s3 : Value) (s7 : Value) (s8 : Value) (s9 : Value) (h : Heap) (K1 : List Value → Heap → Prop) (Q : Value → Heap → Prop) : Prop :=
    idx 1 s7 s9 fun t11 =>
    load1 t11 h fun t12 =>
    Set_s_Insert.call #[s3, t12] h fun t15 h =>
    i_growTexts.j4 s3 s7 s8 s9 h K1 Q
def i_growTexts.l2.b (c3 : Value) (c7 : Value) (c8 : Value) (s9 : Value) (h : Heap) (K1 : List Value → Heap → Prop) (Q : Value → Heap → Prop) : Prop :=
    cmpI (fun a b => decide (a < b)) s9 c8 fun t10 =>
    ifV t10
    (i_growTexts.j3 c3 c7 c8 s9 h K1 Q)
    (i_growTexts.j1 c3 h Q)
def i_growTexts.sh (a0 : Value) (h : Heap) (Q : Value → Heap → Prop) : Prop :=
    alloc [(.int .u64 0), (.pointer none), (.pointer none), (.int .i64 0), (.string ⟨#[]⟩), (.int .i64 0), (.int .i64 0), (.bool false), (.bool false)] 65 h fun t6 h =>
    lenV a0 fun t8 =>
    loopC (fun c s h K1 => i_growTexts.l2.b (c.getD 0 undef) (c.getD 1 undef) (c.getD 2 undef) (s.getD 0 undef) h K1 Q) [t6, a0, t8] [(.int .i64 0)] h
theorem i_growTexts.body (a0 : Value) (h : Heap) (Q : Value → Heap → Prop) (H : i_growTexts.sh a0 h Q) : i_growTexts.call #[a0] h Q := by
  refine callsH_of (args := [a0]) Try.func24 rfl rfl ?_
  unfold i_growTexts.sh at H
  refine WPc_seq' ?_
  refine W_region (by kernel_rfl) ?_
  refine vl_n ?_
  refine H_of_R (R_assign (v := (.pointer none)) rfl ?_)
  refine vl_e ?_
  refine WPc_seq' ?_
  refine W_region (by kernel_rfl) ?_
  refine vl_n ?_
  refine H_alloc TV_65 H fun t6 h H => ?_
  refine vl_n ?_
  refine H_of_R (R_assign (v := t6) rfl ?_)
  refine vl_e ?_
  refine WPc_seq (fun e h => i_growTexts.j1 (e 3) h Q) ?_ (fun e h H => ?_)
  rotate_left
  · unfold i_growTexts.j1 at H
    refine WPc_seq' ?_
    refine W_region (by kernel_rfl) ?_
    refine vl_n ?_
    refine H_of_R (R_move (v := (e 3)) rfl ?_)
    refine vl_n ?_
    refine H_of_R (R_assign (v := (e 3)) rfl ?_)
    refine vl_e ?_
    refine WPc_ret ?_
    refine resH_of rfl ?_
    exact H
  refine WPc_seq' ?_
  refine W_region (by kernel_rfl) ?_
  refine vl_n ?_
  refine H_of_R (R_move (v := a0) rfl ?_)
  refine vl_n ?_
  refine H_of_R (R_len Try.underlying22 H fun t8 H => ?_)
  refine vl_n ?_
  refine H_of_R (R_move (v := (.int .i64 0)) rfl ?_)
  refine vl_e ?_
  refine WPc_block ?_
  refine loop_at (fun e => [e 9]) (fun e => [e 3, e 7, e 8]) H rfl rfl ?_
  intro K1 e1 h H hin1
  replace H : i_growTexts.l2.b (e1 3) (e1 7) (e1 8) (e1 9) h K1 Q := H
  unfold i_growTexts.l2.b at H
  clear hin1
  refine WPc_seq' ?_
  refine W_region (by kernel_rfl) ?_
  refine vl_n ?_
  refine H_of_R (R_lss H fun t10 H => ?_)
  refine vl_e ?_
  refine WPc_seq (fun e h => i_growTexts.j3 (e 3) (e 7) (e 8) (e 9) h K1 Q ∧ [e1 3, e1 7, e1 8] = [e 3, e 7, e 8]) ?_ (fun e h ⟨H, hq1⟩ => ?_)
  rotate_left
  · unfold i_growTexts.j3 at H
    refine WPc_seq (fun e h => i_growTexts.j4 (e 3) (e 7) (e 8) (e 9) h K1 Q ∧ [e1 3, e1 7, e1 8] = [e 3, e 7, e 8]) ?_ (fun e h ⟨H, hq1⟩ => ?_)
    rotate_left
    · unfold i_growTexts.j4 at H
      refine W_region (by kernel_rfl) ?_
      refine vl_n ?_
      refine H_of_R (R_add H fun t16 H => ?_)
      refine vl_n ?_
      refine H_of_R (R_move (v := t16) rfl ?_)
      refine vl_e ?_
      exact ⟨H, hq1⟩
    refine WPc_block ?_
    refine WPc_seq' ?_
    refine W_region (by kernel_rfl) ?_
    refine vl_n ?_
    refine H_of_R (R_idx TE_22 H fun t11 H => ?_)
    refine vl_n ?_
    refine H_of_R (R_load1 T1_9 H fun _ t12 _ _ H => ?_)
    refine vl_n ?_
    refine H_of_R (R_assign (v := t12) rfl ?_)
    refine vl_e ?_
    refine W_region (by kernel_rfl) ?_
    refine vl_n ?_
    refine H_of_R (R_move (v := (e 3)) rfl ?_)
    refine vl_n ?_
    refine H_of_R (R_move (v := t12) rfl ?_)
    refine vl_n ?_
    refine H_call HB_27 H fun t15 h H => ?_
    refine vl_e ?_
    exact ⟨H, hq1⟩
  obtain ⟨b, hc, H1, H2⟩ := H
  refine WPc_cond hc (fun hh => ?_) (fun hh => ?_)
  · have H := H1 hh; clear H1 H2
    refine WPc_skip ?_
    exact ⟨H, rfl⟩
  · have H := H2 hh; clear H1 H2
    refine WPc_exit ?_
    exact H
/-! ### (*pub/tidwallbtree.Map[string, struct{}]).Len -/
def Map_su_Len.sh (a0 : Value) (h : Heap) (Q : Value → Heap → Prop) : Prop :=
    nilck a0 fun t4 =>
    fld 3 t4 fun t5 =>
    load1 t5 h fun t6 =>
    Q t6 h
theorem Map_su_Len.body (a0 : Value) (h : Heap) (Q : Value → Heap → Prop) (H : Map_su_Len.sh a0 h Q) : Map_su_Len.call #[a0] h Q := by
  refine callsH_of (args := [a0]) Try.func59 rfl rfl ?_
  unfold Map_su_Len.sh at H
  refine WPc_seq' ?_
  refine W_region (by kernel_rfl) ?_
  refine vl_n ?_
  refine H_of_R (R_assign (v := (.int .i64 0)) rfl ?_)
  refine vl_e ?_
  refine WPc_seq' ?_
  refine W_region (by kernel_rfl) ?_
  refine vl_n ?_
  refine H_of_R (R_move (v := a0) rfl ?_)
  refine vl_n ?_
  refine H_of_R (R_nil H fun t4 H => ?_)
  refine vl_n ?_
  refine H_of_R (R_fld TF_63_3 H fun t5 H => ?_)
  refine vl_n ?_
  refine H_of_R (R_load1 T1_3 H fun _ t6 _ _ H => ?_)
  refine vl_n ?_
  refine H_of_R (R_assign (v := t6) rfl ?_)
  refine vl_e ?_
  refine WPc_ret ?_
  refine resH_of rfl ?_
  exact H
/-! ### (*pub/tidwallbtree.mapNode[string, struct{}]).keys -/
def mapNode_su_keys.j2 (s0 : Value) (s1 : Value) (h : Heap) (Q : Value → Heap → Prop) : Prop :=
    nilck s0 fun t62 =>
    fld 3 t62 fun t63 =>
    load1 t63 h fun t64 =>
    nilck t64 fun t65 =>
    load1 t65 h fun t66 =>
    nilck s0 fun t68 =>
    fld 3 t68 fun t69 =>
    load1 t69 h fun t70 =>
    nilck t70 fun t71 =>
    load1 t71 h fun t72 =>
    lenV t72 fun t73 =>
    arith (· - ·) t73 (.int .i64 1) fun t74 =>
    idx 1 t66 t74 fun t75 =>
    load1 t75 h fun t76 =>
    mapNode_su_keys.call #[t76, s1] h fun t78 h =>
    Q t78 h
def mapNode_su_keys.j5 (s0 : Value) (s1 : Value) (s6 : Value) (h : Heap) (K1 : List Value → Heap → Prop) (Q : Value → Heap → Prop) : Prop :=
    arith (· + ·) s6 (.int .i64 1) fun t38 =>
    K1 [s1, t38] h
def mapNode_su_keys.j4 (s0 : Value) (s1 : Value) (s6 : Value) (h : Heap) (K1 : List Value → Heap → Prop) (Q : Value → Heap → Prop) : Prop :=
    nilck s0 fun t40 =>
    fld 3 t40 fun t41 =>
    load1 t41 h fun t42 =>
    nilck t42 fun t43 =>
    load1 t43 h fun t44 =>
    idx 1 t44 s6 fun t46 =>
    load1 t46 h fun t47 =>
    mapNode_su_keys.call #[t47, s1] h fun t49 h =>
    nilck s0 fun t52 =>
    fld 2 t52 fun t53 =>
    load1 t53 h fun t54 =>
    idx 1 t54 s6 fun t56 =>
    fld 0 t56 fun t57 =>
    load1 t57 h fun t58 =>
    mkSl (if 1 * 1 = 0 then [] else zeros [(.string ⟨#[]⟩)] 1) 1 [(0 * 1, 1, t58)] 9 h fun t59 h =>
    app 9 1 16 [(.string ⟨#[]⟩)] t49 t59 h fun t60 h =>
    mapNode_su_keys.j5 s0 t60 s6 h K1 Q
def mapNode_su_keys.l3.b (c0 : Value) (s1 : Value) (s6 : Value) (h : Heap) (K1 : List Value → Heap → Prop) (Q : Value → Heap → Prop) : Prop :=
    nilck c0 fun t32 =>
    fld 2 t32 fun t33 =>
    load1 t33 h fun t34 =>
    lenV t34 fun t35 =>
    cmpI (fun a b => decide (a < b)) s6 t35 fun t36 =>
    ifV t36
    (mapNode_su_keys.j4 c0 s1 s6 h K1 Q)
    (mapNode_su_keys.j2 c0 s1 h Q)
def mapNode_su_keys.j1 (s0 : Value) (s1 : Value) (h : Heap) (Q : Value → Heap → Prop) : Prop :=
    loopC (fun c s h K1 => mapNode_su_keys.l3.b (c.getD 0 undef) (s.getD 0 undef) (s.getD 1 undef) h K1 Q) [s0] [s1, (.int .i64 0)] h
def mapNode_su_keys.j6 (s1 : Value) (h : Heap) (Q : Value → Heap → Prop) : Prop :=
    Q s1 h
def mapNode_su_keys.j9 (s0 : Value) (s1 : Value) (s5 : Value) (h : Heap) (K1 : List Value → Heap → Prop) (Q : Value → Heap → Prop) : Prop :=
    arith (· + ·) s5 (.int .i64 1) fun t17 =>
    K1 [s1, t17] h
def mapNode_su_keys.j8 (s0 : Value) (s1 : Value) (s5 : Value) (h : Heap) (K1 : List Value → Heap → Prop) (Q : Value → Heap → Prop) : Prop :=
    nilck s0 fun t20 =>
    fld 2 t20 fun t21 =>
    load1 t21 h fun t22 =>
    idx 1 t22 s5 fun t24 =>
    fld 0 t24 fun t25 =>
    load1 t25 h fun t26 =>
    mkSl (if 1 * 1 = 0 then [] else zeros [(.string ⟨#[]⟩)] 1) 1 [(0 * 1, 1, t26)] 9 h fun t27 h =>
    app 9 1 16 [(.string ⟨#[]⟩)] s1 t27 h fun t28 h =>
    mapNode_su_keys.j9 s0 t28 s5 h K1 Q
def mapNode_su_keys.l7.b (c0 : Value) (s1 : Value) (s5 : Value) (h : Heap) (K1 : List Value → Heap → Prop) (Q : Value → Heap → Prop) : Prop :=
    nilck c0 fun t11 =>
    fld 2 t11 fun t12 =>
    load1 t12 h fun t13 =>
    lenV t13 fun t14 =>
    cmpI (fun a b => decide (a < b)) s5 t14 fun t15 =>
    ifV t15
    (mapNode_su_keys.j8 c0 s1 s5 h K1 Q)
    (mapNode_su_keys.j6 s1 h Q)
def mapNode_su_keys.sh (a0 : Value) (a1 : Value) (h : Heap) (Q : Value → Heap → Prop) : Prop :=
    mapNode_su_leaf.call #[a0] h fun t8 h =>
    ifV t8
    (loopC (fun c s h K1 => mapNode_su_keys.l7.b (c.getD 0 undef) (s.getD 0 undef) (s.getD 1 undef) h K1 Q) [a0] [a1, (.int .i64 0)] h)
    (mapNode_su_keys.j1 a0 a1 h Q)
theorem mapNode_su_keys.body (a0 : Value) (a1 : Value) (h : Heap) (Q : Value → Heap → Prop) (H : mapNode_su_keys.sh a0 a1 h Q) : mapNode_su_keys.call #[a0, a1] h Q := by
  refine callsH_of (args := [a0, a1]) Try.func60 rfl rfl ?_
  unfold mapNode_su_keys.sh at H
  refine WPc_seq' ?_
  refine W_region (by kernel_rfl) ?_
  refine vl_n ?_
  refine H_of_R (R_assign (v := (.slice none 0 0)) rfl ?_)
  refine vl_e ?_
  refine WPc_seq (fun e h => mapNode_su_keys.j1 (e 0) (e 1) h Q) ?_ (fun e h H => ?_)
  rotate_left
  · unfold mapNode_su_keys.j1 at H
    refine WPc_seq (fun e h => mapNode_su_keys.j2 (e 0) (e 1) h Q) ?_ (fun e h H => ?_)
    rotate_left
    · unfold mapNode_su_keys.j2 at H
      refine WPc_seq' ?_
      refine W_drawn [0, 1, 3, 7, 15, 31, 0, 64, 192, 448, 960, 1984, 4032, 8128, 16383, 32767, 0, 131071, 262143] (.take 0 (.take 1 (.take 2 (.take 3 (.take 4 (.take 5 (.take 6 (.take 7 (.take 8 (.take 9 (.take 10 (.take 11 (.take 12 (.take 13 (.take 14 (.take 15 (.take 16 (.alt 17 (.take 18 .done) .none)))))))))))))))))) mixed (by kernel_rfl) ?_
      refine tkP rfl ?_
      refine R_move (v := (e 0)) rfl ⟨fun _ => trivial, ?_⟩
      refine tkP rfl ?_
      refine R_nil H fun t62 H => ⟨fun _ => trivial, ?_⟩
      refine tkP rfl ?_
      refine R_fld TF_82_3 H fun t63 H => ⟨fun _ => trivial, ?_⟩
      refine tkL rfl ?_
      refine R_load1 T1_80 H fun at64 t64 hat64 _ H => ?_
      refine tkP rfl ?_
      refine R_nil H fun t65 H => ⟨fun _ => trivial, ?_⟩
      refine tkL rfl ?_
      refine R_load1 T1_88 H fun at66 t66 hat66 _ H => ?_
      refine tkP rfl ?_
      refine R_move (v := (e 0)) rfl ⟨fun _ => trivial, ?_⟩
      refine tkP rfl ?_
      refine R_nil H fun t68 H => ⟨fun _ => trivial, ?_⟩
      refine tkP rfl ?_
      refine R_fld TF_82_3 H fun t69 H => ⟨fun _ => trivial, ?_⟩
      refine tkL rfl ?_
      refine R_load1 T1_80 H fun at70 t70 hat70 _ H => ?_
      refine tkP rfl ?_
      refine R_nil H fun t71 H => ⟨fun _ => trivial, ?_⟩
      refine tkL rfl ?_
      refine R_load1 T1_88 H fun at72 t72 hat72 _ H => ?_
      refine tkP rfl ?_
      refine R_len Try.underlying88 H fun t73 H => ⟨fun _ => trivial, ?_⟩
      refine tkP rfl ?_
      refine R_sub H fun t74 H => ⟨fun _ => trivial, ?_⟩
      refine tkP rfl ?_
      refine R_idx TE_88 H fun t75 H => ⟨fun _ => trivial, ?_⟩
      refine tkL rfl ?_
      refine R_load1 T1_58 H fun at76 t76 hat76 _ H => ?_
      refine tkP rfl ?_
      refine R_move (v := (e 1)) rfl ⟨fun _ => trivial, ?_⟩
      refine alt_n rfl ?_ vp_none
      refine H_call HB_60 H fun t78 h H => ⟨(hskip rfl (hskip rfl (hskip rfl (hskip rfl (hskip rfl hnil))))), ?_⟩
      refine tkP rfl ?_
      refine R_assign (v := t78) rfl ⟨fun _ => trivial, ?_⟩
      refine vp_done ?_
      refine WPc_ret ?_
      refine resH_of rfl ?_
      exact H
    refine WPc_seq' ?_
    refine W_region (by kernel_rfl) ?_
    refine vl_n ?_
    refine H_of_R (R_assign (v := (.int .i64 0)) rfl ?_)
    refine vl_e ?_
    refine WPc_block ?_
    refine loop_at (fun e => [e 1, e 6]) (fun e => [e 0]) H rfl rfl ?_
    intro K1 e1 h H hin1
    replace H : mapNode_su_keys.l3.b (e1 0) (e1 1) (e1 6) h K1 Q := H
    unfold mapNode_su_keys.l3.b at H
    clear hin1
    refine WPc_seq (fun e h => mapNode_su_keys.j4 (e 0) (e 1) (e 6) h K1 Q ∧ [e1 0] = [e 0]) ?_ (fun e h ⟨H, hq1⟩ => ?_)
    rotate_left
    · unfold mapNode_su_keys.j4 at H
      refine WPc_seq (fun e h => mapNode_su_keys.j5 (e 0) (e 1) (e 6) h K1 Q ∧ [e1 0] = [e 0]) ?_ (fun e h ⟨H, hq1⟩ => ?_)
      rotate_left
      · unfold mapNode_su_keys.j5 at H
        refine W_region (by kernel_rfl) ?_
        refine vl_n ?_
        refine H_of_R (R_move (v := (e 6)) rfl ?_)
        refine vl_n ?_
        refine H_of_R (R_add H fun t38 H => ?_)
        refine vl_n ?_
        refine H_of_R (R_assign (v := t38) rfl ?_)
        refine vl_e ?_
        exact ⟨H, hq1⟩
      refine WPc_block ?_
      refine WPc_seq' ?_
      refine W_region (by kernel_rfl) ?_
      refine vl_n ?_
      refine H_of_R (R_move (v := (e 0)) rfl ?_)
      refine vl_n ?_
      refine H_of_R (R_nil H fun t40 H => ?_)
      refine vl_n ?_
      refine H_of_R (R_fld TF_82_3 H fun t41 H => ?_)
      refine vl_n ?_
      refine H_of_R (R_load1 T1_80 H fun _ t42 _ _ H => ?_)
      refine vl_n ?_
      refine H_of_R (R_nil H fun t43 H => ?_)
      refine vl_n ?_
      refine H_of_R (R_load1 T1_88 H fun _ t44 _ _ H => ?_)
      refine vl_n ?_
      refine H_of_R (R_move (v := (e 6)) rfl ?_)
      refine vl_n ?_
      refine H_of_R (R_idx TE_88 H fun t46 H => ?_)
      refine vl_n ?_
      refine H_of_R (R_load1 T1_58 H fun _ t47 _ _ H => ?_)
      refine vl_n ?_
      refine H_of_R (R_move (v := (e 1)) rfl ?_)
      refine vl_n ?_
      refine H_call HB_60 H fun t49 h H => ?_
      refine vl_n ?_
      refine H_of_R (R_assign (v := t49) rfl ?_)
      refine vl_e ?_
      refine W_region (by kernel_rfl) ?_
      refine vl_n ?_
      refine H_of_R (R_move (v := t49) rfl ?_)
      refine vl_n ?_
      refine H_of_R (R_move (v := (e 0)) rfl ?_)
      refine vl_n ?_
      refine H_of_R (R_nil H fun t52 H => ?_)
      refine vl_n ?_
      refine H_of_R (R_fld TF_82_2 H fun t53 H => ?_)
      refine vl_n ?_
      refine H_of_R (R_load1 T1_79 H fun _ t54 _ _ H => ?_)
      refine vl_n ?_
      refine H_of_R (R_move (v := (e 6)) rfl ?_)
      refine vl_n ?_
      refine H_of_R (R_idx TE_79 H fun t56 H => ?_)
      refine vl_n ?_
      refine H_of_R (R_fld TF_61_1 H fun t57 H => ?_)
      refine vl_n ?_
      refine H_of_R (R_load1 T1_9 H fun _ t58 _ _ H => ?_)
      refine vl_n ?_
      refine H_mkSl TZ_22 (by decide) rfl H rfl fun t59 h H => ?_
      refine vl_n ?_
      refine H_app TZ_22 TU_22 H fun t60 h H => ?_
      refine vl_n ?_
      refine H_of_R (R_assign (v := t60) rfl ?_)
      refine vl_e ?_
      exact ⟨H, hq1⟩
    refine WPc_seq' ?_
    refine W_region (by kernel_rfl) ?_
    refine vl_n ?_
    refine H_of_R (R_move (v := (e1 6)) rfl ?_)
    refine vl_n ?_
    refine H_of_R (R_move (v := (e1 0)) rfl ?_)
    refine vl_n ?_
    refine H_of_R (R_nil H fun t32 H => ?_)
    refine vl_n ?_
    refine H_of_R (R_fld TF_82_2 H fun t33 H => ?_)
    refine vl_n ?_
    refine H_of_R (R_load1 T1_79 H fun _ t34 _ _ H => ?_)
    refine vl_n ?_
    refine H_of_R (R_len Try.underlying79 H fun t35 H => ?_)
    refine vl_n ?_
    refine H_of_R (R_lss H fun t36 H => ?_)
    refine vl_e ?_
    obtain ⟨b, hc, H1, H2⟩ := H
    refine WPc_cond hc (fun hh => ?_) (fun hh => ?_)
    · have H := H1 hh; clear H1 H2
      refine WPc_skip ?_
      exact ⟨H, rfl⟩
    · have H := H2 hh; clear H1 H2
      refine WPc_exit ?_
      exact H
  refine WPc_seq' ?_
  refine W_region (by kernel_rfl) ?_
  refine vl_n ?_
  refine H_of_R (R_move (v := a0) rfl ?_)
  refine vl_n ?_
  refine H_call HB_63 H fun t8 h H => ?_
  refine vl_e ?_
  obtain ⟨b, hc, H1, H2⟩ := H
  refine WPc_cond hc (fun hh => ?_) (fun hh => ?_)
  · have H := H1 hh; clear H1 H2
    refine WPc_seq (fun e h => mapNode_su_keys.j6 (e 1) h Q) ?_ (fun e h H => ?_)
    rotate_left
    · unfold mapNode_su_keys.j6 at H
      refine WPc_seq' ?_
      refine W_region (by kernel_rfl) ?_
      refine vl_n ?_
      refine H_of_R (R_move (v := (e 1)) rfl ?_)
      refine vl_n ?_
      refine H_of_R (R_assign (v := (e 1)) rfl ?_)
      refine vl_e ?_
      refine WPc_ret ?_
      refine resH_of rfl ?_
      exact H
    refine WPc_seq' ?_
    refine W_region (by kernel_rfl) ?_
    refine vl_n ?_
    refine H_of_R (R_assign (v := (.int .i64 0)) rfl ?_)
    refine vl_e ?_
    refine WPc_block ?_
    refine loop_at (fun e => [e 1, e 5]) (fun e => [e 0]) H rfl rfl ?_
    intro K1 e1 h H hin1
    replace H : mapNode_su_keys.l7.b (e1 0) (e1 1) (e1 5) h K1 Q := H
    unfold mapNode_su_keys.l7.b at H
    clear hin1
    refine WPc_seq (fun e h => mapNode_su_keys.j8 (e 0) (e 1) (e 5) h K1 Q ∧ [e1 0] = [e 0]) ?_ (fun e h ⟨H, hq1⟩ => ?_)
    rotate_left
    · unfold mapNode_su_keys.j8 at H
      refine WPc_seq (fun e h => mapNode_su_keys.j9 (e 0) (e 1) (e 5) h K1 Q ∧ [e1 0] = [e 0]) ?_ (fun e h ⟨H, hq1⟩ => ?_)
      rotate_left
      · unfold mapNode_su_keys.j9 at H
        refine W_region (by kernel_rfl) ?_
        refine vl_n ?_
        refine H_of_R (R_move (v := (e 5)) rfl ?_)
        refine vl_n ?_
        refine H_of_R (R_add H fun t17 H => ?_)
        refine vl_n ?_
        refine H_of_R (R_assign (v := t17) rfl ?_)
        refine vl_e ?_
        exact ⟨H, hq1⟩
      refine WPc_block ?_
      refine W_region (by kernel_rfl) ?_
      refine vl_n ?_
      refine H_of_R (R_move (v := (e 1)) rfl ?_)
      refine vl_n ?_
      refine H_of_R (R_move (v := (e 0)) rfl ?_)
      refine vl_n ?_
      refine H_of_R (R_nil H fun t20 H => ?_)
      refine vl_n ?_
      refine H_of_R (R_fld TF_82_2 H fun t21 H => ?_)
      refine vl_n ?_
      refine H_of_R (R_load1 T1_79 H fun _ t22 _ _ H => ?_)
      refine vl_n ?_
      refine H_of_R (R_move (v := (e 5)) rfl ?_)
      refine vl_n ?_
      refine H_of_R (R_idx TE_79 H fun t24 H => ?_)
      refine vl_n ?_
      refine H_of_R (R_fld TF_61_1 H fun t25 H => ?_)
      refine vl_n ?_
      refine H_of_R (R_load1 T1_9 H fun _ t26 _ _ H => ?_)
      refine vl_n ?_
      refine H_mkSl TZ_22 (by decide) rfl H rfl fun t27 h H => ?_
      refine vl_n ?_
      refine H_app TZ_22 TU_22 H fun t28 h H => ?_
      refine vl_n ?_
      refine H_of_R (R_assign (v := t28) rfl ?_)
      refine vl_e ?_
      exact ⟨H, hq1⟩
    refine WPc_seq' ?_
    refine W_region (by kernel_rfl) ?_
    refine vl_n ?_
    refine H_of_R (R_move (v := (e1 5)) rfl ?_)
    refine vl_n ?_
    refine H_of_R (R_move (v := (e1 0)) rfl ?_)
    refine vl_n ?_
    refine H_of_R (R_nil H fun t11 H => ?_)
    refine vl_n ?_
    refine H_of_R (R_fld TF_82_2 H fun t12 H => ?_)
    refine vl_n ?_
    refine H_of_R (R_load1 T1_79 H fun _ t13 _ _ H => ?_)
    refine vl_n ?_
    refine H_of_R (R_len Try.underlying79 H fun t14 H => ?_)
    refine vl_n ?_
    refine H_of_R (R_lss H fun t15 H => ?_)
    refine vl_e ?_
    obtain ⟨b, hc, H1, H2⟩ := H
    refine WPc_cond hc (fun hh => ?_) (fun hh => ?_)
    · have H := H1 hh; clear H1 H2
      refine WPc_skip ?_
      exact ⟨H, rfl⟩
    · have H := H2 hh; clear H1 H2
      refine WPc_exit ?_
      exact H
  · have H := H2 hh; clear H1 H2
    refine WPc_skip ?_
    exact H
/-! ### (*pub/tidwallbtree.Map[string, struct{}]).Keys -/
def Map_su_Keys.j1 (s3 : Value) (h : Heap) (Q : Value → Heap → Prop) : Prop :=
    Q s3 h
def Map_su_Keys.sh (a0 : Value) (h : Heap) (Q : Value → Heap → Prop) : Prop :=
    Map_su_Len.call #[a0] h fun t5 h =>
    mks 9 1 16 [(.string ⟨#[]⟩)] (.int .i64 0) t5 h fun t6 h =>
    nilck a0 fun t8 =>
    fld 2 t8 fun t9 =>
    load1 t9 h fun t10 =>
    neNilP t10 fun t11 =>
    ifV t11
    (nilck a0 fun t13 =>
    fld 2 t13 fun t14 =>
    load1 t14 h fun t15 =>
    mapNode_su_keys.call #[t15, t6] h fun t17 h =>
    Map_su_Keys.j1 t17 h Q)
    (Map_su_Keys.j1 t6 h Q)
theorem Map_su_Keys.body (a0 : Value) (h : Heap) (Q : Value → Heap → Prop) (H : Map_su_Keys.sh a0 h Q) : Map_su_Keys.call #[a0] h Q := by
  refine callsH_of (args := [a0]) Try.func44 rfl rfl ?_
  unfold Map_su_Keys.sh at H
  refine WPc_seq' ?_
  refine W_region (by kernel_rfl) ?_
  refine vl_n ?_
  refine H_of_R (R_assign (v := (.slice none 0 0)) rfl ?_)
  refine vl_e ?_
  refine WPc_seq' ?_
  refine W_region (by kernel_rfl) ?_
  refine vl_n ?_
  refine H_of_R (R_move (v := a0) rfl ?_)
  refine vl_n ?_
  refine H_call HB_59 H fun t5 h H => ?_
  refine vl_n ?_
  refine H_mks TZ_22 rfl H fun t6 h H => ?_
  refine vl_n ?_
  refine H_of_R (R_assign (v := t6) rfl ?_)
  refine vl_e ?_
  refine WPc_seq (fun e h => Map_su_Keys.j1 (e 3) h Q) ?_ (fun e h H => ?_)
  rotate_left
  · unfold Map_su_Keys.j1 at H
    refine WPc_seq' ?_
    refine W_region (by kernel_rfl) ?_
    refine vl_n ?_
    refine H_of_R (R_move (v := (e 3)) rfl ?_)
    refine vl_n ?_
    refine H_of_R (R_assign (v := (e 3)) rfl ?_)
    refine vl_e ?_
    refine WPc_ret ?_
    refine resH_of rfl ?_
    exact H
  refine WPc_seq' ?_
  refine W_region (by kernel_rfl) ?_
  refine vl_n ?_
  refine H_of_R (R_move (v := a0) rfl ?_)
  refine vl_n ?_
  refine H_of_R (R_nil H fun t8 H => ?_)
  refine vl_n ?_
  refine H_of_R (R_fld TF_63_2 H fun t9 H => ?_)
  refine vl_n ?_
  refine H_of_R (R_load1 T1_58 H fun _ t10 _ _ H => ?_)
  refine vl_n ?_
  refine H_of_R (R_neNilP Try.underlying58 rfl H fun t11 H => ?_)
  refine vl_e ?_
  obtain ⟨b, hc, H1, H2⟩ := H
  refine WPc_cond hc (fun hh => ?_) (fun hh => ?_)
  · have H := H1 hh; clear H1 H2
    refine W_region (by kernel_rfl) ?_
    refine vl_n ?_
    refine H_of_R (R_move (v := a0) rfl ?_)
    refine vl_n ?_
    refine H_of_R (R_nil H fun t13 H => ?_)
    refine vl_n ?_
    refine H_of_R (R_fld TF_63_2 H fun t14 H => ?_)
    refine vl_n ?_
    refine H_of_R (R_load1 T1_58 H fun _ t15 _ _ H => ?_)
    refine vl_n ?_
    refine H_of_R (R_move (v := t6) rfl ?_)
    refine vl_n ?_
    refine H_call HB_60 H fun t17 h H => ?_
    refine vl_n ?_
    refine H_of_R (R_assign (v := t17) rfl ?_)
    refine vl_e ?_
    exact H
  · have H := H2 hh; clear H1 H2
    refine WPc_skip ?_
    exact H
/-! ### (*pub/tidwallbtree.Set[string]).Keys -/
def Set_s_Keys.sh (a0 : Value) (h : Heap) (Q : Value → Heap → Prop) : Prop :=
    nilck a0 fun t4 =>
    fld 0 t4 fun t5 =>
    Map_su_Keys.call #[t5] h fun t6 h =>
    Q t6 h
theorem Set_s_Keys.body (a0 : Value) (h : Heap) (Q : Value → Heap → Prop) (H : Set_s_Keys.sh a0 h Q) : Set_s_Keys.call #[a0] h Q := by
  refine callsH_of (args := [a0]) Try.func28 rfl rfl ?_
  unfold Set_s_Keys.sh at H
  refine WPc_seq' ?_
  refine W_region (by kernel_rfl) ?_
  refine vl_n ?_
  refine H_of_R (R_assign (v := (.slice none 0 0)) rfl ?_)
  refine vl_e ?_
  refine WPc_seq' ?_
  refine W_region (by kernel_rfl) ?_
  refine vl_n ?_
  refine H_of_R (R_move (v := a0) rfl ?_)
  refine vl_n ?_
  refine H_of_R (R_nil H fun t4 H => ?_)
  refine vl_n ?_
  refine H_of_R (R_fld TF_65_0 H fun t5 H => ?_)
  refine vl_n ?_
  refine H_call HB_44 H fun t6 h H => ?_
  refine vl_n ?_
  refine H_of_R (R_assign (v := t6) rfl ?_)
  refine vl_e ?_
  refine WPc_ret ?_
  refine resH_of rfl ?_
  exact H
/-! ### impl.TInsert -/
def i_TInsert.sh (a0 : Value) (h : Heap) (Q : Value → Heap → Prop) : Prop :=
    i_growTexts.call #[a0] h fun t4 h =>
    Set_s_Keys.call #[t4] h fun t5 h =>
    Q t5 h
theorem i_TInsert.body (a0 : Value) (h : Heap) (Q : Value → Heap → Prop) (H : i_TInsert.sh a0 h Q) : i_TInsert.call #[a0] h Q := by
  refine callsH_of (args := [a0]) Try.func11 rfl rfl ?_
  unfold i_TInsert.sh at H
  refine WPc_seq' ?_
  refine W_region (by kernel_rfl) ?_
  refine vl_n ?_
  refine H_of_R (R_assign (v := (.slice none 0 0)) rfl ?_)
  refine vl_e ?_
  refine WPc_seq' ?_
  refine W_region (by kernel_rfl) ?_
  refine vl_n ?_
  refine H_of_R (R_move (v := a0) rfl ?_)
  refine vl_n ?_
  refine H_call HB_24 H fun t4 h H => ?_
  refine vl_n ?_
  refine H_call HB_28 H fun t5 h H => ?_
  refine vl_n ?_
  refine H_of_R (R_assign (v := t5) rfl ?_)
  refine vl_e ?_
  refine WPc_ret ?_
  refine resH_of rfl ?_
  exact H
/-! ### slices.Equal[[]string,string] -/
def sl_Equal_ss.j2 (h : Heap) (Q : Value → Heap → Prop) : Prop :=
    Q (.bool true) h
def sl_Equal_ss.j5 (s0 : Value) (s1 : Value) (s12 : Value) (s13 : Value) (h : Heap) (K1 : List Value → Heap → Prop) (Q : Value → Heap → Prop) : Prop :=
    arith (· + ·) s13 (.int .i64 1) fun t25 =>
    K1 [t25] h
def sl_Equal_ss.j4 (s0 : Value) (s1 : Value) (s12 : Value) (s13 : Value) (h : Heap) (K1 : List Value → Heap → Prop) (Q : Value → Heap → Prop) : Prop :=
    idx 1 s0 s13 fun t18 =>
    load1 t18 h fun t19 =>
    idx 1 s1 s13 fun t22 =>
    load1 t22 h fun t23 =>
    cmpS (fun _ eq => !eq) t19 t23 fun t24 =>
    ifV t24
    (Q (.bool false) h)
    (sl_Equal_ss.j5 s0 s1 s12 s13 h K1 Q)
def sl_Equal_ss.l3.b (c0 : Value) (c1 : Value) (c12 : Value) (s13 : Value) (h : Heap) (K1 : List Value → Heap → Prop) (Q : Value → Heap → Prop) : Prop :=
    cmpI (fun a b => decide (a < b)) s13 c12 fun t14 =>
    ifV t14
    (sl_Equal_ss.j4 c0 c1 c12 s13 h K1 Q)
    (sl_Equal_ss.j2 h Q)
def sl_Equal_ss.j1 (s0 : Value) (s1 : Value) (h : Heap) (Q : Value → Heap → Prop) : Prop :=
    lenV s0 fun t12 =>
    loopC (fun c s h K1 => sl_Equal_ss.l3.b (c.getD 0 undef) (c.getD 1 undef) (c.getD 2 undef) (s.getD 0 undef) h K1 Q) [s0, s1, t12] [(.int .i64 0)] h
def sl_Equal_ss.sh (a0 : Value) (a1 : Value) (h : Heap) (Q : Value → Heap → Prop) : Prop :=
    lenV a0 fun t7 =>
    lenV a1 fun t9 =>
    cmpI (fun a b => a != b) t7 t9 fun t10 =>
    ifV t10
    (Q (.bool false) h)
    (sl_Equal_ss.j1 a0 a1 h Q)
theorem sl_Equal_ss.body (a0 : Value) (a1 : Value) (h : Heap) (Q : Value → Heap → Prop) (H : sl_Equal_ss.sh a0 a1 h Q) : sl_Equal_ss.call #[a0, a1] h Q := by
  refine callsH_of (args := [a0, a1]) Try.func12 rfl rfl ?_
  unfold sl_Equal_ss.sh at H
  refine WPc_seq' ?_
  refine W_region (by kernel_rfl) ?_
  refine vl_n ?_
  refine H_of_R (R_assign (v := (.bool false)) rfl ?_)
  refine vl_e ?_
  refine WPc_seq (fun e h => sl_Equal_ss.j1 (e 0) (e 1) h Q) ?_ (fun e h H => ?_)
  rotate_left
  · unfold sl_Equal_ss.j1 at H
    refine WPc_seq (fun e h => sl_Equal_ss.j2 h Q) ?_ (fun e h H => ?_)
    rotate_left
    · unfold sl_Equal_ss.j2 at H
      refine WPc_seq' ?_
      refine W_region (by kernel_rfl) ?_
      refine vl_n ?_
      refine H_of_R (R_assign (v := (.bool true)) rfl ?_)
      refine vl_e ?_
      refine WPc_ret ?_
      refine resH_of rfl ?_
      exact H
    refine WPc_seq' ?_
    refine W_region (by kernel_rfl) ?_
    refine vl_n ?_
    refine H_of_R (R_move (v := (e 0)) rfl ?_)
    refine vl_n ?_
    refine H_of_R (R_len Try.underlying22 H fun t12 H => ?_)
    refine vl_n ?_
    refine H_of_R (R_move (v := (.int .i64 0)) rfl ?_)
    refine vl_e ?_
    refine WPc_block ?_
    refine loop_at (fun e => [e 13]) (fun e => [e 0, e 1, e 12]) H rfl rfl ?_
    intro K1 e1 h H hin1
    replace H : sl_Equal_ss.l3.b (e1 0) (e1 1) (e1 12) (e1 13) h K1 Q := H
    unfold sl_Equal_ss.l3.b at H
    clear hin1
    refine WPc_seq' ?_
    refine W_region (by kernel_rfl) ?_
    refine vl_n ?_
    refine H_of_R (R_lss H fun t14 H => ?_)
    refine vl_e ?_
    refine WPc_seq (fun e h => sl_Equal_ss.j4 (e 0) (e 1) (e 12) (e 13) h K1 Q ∧ [e1 0, e1 1, e1 12] = [e 0, e 1, e 12]) ?_ (fun e h ⟨H, hq1⟩ => ?_)
    rotate_left
    · unfold sl_Equal_ss.j4 at H
      refine WPc_seq (fun e h => sl_Equal_ss.j5 (e 0) (e 1) (e 12) (e 13) h K1 Q ∧ [e1 0, e1 1, e1 12] = [e 0, e 1, e 12]) ?_ (fun e h ⟨H, hq1⟩ => ?_)
      rotate_left
      · unfold sl_Equal_ss.j5 at H
        refine W_region (by kernel_rfl) ?_
        refine vl_n ?_
        refine H_of_R (R_add H fun t25 H => ?_)
        refine vl_n ?_
        refine H_of_R (R_move (v := t25) rfl ?_)
        refine vl_e ?_
        exact ⟨H, hq1⟩
      refine WPc_block ?_
      refine WPc_seq' ?_
      refine W_region (by kernel_rfl) ?_
      refine vl_n ?_
      refine H_of_R (R_move (v := (e 13)) rfl ?_)
      refine vl_n ?_
      refine H_of_R (R_assign (v := (e 13)) rfl ?_)
      refine vl_e ?_
      refine WPc_seq' ?_
      refine W_drawn [0, 0, 3, 7, 0, 0, 48, 112, 255] (.take 0 (.take 1 (.take 2 (.take 3 (.take 4 (.take 5 (.take 6 (.take 7 (.take 8 .done))))))))) mixed (by kernel_rfl) ?_
      refine tkP rfl ?_
      refine R_move (v := (e 0)) rfl ⟨fun _ => trivial, ?_⟩
      refine tkP rfl ?_
      refine R_move (v := (e 13)) rfl ⟨fun _ => trivial, ?_⟩
      refine tkP rfl ?_
      refine R_idx TE_22 H fun t18 H => ⟨fun _ => trivial, ?_⟩
      refine tkL rfl ?_
      refine R_load1 T1_9 H fun at19 t19 hat19 _ H => ?_
      refine tkP rfl ?_
      refine R_move (v := (e 1)) rfl ⟨fun _ => trivial, ?_⟩
      refine tkP rfl ?_
      refine R_move (v := (e 13)) rfl ⟨fun _ => trivial, ?_⟩
      refine tkP rfl ?_
      refine R_idx TE_22 H fun t22 H => ⟨fun _ => trivial, ?_⟩
      refine tkL rfl ?_
      refine R_load1 T1_9 H fun at23 t23 hat23 _ H => ?_
      refine tkP rfl ?_
      refine R_neS H fun t24 H => ⟨fun _ => trivial, ?_⟩
      refine vp_done ?_
      obtain ⟨b, hc, H1, H2⟩ := H
      refine WPc_cond hc (fun hh => ?_) (fun hh => ?_)
      · have H := H1 hh; clear H1 H2
        refine WPc_seq' ?_
        refine W_region (by kernel_rfl) ?_
        refine vl_n ?_
        refine H_of_R (R_assign (v := (.bool false)) rfl ?_)
        refine vl_e ?_
        refine WPc_ret ?_
        refine resH_of rfl ?_
        exact H
      · have H := H2 hh; clear H1 H2
        refine WPc_skip ?_
        exact ⟨H, hq1⟩
    obtain ⟨b, hc, H1, H2⟩ := H
    refine WPc_cond hc (fun hh => ?_) (fun hh => ?_)
    · have H := H1 hh; clear H1 H2
      refine WPc_skip ?_
      exact ⟨H, rfl⟩
    · have H := H2 hh; clear H1 H2
      refine WPc_exit ?_
      exact H
  refine WPc_seq' ?_
  refine W_region (by kernel_rfl) ?_
  refine vl_n ?_
  refine H_of_R (R_move (v := a0) rfl ?_)
  refine vl_n ?_
  refine H_of_R (R_len Try.underlying22 H fun t7 H => ?_)
  refine vl_n ?_
  refine H_of_R (R_move (v := a1) rfl ?_)
  refine vl_n ?_
  refine H_of_R (R_len Try.underlying22 H fun t9 H => ?_)
  refine vl_n ?_
  refine H_of_R (R_neI H fun t10 H => ?_)
  refine vl_e ?_
  obtain ⟨b, hc, H1, H2⟩ := H
  refine WPc_cond hc (fun hh => ?_) (fun hh => ?_)
  · have H := H1 hh; clear H1 H2
    refine WPc_seq' ?_
    refine W_region (by kernel_rfl) ?_
    refine vl_n ?_
    refine H_of_R (R_assign (v := (.bool false)) rfl ?_)
    refine vl_e ?_
    refine WPc_ret ?_
    refine resH_of rfl ?_
    exact H
  · have H := H2 hh; clear H1 H2
    refine WPc_skip ?_
    exact H
/-! ### laws.aliveT -/
def l_aliveT.sh (h : Heap) (Q : Value → Heap → Prop) : Prop :=
    mkSl (if 3 * 1 = 0 then [] else zeros [(.string ⟨#[]⟩)] 3) 3 [(0 * 1, 1, (.string ⟨#[98]⟩)), (1 * 1, 1, (.string ⟨#[97]⟩)), (2 * 1, 1, (.string ⟨#[98]⟩))] 9 h fun t1 h =>
    i_TInsert.call #[t1] h fun t2 h =>
    lenV t2 fun t3 =>
    cmpI (fun a b => a == b) t3 (.int .i64 2) fun t4 =>
    Q t4 h
theorem l_aliveT.body (h : Heap) (Q : Value → Heap → Prop) (H : l_aliveT.sh h Q) : l_aliveT.call #[] h Q := by
  refine callsH_of (args := []) Try.func13 rfl rfl ?_
  unfold l_aliveT.sh at H
  refine WPc_seq' ?_
  refine W_region (by kernel_rfl) ?_
  refine vl_n ?_
  refine H_of_R (R_assign (v := (.bool false)) rfl ?_)
  refine vl_e ?_
  refine WPc_seq' ?_
  refine W_region (by kernel_rfl) ?_
  refine vl_n ?_
  refine H_mkSl TZ_22 (by decide) rfl H rfl fun t1 h H => ?_
  refine vl_n ?_
  refine H_call HB_11 H fun t2 h H => ?_
  refine vl_n ?_
  refine H_of_R (R_len Try.underlying22 H fun t3 H => ?_)
  refine vl_n ?_
  refine H_of_R (R_eqI H fun t4 H => ?_)
  refine vl_n ?_
  refine H_of_R (R_assign (v := t4) rfl ?_)
  refine vl_e ?_
  refine WPc_ret ?_
  refine resH_of rfl ?_
  exact H
/-! ### slices.Grow[[]string,string] -/
def sl_Grow_ss.j2 (s0 : Value) (h : Heap) (Q : Value → Heap → Prop) : Prop :=
    Q s0 h
def sl_Grow_ss.j1 (s0 : Value) (s1 : Value) (h : Heap) (Q : Value → Heap → Prop) : Prop :=
    capV s0 fun t10 =>
    lenV s0 fun t12 =>
    arith (· - ·) t10 t12 fun t13 =>
    arith (· - ·) s1 t13 fun t14 =>
    cmpI (fun a b => decide (a > b)) t14 (.int .i64 0) fun t16 =>
    ifV t16
    (capV s0 fun t19 =>
    slc 1 s0 none (some t19) none fun t20 =>
    appZ 9 1 16 [(.string ⟨#[]⟩)] t20 t14 h fun t22 h =>
    lenV s0 fun t24 =>
    slc 1 t22 none (some t24) none fun t25 =>
    sl_Grow_ss.j2 t25 h Q)
    (sl_Grow_ss.j2 s0 h Q)
def sl_Grow_ss.sh (a0 : Value) (a1 : Value) (h : Heap) (Q : Value → Heap → Prop) : Prop :=
    cmpI (fun a b => decide (a < b)) a1 (.int .i64 0) fun t6 =>
    ifV t6
    (False)
    (sl_Grow_ss.j1 a0 a1 h Q)
theorem sl_Grow_ss.body (a0 : Value) (a1 : Value) (h : Heap) (Q : Value → Heap → Prop) (H : sl_Grow_ss.sh a0 a1 h Q) : sl_Grow_ss.call #[a0, a1] h Q := by
  refine callsH_of (args := [a0, a1]) Try.func30 rfl rfl ?_
  unfold sl_Grow_ss.sh at H
  refine WPc_seq' ?_
  refine W_region (by kernel_rfl) ?_
  refine vl_n ?_
  refine H_of_R (R_assign (v := (.slice none 0 0)) rfl ?_)
  refine vl_e ?_
  refine WPc_seq (fun e h => sl_Grow_ss.j1 (e 0) (e 1) h Q) ?_ (fun e h H => ?_)
  rotate_left
  · unfold sl_Grow_ss.j1 at H
    refine WPc_seq (fun e h => sl_Grow_ss.j2 (e 0) h Q) ?_ (fun e h H => ?_)
    rotate_left
    · unfold sl_Grow_ss.j2 at H
      refine WPc_seq' ?_
      refine W_region (by kernel_rfl) ?_
      refine vl_n ?_
      refine H_of_R (R_move (v := (e 0)) rfl ?_)
      refine vl_n ?_
      refine H_of_R (R_assign (v := (e 0)) rfl ?_)
      refine vl_e ?_
      refine WPc_ret ?_
      refine resH_of rfl ?_
      exact H
    refine WPc_seq' ?_
    refine W_region (by kernel_rfl) ?_
    refine vl_n ?_
    refine H_of_R (R_move (v := (e 1)) rfl ?_)
    refine vl_n ?_
    refine H_of_R (R_move (v := (e 0)) rfl ?_)
    refine vl_n ?_
    refine H_of_R (R_cap Try.underlying22 H fun t10 H => ?_)
    refine vl_n ?_
    refine H_of_R (R_move (v := (e 0)) rfl ?_)
    refine vl_n ?_
    refine H_of_R (R_len Try.underlying22 H fun t12 H => ?_)
    refine vl_n ?_
    refine H_of_R (R_sub H fun t13 H => ?_)
    refine vl_n ?_
    refine H_of_R (R_sub H fun t14 H => ?_)
    refine vl_n ?_
    refine H_of_R (R_assign (v := t14) rfl ?_)
    refine vl_e ?_
    refine WPc_seq' ?_
    refine W_region (by kernel_rfl) ?_
    refine vl_n ?_
    refine H_of_R (R_move (v := t14) rfl ?_)
    refine vl_n ?_
    refine H_of_R (R_gtr H fun t16 H => ?_)
    refine vl_e ?_
    obtain ⟨b, hc, H1, H2⟩ := H
    refine WPc_cond hc (fun hh => ?_) (fun hh => ?_)
    · have H := H1 hh; clear H1 H2
      refine W_region (by kernel_rfl) ?_
      refine vl_n ?_
      refine H_of_R (R_move (v := (e 0)) rfl ?_)
      refine vl_n ?_
      refine H_of_R (R_move (v := (e 0)) rfl ?_)
      refine vl_n ?_
      refine H_of_R (R_cap Try.underlying22 H fun t19 H => ?_)
      refine vl_n ?_
      refine H_of_R (R_slice TE_22 (by decide) H fun t20 H => ?_)
      refine vl_n ?_
      refine H_of_R (R_move (v := t14) rfl ?_)
      refine vl_n ?_
      refine H_appZ TZ_22 Try.underlying3 H fun t22 h H => ?_
      refine vl_n ?_
      refine H_of_R (R_move (v := (e 0)) rfl ?_)
      refine vl_n ?_
      refine H_of_R (R_len Try.underlying22 H fun t24 H => ?_)
      refine vl_n ?_
      refine H_of_R (R_slice TE_22 (by decide) H fun t25 H => ?_)
      refine vl_n ?_
      refine H_of_R (R_assign (v := t25) rfl ?_)
      refine vl_e ?_
      exact H
    · have H := H2 hh; clear H1 H2
      refine WPc_skip ?_
      exact H
  refine WPc_seq' ?_
  refine W_region (by kernel_rfl) ?_
  refine vl_n ?_
  refine H_of_R (R_move (v := a1) rfl ?_)
  refine vl_n ?_
  refine H_of_R (R_lss H fun t6 H => ?_)
  refine vl_e ?_
  obtain ⟨b, hc, H1, H2⟩ := H
  refine WPc_cond hc (fun hh => ?_) (fun hh => ?_)
  · have H := H1 hh; clear H1 H2
    refine W_region (by kernel_rfl) ?_
    refine vl_n ?_
    refine H_of_R (R_mkI Try.underlying9 (by intro k hk; cases hk) ?_)
    refine vl_n ?_
    exact H.elim
  · have H := H2 hh; clear H1 H2
    refine WPc_skip ?_
    exact H

end Go.Proofs.Ytfojeibloilneaa
