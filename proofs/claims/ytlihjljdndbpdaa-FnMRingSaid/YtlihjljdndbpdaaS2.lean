/-
  Shallow forms of the walked functions, and that each call comes to its form. Written by a program of this repo (gen.py). Conditions: none.
-/
import Derived.Test.YtlihjljdndbpdaaST
namespace Go.Proofs.Ytlihjljdndbpdaa
open Go.Hp
set_option maxRecDepth 100000
set_option maxHeartbeats 8000000
set_option linter.unusedVariables false
set_option linter.unusedSimpArgs false

/-! ### (pub/tidwallbtree.DoorMapNode[int, int]).DoorItem -/
def DoorMapNode_ii_DoorItem.sh (a0 : Value) (a1 : Value) (a2 : Value) (h : Heap) (Q : Value → Heap → Prop) : Prop :=
    box 175 a0 h fun t3 h =>
    fld 0 t3 fun t6 =>
    load1 t6 h fun t7 =>
    fld 0 t3 fun t8 =>
    load1 t8 h fun t9 =>
    nilck t9 fun t10 =>
    fld 2 t10 fun t11 =>
    load1 t11 h fun t12 =>
    buildV [(.int .i64 0), (.int .i64 0)] [(1, 1, a1), (0, 1, a2)] fun t15 =>
    mkSl (if 1 * 2 = 0 then [] else zeros [(.int .i64 0), (.int .i64 0)] 1) 1 [(0 * 2, 2, t15)] 178 h fun t16 h =>
    still1 t6 t7 h ∧ still1 t8 t9 h ∧ still1 t11 t12 h ∧ app 178 2 16 [(.int .i64 0), (.int .i64 0)] t12 t16 h fun t17 h =>
    still1 t6 t7 h ∧ nilck t7 fun t18 =>
    fld 2 t18 fun t19 =>
    store1 t19 t17 h fun h =>
    Q (.tuple #[]) h
theorem DoorMapNode_ii_DoorItem.body (a0 : Value) (a1 : Value) (a2 : Value) (h : Heap) (Q : Value → Heap → Prop) (H : DoorMapNode_ii_DoorItem.sh a0 a1 a2 h Q) : DoorMapNode_ii_DoorItem.call #[a0, a1, a2] h Q := by
  refine callsH_of (args := [a0, a1, a2]) Try.func152 rfl rfl ?_
  unfold DoorMapNode_ii_DoorItem.sh at H
  refine WPc_seq' ?_
  refine W_region (by kernel_rfl) ?_
  refine vl_n ?_
  refine H_box H fun t3 h H => ?_
  refine vl_e ?_
  refine W_drawn [0, 1, 0, 4, 12, 28, 60, 0, 0, 384, 896, 2044, 4095, 8191, 16383] (.take 0 (.take 1 (.take 2 (.take 3 (.take 4 (.take 5 (.take 6 (.take 7 (.take 8 (.take 9 (.alt 10 (.alt 11 (.take 12 (.take 13 (.alt 14 .done .none))) .none) .none))))))))))) mixed (by kernel_rfl) ?_
  refine tkP rfl ?_
  refine R_fld TF_175_0 H fun t6 H => ⟨fun _ => trivial, ?_⟩
  refine tkL rfl ?_
  refine R_load1 T1_173 H fun at7 t7 hat7 _ H => ?_
  refine tkP rfl ?_
  refine R_fld TF_175_0 H fun t8 H => ⟨fun _ => trivial, ?_⟩
  refine tkL rfl ?_
  refine R_load1 T1_173 H fun at9 t9 hat9 _ H => ?_
  refine tkP rfl ?_
  refine R_nil H fun t10 H => ⟨fun _ => trivial, ?_⟩
  refine tkP rfl ?_
  refine R_fld TF_188_2 H fun t11 H => ⟨fun _ => trivial, ?_⟩
  refine tkL rfl ?_
  refine R_load1 T1_185 H fun at12 t12 hat12 _ H => ?_
  refine tkP rfl ?_
  refine R_move (v := a1) rfl ⟨fun _ => trivial, ?_⟩
  refine tkP rfl ?_
  refine R_move (v := a2) rfl ⟨fun _ => trivial, ?_⟩
  refine tkP rfl ?_
  refine R_build TB_178 rfl (by decide) H fun t15 H => ⟨fun _ => trivial, ?_⟩
  refine alt_n rfl ?_ vp_none
  refine H_mkSl TZ_185 (by decide) rfl H rfl fun t16 h ⟨S, S_2, S_3, H⟩ => ⟨(hcons rfl (still_1 S_3 hat12) (hcons rfl (still_1 S_2 hat9) (hcons rfl (still_1 S hat7) hnil))), ?_⟩
  refine alt_n rfl ?_ vp_none
  refine H_app TZ_185 TU_185 H fun t17 h ⟨S_4, H⟩ => ⟨(hskip rfl (hskip rfl (hcons rfl (still_1 S_4 hat7) hnil))), ?_⟩
  refine tkP rfl ?_
  refine R_nil H fun t18 H => ⟨fun _ => trivial, ?_⟩
  refine tkP rfl ?_
  refine R_fld TF_188_2 H fun t19 H => ⟨fun _ => trivial, ?_⟩
  refine alt_n rfl ?_ vp_none
  refine H_store1 TS_185 H fun h H => ⟨(hskip rfl hnil), ?_⟩
  refine vp_done ?_
  refine resH_of rfl ?_
  exact H
/-! ### (pub/tidwallbtree.DoorMapNode[int, int]).DoorAppend -/
def DoorMapNode_ii_DoorAppend.sh (a0 : Value) (a1 : Value) (h : Heap) (Q : Value → Heap → Prop) : Prop :=
    box 175 a0 h fun t2 h =>
    box 175 a1 h fun t3 h =>
    fld 0 t2 fun t4 =>
    load1 t4 h fun t5 =>
    nilck t5 fun t6 =>
    fld 3 t6 fun t7 =>
    load1 t7 h fun t8 =>
    fld 0 t2 fun t9 =>
    load1 t9 h fun t10 =>
    nilck t10 fun t11 =>
    fld 3 t11 fun t12 =>
    load1 t12 h fun t13 =>
    nilck t13 fun t14 =>
    load1 t14 h fun t15 =>
    fld 0 t3 fun t16 =>
    load1 t16 h fun t17 =>
    mkSl (if 1 * 1 = 0 then [] else zeros [(.pointer none)] 1) 1 [(0 * 1, 1, t17)] 173 h fun t18 h =>
    still1 t4 t5 h ∧ still1 t7 t8 h ∧ still1 t9 t10 h ∧ still1 t12 t13 h ∧ still1 t14 t15 h ∧ app 173 1 8 [(.pointer none)] t15 t18 h fun t19 h =>
    still1 t4 t5 h ∧ still1 t7 t8 h ∧ nilck t8 fun t20 =>
    store1 t20 t19 h fun h =>
    Q (.tuple #[]) h
theorem DoorMapNode_ii_DoorAppend.body (a0 : Value) (a1 : Value) (h : Heap) (Q : Value → Heap → Prop) (H : DoorMapNode_ii_DoorAppend.sh a0 a1 h Q) : DoorMapNode_ii_DoorAppend.call #[a0, a1] h Q := by
  refine callsH_of (args := [a0, a1]) Try.func153 rfl rfl ?_
  unfold DoorMapNode_ii_DoorAppend.sh at H
  refine WPc_seq' ?_
  refine W_region (by kernel_rfl) ?_
  refine vl_n ?_
  refine H_box H fun t2 h H => ?_
  refine vl_n ?_
  refine H_box H fun t3 h H => ?_
  refine vl_e ?_
  refine W_drawn [0, 1, 3, 7, 15, 0, 32, 96, 224, 480, 992, 2016, 0, 4096, 12288, 32736, 65535, 131071] (.take 0 (.take 1 (.take 2 (.take 3 (.take 4 (.take 5 (.take 6 (.take 7 (.take 8 (.take 9 (.take 10 (.take 11 (.take 12 (.take 13 (.alt 14 (.alt 15 (.take 16 (.alt 17 .done .none)) .none) .none))))))))))))))) mixed (by kernel_rfl) ?_
  refine tkP rfl ?_
  refine R_fld TF_175_0 H fun t4 H => ⟨fun _ => trivial, ?_⟩
  refine tkL rfl ?_
  refine R_load1 T1_173 H fun at5 t5 hat5 _ H => ?_
  refine tkP rfl ?_
  refine R_nil H fun t6 H => ⟨fun _ => trivial, ?_⟩
  refine tkP rfl ?_
  refine R_fld TF_188_3 H fun t7 H => ⟨fun _ => trivial, ?_⟩
  refine tkL rfl ?_
  refine R_load1 T1_186 H fun at8 t8 hat8 _ H => ?_
  refine tkP rfl ?_
  refine R_fld TF_175_0 H fun t9 H => ⟨fun _ => trivial, ?_⟩
  refine tkL rfl ?_
  refine R_load1 T1_173 H fun at10 t10 hat10 _ H => ?_
  refine tkP rfl ?_
  refine R_nil H fun t11 H => ⟨fun _ => trivial, ?_⟩
  refine tkP rfl ?_
  refine R_fld TF_188_3 H fun t12 H => ⟨fun _ => trivial, ?_⟩
  refine tkL rfl ?_
  refine R_load1 T1_186 H fun at13 t13 hat13 _ H => ?_
  refine tkP rfl ?_
  refine R_nil H fun t14 H => ⟨fun _ => trivial, ?_⟩
  refine tkL rfl ?_
  refine R_load1 T1_194 H fun at15 t15 hat15 _ H => ?_
  refine tkP rfl ?_
  refine R_fld TF_175_0 H fun t16 H => ⟨fun _ => trivial, ?_⟩
  refine tkL rfl ?_
  refine R_load1 T1_173 H fun at17 t17 hat17 _ H => ?_
  refine alt_n rfl ?_ vp_none
  refine H_mkSl TZ_194 (by decide) rfl H rfl fun t18 h ⟨S, S_2, S_3, S_4, S_5, H⟩ => ⟨(hskip rfl (hcons rfl (still_1 S_5 hat15) (hcons rfl (still_1 S_4 hat13) (hcons rfl (still_1 S_3 hat10) (hcons rfl (still_1 S_2 hat8) (hcons rfl (still_1 S hat5) hnil)))))), ?_⟩
  refine alt_n rfl ?_ vp_none
  refine H_app TZ_194 TU_194 H fun t19 h ⟨S_6, S_7, H⟩ => ⟨(hskip rfl (hskip rfl (hskip rfl (hcons rfl (still_1 S_7 hat8) (hcons rfl (still_1 S_6 hat5) hnil))))), ?_⟩
  refine tkP rfl ?_
  refine R_nil H fun t20 H => ⟨fun _ => trivial, ?_⟩
  refine alt_n rfl ?_ vp_none
  refine H_store1 TS_194 H fun h H => ⟨(hskip rfl (hskip rfl hnil)), ?_⟩
  refine vp_done ?_
  refine resH_of rfl ?_
  exact H
/-! ### (*pub/tidwallbtree.mapNode[int, int]).leaf -/
def mapNode_ii_leaf.sh (a0 : Value) (h : Heap) (Q : Value → Heap → Prop) : Prop :=
    nilck a0 fun t4 =>
    fld 3 t4 fun t5 =>
    load1 t5 h fun t6 =>
    eqNilP t6 fun t7 =>
    Q t7 h
theorem mapNode_ii_leaf.body (a0 : Value) (h : Heap) (Q : Value → Heap → Prop) (H : mapNode_ii_leaf.sh a0 h Q) : mapNode_ii_leaf.call #[a0] h Q := by
  refine callsH_of (args := [a0]) Try.func126 rfl rfl ?_
  unfold mapNode_ii_leaf.sh at H
  refine WPc_seq' ?_
  refine W_region (by kernel_rfl) ?_
  refine vl_n ?_
  refine H_of_R (R_assign (v := (.bool false)) rfl ?_)
  refine vl_e ?_
  refine WPc_seq' ?_
  refine W_region (by kernel_rfl) ?_
  refine vl_n ?_
  refine H_of_R (R_move (v := a0) rfl ?_)
  refine vl_n ?_
  refine H_of_R (R_nil H fun t4 H => ?_)
  refine vl_n ?_
  refine H_of_R (R_fld TF_188_3 H fun t5 H => ?_)
  refine vl_n ?_
  refine H_of_R (R_load1 T1_186 H fun _ t6 _ _ H => ?_)
  refine vl_n ?_
  refine H_of_R (R_eqNilP Try.underlying186 rfl H fun t7 H => ?_)
  refine vl_n ?_
  refine H_of_R (R_assign (v := t7) rfl ?_)
  refine vl_e ?_
  refine WPc_ret ?_
  refine resH_of rfl ?_
  exact H
/-! ### (*pub/tidwallbtree.mapNode[int, int]).updateCount -/
def mapNode_ii_updateCount.j3 (s0 : Value) (s2 : Value) (h : Heap) (K1 : List Value → Heap → Prop) (Q : Value → Heap → Prop) : Prop :=
    arith (· + ·) s2 (.int .i64 1) fun t24 =>
    K1 [t24] h
def mapNode_ii_updateCount.j2 (s0 : Value) (s2 : Value) (h : Heap) (K1 : List Value → Heap → Prop) (Q : Value → Heap → Prop) : Prop :=
    nilck s0 fun t26 =>
    fld 1 t26 fun t27 =>
    load1 t27 h fun t28 =>
    nilck s0 fun t30 =>
    fld 3 t30 fun t31 =>
    load1 t31 h fun t32 =>
    nilck t32 fun t33 =>
    load1 t33 h fun t34 =>
    idx 1 t34 s2 fun t36 =>
    load1 t36 h fun t37 =>
    nilck t37 fun t38 =>
    fld 1 t38 fun t39 =>
    load1 t39 h fun t40 =>
    arith (· + ·) t28 t40 fun t41 =>
    nilck s0 fun t42 =>
    fld 1 t42 fun t43 =>
    store1 t43 t41 h fun h =>
    mapNode_ii_updateCount.j3 s0 s2 h K1 Q
def mapNode_ii_updateCount.l1.b (c0 : Value) (s2 : Value) (h : Heap) (K1 : List Value → Heap → Prop) (Q : Value → Heap → Prop) : Prop :=
    nilck c0 fun t16 =>
    fld 3 t16 fun t17 =>
    load1 t17 h fun t18 =>
    nilck t18 fun t19 =>
    load1 t19 h fun t20 =>
    lenV t20 fun t21 =>
    cmpI (fun a b => decide (a < b)) s2 t21 fun t22 =>
    ifV t22
    (mapNode_ii_updateCount.j2 c0 s2 h K1 Q)
    (Q (.tuple #[]) h)
def mapNode_ii_updateCount.sh (a0 : Value) (h : Heap) (Q : Value → Heap → Prop) : Prop :=
    nilck a0 fun t5 =>
    fld 2 t5 fun t6 =>
    load1 t6 h fun t7 =>
    lenV t7 fun t8 =>
    nilck a0 fun t9 =>
    fld 1 t9 fun t10 =>
    store1 t10 t8 h fun h =>
    mapNode_ii_leaf.call #[a0] h fun t12 h =>
    notV t12 fun t13 =>
    ifV t13
    (loopC (fun c s h K1 => mapNode_ii_updateCount.l1.b (c.getD 0 undef) (s.getD 0 undef) h K1 Q) [a0] [(.int .i64 0)] h)
    (Q (.tuple #[]) h)
theorem mapNode_ii_updateCount.body (a0 : Value) (h : Heap) (Q : Value → Heap → Prop) (H : mapNode_ii_updateCount.sh a0 h Q) : mapNode_ii_updateCount.call #[a0] h Q := by
  refine callsH_of (args := [a0]) Try.func115 rfl rfl ?_
  unfold mapNode_ii_updateCount.sh at H
  refine WPc_seq' ?_
  refine W_region (by kernel_rfl) ?_
  refine vl_n ?_
  refine H_of_R (R_move (v := a0) rfl ?_)
  refine vl_n ?_
  refine H_of_R (R_move (v := a0) rfl ?_)
  refine vl_n ?_
  refine H_of_R (R_nil H fun t5 H => ?_)
  refine vl_n ?_
  refine H_of_R (R_fld TF_188_2 H fun t6 H => ?_)
  refine vl_n ?_
  refine H_of_R (R_load1 T1_185 H fun _ t7 _ _ H => ?_)
  refine vl_n ?_
  refine H_of_R (R_len Try.underlying185 H fun t8 H => ?_)
  refine vl_n ?_
  refine H_of_R (R_nil H fun t9 H => ?_)
  refine vl_n ?_
  refine H_of_R (R_fld TF_188_1 H fun t10 H => ?_)
  refine vl_n ?_
  refine H_store1 TS_3 H fun h H => ?_
  refine vl_e ?_
  refine WPc_seq' ?_
  refine W_region (by kernel_rfl) ?_
  refine vl_n ?_
  refine H_of_R (R_move (v := a0) rfl ?_)
  refine vl_n ?_
  refine H_call HB_126 H fun t12 h H => ?_
  refine vl_n ?_
  refine H_of_R (R_not H fun t13 H => ?_)
  refine vl_e ?_
  obtain ⟨b, hc, H1, H2⟩ := H
  refine WPc_cond hc (fun hh => ?_) (fun hh => ?_)
  · have H := H1 hh; clear H1 H2
    refine WPc_seq' ?_
    refine W_region (by kernel_rfl) ?_
    refine vl_n ?_
    refine H_of_R (R_assign (v := (.int .i64 0)) rfl ?_)
    refine vl_e ?_
    refine WPc_block ?_
    refine loop_at (fun e => [e 2]) (fun e => [e 0]) H rfl rfl ?_
    intro K1 e1 h H hin1
    replace H : mapNode_ii_updateCount.l1.b (e1 0) (e1 2) h K1 Q := H
    unfold mapNode_ii_updateCount.l1.b at H
    clear hin1
    refine WPc_seq (fun e h => mapNode_ii_updateCount.j2 (e 0) (e 2) h K1 Q ∧ [e1 0] = [e 0]) ?_ (fun e h ⟨H, hq1⟩ => ?_)
    rotate_left
    · unfold mapNode_ii_updateCount.j2 at H
      refine WPc_seq (fun e h => mapNode_ii_updateCount.j3 (e 0) (e 2) h K1 Q ∧ [e1 0] = [e 0]) ?_ (fun e h ⟨H, hq1⟩ => ?_)
      rotate_left
      · unfold mapNode_ii_updateCount.j3 at H
        refine W_region (by kernel_rfl) ?_
        refine vl_n ?_
        refine H_of_R (R_move (v := (e 2)) rfl ?_)
        refine vl_n ?_
        refine H_of_R (R_add H fun t24 H => ?_)
        refine vl_n ?_
        refine H_of_R (R_assign (v := t24) rfl ?_)
        refine vl_e ?_
        exact ⟨H, hq1⟩
      refine WPc_block ?_
      refine W_drawn [0, 1, 3, 7, 0, 16, 48, 112, 240, 496, 0, 2032, 4080, 8176, 16368, 32752, 65535, 131071, 262143, 524287] (.take 0 (.take 1 (.take 2 (.take 3 (.take 4 (.take 5 (.take 6 (.take 7 (.take 8 (.take 9 (.take 10 (.take 11 (.take 12 (.take 13 (.take 14 (.take 15 (.take 16 (.take 17 (.take 18 (.alt 19 .done .none)))))))))))))))))))) mixed (by kernel_rfl) ?_
      refine tkP rfl ?_
      refine R_move (v := (e 0)) rfl ⟨fun _ => trivial, ?_⟩
      refine tkP rfl ?_
      refine R_nil H fun t26 H => ⟨fun _ => trivial, ?_⟩
      refine tkP rfl ?_
      refine R_fld TF_188_1 H fun t27 H => ⟨fun _ => trivial, ?_⟩
      refine tkL rfl ?_
      refine R_load1 T1_3 H fun at28 t28 hat28 _ H => ?_
      refine tkP rfl ?_
      refine R_move (v := (e 0)) rfl ⟨fun _ => trivial, ?_⟩
      refine tkP rfl ?_
      refine R_nil H fun t30 H => ⟨fun _ => trivial, ?_⟩
      refine tkP rfl ?_
      refine R_fld TF_188_3 H fun t31 H => ⟨fun _ => trivial, ?_⟩
      refine tkL rfl ?_
      refine R_load1 T1_186 H fun at32 t32 hat32 _ H => ?_
      refine tkP rfl ?_
      refine R_nil H fun t33 H => ⟨fun _ => trivial, ?_⟩
      refine tkL rfl ?_
      refine R_load1 T1_194 H fun at34 t34 hat34 _ H => ?_
      refine tkP rfl ?_
      refine R_move (v := (e 2)) rfl ⟨fun _ => trivial, ?_⟩
      refine tkP rfl ?_
      refine R_idx TE_194 H fun t36 H => ⟨fun _ => trivial, ?_⟩
      refine tkL rfl ?_
      refine R_load1 T1_173 H fun at37 t37 hat37 _ H => ?_
      refine tkP rfl ?_
      refine R_nil H fun t38 H => ⟨fun _ => trivial, ?_⟩
      refine tkP rfl ?_
      refine R_fld TF_188_1 H fun t39 H => ⟨fun _ => trivial, ?_⟩
      refine tkL rfl ?_
      refine R_load1 T1_3 H fun at40 t40 hat40 _ H => ?_
      refine tkP rfl ?_
      refine R_add H fun t41 H => ⟨fun _ => trivial, ?_⟩
      refine tkP rfl ?_
      refine R_nil H fun t42 H => ⟨fun _ => trivial, ?_⟩
      refine tkP rfl ?_
      refine R_fld TF_188_1 H fun t43 H => ⟨fun _ => trivial, ?_⟩
      refine alt_n rfl ?_ vp_none
      refine H_store1 TS_3 H fun h H => ⟨(hskip rfl (hskip rfl (hskip rfl (hskip rfl (hskip rfl hnil))))), ?_⟩
      refine vp_done ?_
      exact ⟨H, hq1⟩
    refine WPc_seq' ?_
    refine W_region (by kernel_rfl) ?_
    refine vl_n ?_
    refine H_of_R (R_move (v := (e1 2)) rfl ?_)
    refine vl_n ?_
    refine H_of_R (R_move (v := (e1 0)) rfl ?_)
    refine vl_n ?_
    refine H_of_R (R_nil H fun t16 H => ?_)
    refine vl_n ?_
    refine H_of_R (R_fld TF_188_3 H fun t17 H => ?_)
    refine vl_n ?_
    refine H_of_R (R_load1 T1_186 H fun _ t18 _ _ H => ?_)
    refine vl_n ?_
    refine H_of_R (R_nil H fun t19 H => ?_)
    refine vl_n ?_
    refine H_of_R (R_load1 T1_194 H fun _ t20 _ _ H => ?_)
    refine vl_n ?_
    refine H_of_R (R_len Try.underlying194 H fun t21 H => ?_)
    refine vl_n ?_
    refine H_of_R (R_lss H fun t22 H => ?_)
    refine vl_e ?_
    obtain ⟨b, hc, H1, H2⟩ := H
    refine WPc_cond hc (fun hh => ?_) (fun hh => ?_)
    · have H := H1 hh; clear H1 H2
      refine WPc_skip ?_
      exact ⟨H, rfl⟩
    · have H := H2 hh; clear H1 H2
      refine WPc_exit ?_
      refine resH_of rfl ?_
      exact H
  · have H := H2 hh; clear H1 H2
    refine WPc_skip ?_
    refine resH_of rfl ?_
    exact H
/-! ### (pub/tidwallbtree.DoorMapNode[int, int]).DoorUpdateCount -/
def DoorMapNode_ii_DoorUpdateCount.sh (a0 : Value) (h : Heap) (Q : Value → Heap → Prop) : Prop :=
    box 175 a0 h fun t1 h =>
    fld 0 t1 fun t2 =>
    load1 t2 h fun t3 =>
    mapNode_ii_updateCount.call #[t3] h fun t4 h =>
    Q (.tuple #[]) h
theorem DoorMapNode_ii_DoorUpdateCount.body (a0 : Value) (h : Heap) (Q : Value → Heap → Prop) (H : DoorMapNode_ii_DoorUpdateCount.sh a0 h Q) : DoorMapNode_ii_DoorUpdateCount.call #[a0] h Q := by
  refine callsH_of (args := [a0]) Try.func154 rfl rfl ?_
  unfold DoorMapNode_ii_DoorUpdateCount.sh at H
  refine WPc_seq' ?_
  refine W_region (by kernel_rfl) ?_
  refine vl_n ?_
  refine H_box H fun t1 h H => ?_
  refine vl_e ?_
  refine W_region (by kernel_rfl) ?_
  refine vl_n ?_
  refine H_of_R (R_fld TF_175_0 H fun t2 H => ?_)
  refine vl_n ?_
  refine H_of_R (R_load1 T1_173 H fun _ t3 _ _ H => ?_)
  refine vl_n ?_
  refine H_call HB_115 H fun t4 h H => ?_
  refine vl_e ?_
  refine resH_of rfl ?_
  exact H
/-! ### impl.plantedMap -/
def i_plantedMap.j3 (s4 : Value) (s5 : Value) (h : Heap) (Q : Value → Heap → Prop) : Prop :=
    loadN 1 s5 h fun t45 =>
    DoorMapNode_ii_DoorUpdateCount.call #[t45] h fun t46 h =>
    loadN 1 s5 h fun t47 =>
    storeN 1 s4 t47 h fun h =>
    loadN 1 s4 h fun r4 =>
    Q r4 h
def i_plantedMap.j6 (s0 : Value) (s4 : Value) (s5 : Value) (s33 : Value) (s34 : Value) (s35 : Value) (h : Heap) (K1 : List Value → Heap → Prop) (Q : Value → Heap → Prop) : Prop :=
    arith (· + ·) s35 (.int .i64 1) fun t44 =>
    K1 [t44] h
def i_plantedMap.j5 (s0 : Value) (s4 : Value) (s5 : Value) (s33 : Value) (s34 : Value) (s35 : Value) (h : Heap) (K1 : List Value → Heap → Prop) (Q : Value → Heap → Prop) : Prop :=
    idx 3 s33 s35 fun t37 =>
    loadN 3 t37 h fun t38 =>
    alloc [(.slice none 0 0), (.slice none 0 0), (.int .i64 0)] 25 h fun t9 h =>
    storeN 3 t9 t38 h fun h =>
    loadN 1 s5 h fun t39 =>
    loadN 3 t9 h fun t41 =>
    i_plantedMap.call #[s0, t41] h fun t42 h =>
    stillN 1 s5 t39 h ∧ DoorMapNode_ii_DoorAppend.call #[t39, t42] h fun t43 h =>
    i_plantedMap.j6 s0 s4 s5 s33 s34 s35 h K1 Q
def i_plantedMap.l4.b (c0 : Value) (c4 : Value) (c5 : Value) (c33 : Value) (c34 : Value) (s35 : Value) (h : Heap) (K1 : List Value → Heap → Prop) (Q : Value → Heap → Prop) : Prop :=
    cmpI (fun a b => decide (a < b)) s35 c34 fun t36 =>
    ifV t36
    (i_plantedMap.j5 c0 c4 c5 c33 c34 s35 h K1 Q)
    (i_plantedMap.j3 c4 c5 h Q)
def i_plantedMap.j2 (s0 : Value) (s3 : Value) (s4 : Value) (s5 : Value) (h : Heap) (Q : Value → Heap → Prop) : Prop :=
    fld 1 s3 fun t32 =>
    load1 t32 h fun t33 =>
    lenV t33 fun t34 =>
    loopC (fun c s h K1 => i_plantedMap.l4.b (c.getD 0 undef) (c.getD 1 undef) (c.getD 2 undef) (c.getD 3 undef) (c.getD 4 undef) (s.getD 0 undef) h K1 Q) [s0, s4, s5, t33, t34] [(.int .i64 0)] h
def i_plantedMap.j9 (s0 : Value) (s3 : Value) (s4 : Value) (s5 : Value) (s19 : Value) (s20 : Value) (s21 : Value) (h : Heap) (K1 : List Value → Heap → Prop) (Q : Value → Heap → Prop) : Prop :=
    arith (· + ·) s21 (.int .i64 1) fun t31 =>
    K1 [t31] h
def i_plantedMap.j8 (s0 : Value) (s3 : Value) (s4 : Value) (s5 : Value) (s19 : Value) (s20 : Value) (s21 : Value) (h : Heap) (K1 : List Value → Heap → Prop) (Q : Value → Heap → Prop) : Prop :=
    idx 2 s19 s21 fun t23 =>
    loadN 2 t23 h fun t24 =>
    alloc [(.int .i64 0), (.int .i64 0)] 27 h fun t7 h =>
    storeN 2 t7 t24 h fun h =>
    loadN 1 s5 h fun t25 =>
    fld 0 t7 fun t26 =>
    load1 t26 h fun t27 =>
    fld 1 t7 fun t28 =>
    load1 t28 h fun t29 =>
    DoorMapNode_ii_DoorItem.call #[t25, t27, t29] h fun t30 h =>
    i_plantedMap.j9 s0 s3 s4 s5 s19 s20 s21 h K1 Q
def i_plantedMap.l7.b (c0 : Value) (c3 : Value) (c4 : Value) (c5 : Value) (c19 : Value) (c20 : Value) (s21 : Value) (h : Heap) (K1 : List Value → Heap → Prop) (Q : Value → Heap → Prop) : Prop :=
    cmpI (fun a b => decide (a < b)) s21 c20 fun t22 =>
    ifV t22
    (i_plantedMap.j8 c0 c3 c4 c5 c19 c20 s21 h K1 Q)
    (i_plantedMap.j2 c0 c3 c4 c5 h Q)
def i_plantedMap.j1 (s0 : Value) (s3 : Value) (s4 : Value) (s5 : Value) (h : Heap) (Q : Value → Heap → Prop) : Prop :=
    fld 0 s3 fun t18 =>
    load1 t18 h fun t19 =>
    lenV t19 fun t20 =>
    loopC (fun c s h K1 => i_plantedMap.l7.b (c.getD 0 undef) (c.getD 1 undef) (c.getD 2 undef) (c.getD 3 undef) (c.getD 4 undef) (c.getD 5 undef) (s.getD 0 undef) h K1 Q) [s0, s3, s4, s5, t19, t20] [(.int .i64 0)] h
def i_plantedMap.sh (a0 : Value) (a1 : Value) (h : Heap) (Q : Value → Heap → Prop) : Prop :=
    box 25 a1 h fun t3 h =>
    alloc [(.pointer none)] 175 h fun t4 h =>
    Map_ii_DoorLeaf.call #[a0] h fun t11 h =>
    alloc [(.pointer none)] 175 h fun t5 h =>
    storeN 1 t5 t11 h fun h =>
    fld 1 t3 fun t12 =>
    load1 t12 h fun t13 =>
    lenV t13 fun t14 =>
    cmpI (fun a b => decide (a > b)) t14 (.int .i64 0) fun t15 =>
    ifV t15
    (Map_ii_DoorInner.call #[a0] h fun t17 h =>
    storeN 1 t5 t17 h fun h =>
    i_plantedMap.j1 a0 t3 t4 t5 h Q)
    (i_plantedMap.j1 a0 t3 t4 t5 h Q)
theorem i_plantedMap.body (a0 : Value) (a1 : Value) (h : Heap) (Q : Value → Heap → Prop) (H : i_plantedMap.sh a0 a1 h Q) : i_plantedMap.call #[a0, a1] h Q := by
  refine callsH_of (args := [a0, a1]) Try.func110 rfl rfl ?_
  unfold i_plantedMap.sh at H
  refine WPc_seq' ?_
  refine W_region (by kernel_rfl) ?_
  refine vl_n ?_
  refine H_box H fun t3 h H => ?_
  refine vl_n ?_
  refine H_alloc TV_175 H fun t4 h H => ?_
  refine vl_e ?_
  refine WPc_seq' ?_
  refine W_region (by kernel_rfl) ?_
  refine vl_n ?_
  refine H_of_R (R_move (v := a0) rfl ?_)
  refine vl_n ?_
  refine H_call HB_150 H fun t11 h H => ?_
  refine vl_n ?_
  refine H_alloc TV_175 H fun t5 h H => ?_
  refine vl_n ?_
  refine H_storeN TS_175 H fun h H => ?_
  refine vl_e ?_
  refine WPc_seq (fun e h => i_plantedMap.j1 (e 0) (e 3) (e 4) (e 5) h Q) ?_ (fun e h H => ?_)
  rotate_left
  · unfold i_plantedMap.j1 at H
    refine WPc_seq (fun e h => i_plantedMap.j2 (e 0) (e 3) (e 4) (e 5) h Q) ?_ (fun e h H => ?_)
    rotate_left
    · unfold i_plantedMap.j2 at H
      refine WPc_seq (fun e h => i_plantedMap.j3 (e 4) (e 5) h Q) ?_ (fun e h H => ?_)
      rotate_left
      · unfold i_plantedMap.j3 at H
        refine WPc_seq' ?_
        refine W_region (by kernel_rfl) ?_
        refine vl_n ?_
        refine H_of_R (R_loadN TN_175 H fun _ t45 _ _ H _ _ => ?_)
        refine vl_n ?_
        refine H_call HB_154 H fun t46 h H => ?_
        refine vl_e ?_
        refine WPc_seq' ?_
        refine W_region (by kernel_rfl) ?_
        refine vl_n ?_
        refine H_of_R (R_loadN TN_175 H fun _ t47 _ _ H _ _ => ?_)
        refine vl_n ?_
        refine H_storeN TS_175 H fun h H => ?_
        refine vl_e ?_
        refine WPc_ret ?_
        refine resH_of rfl ?_
        refine resL_N TN_175 ?_
        refine loadN_imp H fun r4 H => ?_
        exact H
      refine WPc_seq' ?_
      refine W_region (by kernel_rfl) ?_
      refine vl_n ?_
      refine H_of_R (R_fld TF_25_1 H fun t32 H => ?_)
      refine vl_n ?_
      refine H_of_R (R_load1 T1_23 H fun _ t33 _ _ H => ?_)
      refine vl_n ?_
      refine H_of_R (R_len Try.underlying23 H fun t34 H => ?_)
      refine vl_n ?_
      refine H_of_R (R_move (v := (.int .i64 0)) rfl ?_)
      refine vl_e ?_
      refine WPc_block ?_
      refine loop_at (fun e => [e 35]) (fun e => [e 0, e 4, e 5, e 33, e 34]) H rfl rfl ?_
      intro K1 e1 h H hin1
      replace H : i_plantedMap.l4.b (e1 0) (e1 4) (e1 5) (e1 33) (e1 34) (e1 35) h K1 Q := H
      unfold i_plantedMap.l4.b at H
      clear hin1
      refine WPc_seq' ?_
      refine W_region (by kernel_rfl) ?_
      refine vl_n ?_
      refine H_of_R (R_lss H fun t36 H => ?_)
      refine vl_e ?_
      refine WPc_seq (fun e h => i_plantedMap.j5 (e 0) (e 4) (e 5) (e 33) (e 34) (e 35) h K1 Q ∧ [e1 0, e1 4, e1 5, e1 33, e1 34] = [e 0, e 4, e 5, e 33, e 34]) ?_ (fun e h ⟨H, hq1⟩ => ?_)
      rotate_left
      · unfold i_plantedMap.j5 at H
        refine WPc_seq (fun e h => i_plantedMap.j6 (e 0) (e 4) (e 5) (e 33) (e 34) (e 35) h K1 Q ∧ [e1 0, e1 4, e1 5, e1 33, e1 34] = [e 0, e 4, e 5, e 33, e 34]) ?_ (fun e h ⟨H, hq1⟩ => ?_)
        rotate_left
        · unfold i_plantedMap.j6 at H
          refine W_region (by kernel_rfl) ?_
          refine vl_n ?_
          refine H_of_R (R_add H fun t44 H => ?_)
          refine vl_n ?_
          refine H_of_R (R_move (v := t44) rfl ?_)
          refine vl_e ?_
          exact ⟨H, hq1⟩
        refine WPc_block ?_
        refine WPc_seq' ?_
        refine W_region (by kernel_rfl) ?_
        refine vl_n ?_
        refine H_of_R (R_idx TE_23 H fun t37 H => ?_)
        refine vl_n ?_
        refine H_of_R (R_loadN TN_25 H fun _ t38 _ _ H _ _ => ?_)
        refine vl_n ?_
        refine H_alloc TV_25 H fun t9 h H => ?_
        refine vl_n ?_
        refine H_storeN TS_25 H fun h H => ?_
        refine vl_e ?_
        refine W_drawn [0, 0, 0, 6, 15] (.take 0 (.take 1 (.take 2 (.alt 3 (.alt 4 .done .none) .none)))) mixed (by kernel_rfl) ?_
        refine tkL rfl ?_
        refine R_loadN TN_175 H fun at39 xt39 hat39 _ H St39 hSt39 => ?_
        refine tkP rfl ?_
        refine R_move (v := (e 0)) rfl ⟨fun _ => trivial, ?_⟩
        refine tkL rfl ?_
        refine R_loadN TN_25 H fun at41 xt41 hat41 _ H St41 hSt41 => ?_
        refine alt_n rfl ?_ vp_none
        refine H_call HB_110 H fun t42 h ⟨S, H⟩ => ⟨(hskip rfl (hcons rfl (hSt39 _ (still_N S hat39 rfl)) hnil)), ?_⟩
        refine alt_n rfl ?_ vp_none
        refine H_call HB_153 H fun t43 h H => ⟨(hskip rfl hnil), ?_⟩
        refine vp_done ?_
        exact ⟨H, hq1⟩
      obtain ⟨b, hc, H1, H2⟩ := H
      refine WPc_cond hc (fun hh => ?_) (fun hh => ?_)
      · have H := H1 hh; clear H1 H2
        refine WPc_skip ?_
        exact ⟨H, rfl⟩
      · have H := H2 hh; clear H1 H2
        refine WPc_exit ?_
        exact H
    refine WPc_seq' ?_
    refine W_region (by kernel_rfl) ?_
    refine vl_n ?_
    refine H_of_R (R_fld TF_25_0 H fun t18 H => ?_)
    refine vl_n ?_
    refine H_of_R (R_load1 T1_22 H fun _ t19 _ _ H => ?_)
    refine vl_n ?_
    refine H_of_R (R_len Try.underlying22 H fun t20 H => ?_)
    refine vl_n ?_
    refine H_of_R (R_move (v := (.int .i64 0)) rfl ?_)
    refine vl_e ?_
    refine WPc_block ?_
    refine loop_at (fun e => [e 21]) (fun e => [e 0, e 3, e 4, e 5, e 19, e 20]) H rfl rfl ?_
    intro K1 e1 h H hin1
    replace H : i_plantedMap.l7.b (e1 0) (e1 3) (e1 4) (e1 5) (e1 19) (e1 20) (e1 21) h K1 Q := H
    unfold i_plantedMap.l7.b at H
    clear hin1
    refine WPc_seq' ?_
    refine W_region (by kernel_rfl) ?_
    refine vl_n ?_
    refine H_of_R (R_lss H fun t22 H => ?_)
    refine vl_e ?_
    refine WPc_seq (fun e h => i_plantedMap.j8 (e 0) (e 3) (e 4) (e 5) (e 19) (e 20) (e 21) h K1 Q ∧ [e1 0, e1 3, e1 4, e1 5, e1 19, e1 20] = [e 0, e 3, e 4, e 5, e 19, e 20]) ?_ (fun e h ⟨H, hq1⟩ => ?_)
    rotate_left
    · unfold i_plantedMap.j8 at H
      refine WPc_seq (fun e h => i_plantedMap.j9 (e 0) (e 3) (e 4) (e 5) (e 19) (e 20) (e 21) h K1 Q ∧ [e1 0, e1 3, e1 4, e1 5, e1 19, e1 20] = [e 0, e 3, e 4, e 5, e 19, e 20]) ?_ (fun e h ⟨H, hq1⟩ => ?_)
      rotate_left
      · unfold i_plantedMap.j9 at H
        refine W_region (by kernel_rfl) ?_
        refine vl_n ?_
        refine H_of_R (R_add H fun t31 H => ?_)
        refine vl_n ?_
        refine H_of_R (R_move (v := t31) rfl ?_)
        refine vl_e ?_
        exact ⟨H, hq1⟩
      refine WPc_block ?_
      refine WPc_seq' ?_
      refine W_region (by kernel_rfl) ?_
      refine vl_n ?_
      refine H_of_R (R_idx TE_22 H fun t23 H => ?_)
      refine vl_n ?_
      refine H_of_R (R_loadN TN_27 H fun _ t24 _ _ H _ _ => ?_)
      refine vl_n ?_
      refine H_alloc TV_27 H fun t7 h H => ?_
      refine vl_n ?_
      refine H_storeN TS_27 H fun h H => ?_
      refine vl_e ?_
      refine W_region (by kernel_rfl) ?_
      refine vl_n ?_
      refine H_of_R (R_loadN TN_175 H fun _ t25 _ _ H _ _ => ?_)
      refine vl_n ?_
      refine H_of_R (R_fld TF_27_0 H fun t26 H => ?_)
      refine vl_n ?_
      refine H_of_R (R_load1 T1_3 H fun _ t27 _ _ H => ?_)
      refine vl_n ?_
      refine H_of_R (R_fld TF_27_1 H fun t28 H => ?_)
      refine vl_n ?_
      refine H_of_R (R_load1 T1_3 H fun _ t29 _ _ H => ?_)
      refine vl_n ?_
      refine H_call HB_152 H fun t30 h H => ?_
      refine vl_e ?_
      exact ⟨H, hq1⟩
    obtain ⟨b, hc, H1, H2⟩ := H
    refine WPc_cond hc (fun hh => ?_) (fun hh => ?_)
    · have H := H1 hh; clear H1 H2
      refine WPc_skip ?_
      exact ⟨H, rfl⟩
    · have H := H2 hh; clear H1 H2
      refine WPc_exit ?_
      exact H
  refine WPc_seq' ?_
  refine W_region (by kernel_rfl) ?_
  refine vl_n ?_
  refine H_of_R (R_fld TF_25_1 H fun t12 H => ?_)
  refine vl_n ?_
  refine H_of_R (R_load1 T1_23 H fun _ t13 _ _ H => ?_)
  refine vl_n ?_
  refine H_of_R (R_len Try.underlying23 H fun t14 H => ?_)
  refine vl_n ?_
  refine H_of_R (R_gtr H fun t15 H => ?_)
  refine vl_e ?_
  obtain ⟨b, hc, H1, H2⟩ := H
  refine WPc_cond hc (fun hh => ?_) (fun hh => ?_)
  · have H := H1 hh; clear H1 H2
    refine W_region (by kernel_rfl) ?_
    refine vl_n ?_
    refine H_of_R (R_move (v := a0) rfl ?_)
    refine vl_n ?_
    refine H_call HB_151 H fun t17 h H => ?_
    refine vl_n ?_
    refine H_storeN TS_175 H fun h H => ?_
    refine vl_e ?_
    exact H
  · have H := H2 hh; clear H1 H2
    refine WPc_skip ?_
    exact H
/-! ### impl.standMap -/
def i_standMap.j1 (s5 : Value) (h : Heap) (Q : Value → Heap → Prop) : Prop :=
    Q s5 h
def i_standMap.sh (a0 : Value) (a1 : Value) (h : Heap) (Q : Value → Heap → Prop) : Prop :=
    box 25 a1 h fun t3 h =>
    NewMap_ii.call #[a0] h fun t7 h =>
    fld 0 t3 fun t8 =>
    load1 t8 h fun t9 =>
    lenV t9 fun t10 =>
    cmpI (fun a b => decide (a > b)) t10 (.int .i64 0) fun t11 =>
    br t11 false (fld 1 t3 fun t13 =>
    load1 t13 h fun t14 =>
    lenV t14 fun t15 =>
    cmpI (fun a b => decide (a > b)) t15 (.int .i64 0) fun t16 =>
    ifV t16
    (loadN 3 t3 h fun t20 =>
    i_plantedMap.call #[t7, t20] h fun t21 h =>
    Map_ii_DoorPlant.call #[t7, t21] h fun t22 h =>
    i_standMap.j1 t7 h Q)
    (i_standMap.j1 t7 h Q)) (loadN 3 t3 h fun t20_2 =>
    i_plantedMap.call #[t7, t20_2] h fun t21_2 h =>
    Map_ii_DoorPlant.call #[t7, t21_2] h fun t22_2 h =>
    i_standMap.j1 t7 h Q)
theorem i_standMap.body (a0 : Value) (a1 : Value) (h : Heap) (Q : Value → Heap → Prop) (H : i_standMap.sh a0 a1 h Q) : i_standMap.call #[a0, a1] h Q := by
  refine callsH_of (args := [a0, a1]) Try.func58 rfl rfl ?_
  unfold i_standMap.sh at H
  refine WPc_seq' ?_
  refine W_region (by kernel_rfl) ?_
  refine vl_n ?_
  refine H_box H fun t3 h H => ?_
  refine vl_n ?_
  refine H_of_R (R_assign (v := (.pointer none)) rfl ?_)
  refine vl_e ?_
  refine WPc_seq' ?_
  refine W_region (by kernel_rfl) ?_
  refine vl_n ?_
  refine H_of_R (R_move (v := a0) rfl ?_)
  refine vl_n ?_
  refine H_call HB_108 H fun t7 h H => ?_
  refine vl_n ?_
  refine H_of_R (R_assign (v := t7) rfl ?_)
  refine vl_e ?_
  refine WPc_seq (fun e h => i_standMap.j1 (e 5) h Q) ?_ (fun e h H => ?_)
  rotate_left
  · unfold i_standMap.j1 at H
    refine WPc_seq' ?_
    refine W_region (by kernel_rfl) ?_
    refine vl_n ?_
    refine H_of_R (R_move (v := (e 5)) rfl ?_)
    refine vl_n ?_
    refine H_of_R (R_assign (v := (e 5)) rfl ?_)
    refine vl_e ?_
    refine WPc_ret ?_
    refine resH_of rfl ?_
    exact H
  refine WPc_seq' ?_
  refine W_region (by kernel_rfl) ?_
  refine vl_n ?_
  refine H_of_R (R_fld TF_25_0 H fun t8 H => ?_)
  refine vl_n ?_
  refine H_of_R (R_load1 T1_22 H fun _ t9 _ _ H => ?_)
  refine vl_n ?_
  refine H_of_R (R_len Try.underlying22 H fun t10 H => ?_)
  refine vl_n ?_
  refine H_of_R (R_gtr H fun t11 H => ?_)
  refine vl_n ?_
  refine H_of_R (R_move (v := t11) rfl ?_)
  obtain ⟨b, hb, H1, H2⟩ := H
  cases b
  · have H := H1 rfl; clear H1 H2
    refine vl_y rfl hb ?_
    refine H_of_R (R_fld TF_25_1 H fun t13 H => ?_)
    refine vl_y rfl hb ?_
    refine H_of_R (R_load1 T1_23 H fun _ t14 _ _ H => ?_)
    refine vl_y rfl hb ?_
    refine H_of_R (R_len Try.underlying23 H fun t15 H => ?_)
    refine vl_y rfl hb ?_
    refine H_of_R (R_gtr H fun t16 H => ?_)
    refine vl_n ?_
    refine H_of_R (R_pickC (v := t16) false hb rfl ?_)
    refine vl_e ?_
    obtain ⟨b_2, hc, H1, H2⟩ := H
    refine WPc_cond hc (fun hh => ?_) (fun hh => ?_)
    · have H := H1 hh; clear H1 H2
      refine W_region (by kernel_rfl) ?_
      refine vl_n ?_
      refine H_of_R (R_move (v := t7) rfl ?_)
      refine vl_n ?_
      refine H_of_R (R_move (v := t7) rfl ?_)
      refine vl_n ?_
      refine H_of_R (R_loadN TN_25 H fun _ t20 _ _ H _ _ => ?_)
      refine vl_n ?_
      refine H_call HB_110 H fun t21 h H => ?_
      refine vl_n ?_
      refine H_call HB_109 H fun t22 h H => ?_
      refine vl_e ?_
      exact H
    · have H := H2 hh; clear H1 H2
      refine WPc_skip ?_
      exact H
  · have H := H2 rfl; clear H1 H2
    refine vl_s rfl (nbF hb) ?_
    refine vl_s rfl (nbF hb) ?_
    refine vl_s rfl (nbF hb) ?_
    refine vl_s rfl (nbF hb) ?_
    refine vl_n ?_
    refine H_of_R (R_pickC (v := (.bool true)) true hb rfl ?_)
    refine vl_e ?_
    refine WPc_cond (t := true) rfl (fun _ => ?_) (fun hh => by cases hh)
    refine W_region (by kernel_rfl) ?_
    refine vl_n ?_
    refine H_of_R (R_move (v := t7) rfl ?_)
    refine vl_n ?_
    refine H_of_R (R_move (v := t7) rfl ?_)
    refine vl_n ?_
    refine H_of_R (R_loadN TN_25 H fun _ t20_2 _ _ H _ _ => ?_)
    refine vl_n ?_
    refine H_call HB_110 H fun t21_2 h H => ?_
    refine vl_n ?_
    refine H_call HB_109 H fun t22_2 h H => ?_
    refine vl_e ?_
    exact H
/-! ### (*pub/tidwallbtree.Map[int, int]).Height -/
def Map_ii_Height.j1 (s3 : Value) (h : Heap) (Q : Value → Heap → Prop) : Prop :=
    Q s3 h
def Map_ii_Height.j3 (s3 : Value) (s4 : Value) (h : Heap) (K1 : List Value → Heap → Prop) (Q : Value → Heap → Prop) : Prop :=
    nilck s4 fun t19 =>
    fld 3 t19 fun t20 =>
    load1 t20 h fun t21 =>
    nilck t21 fun t22 =>
    load1 t22 h fun t23 =>
    idx 1 t23 (.int .i64 0) fun t24 =>
    load1 t24 h fun t25 =>
    K1 [s3, t25] h
def Map_ii_Height.l2.b (s3 : Value) (s4 : Value) (h : Heap) (K1 : List Value → Heap → Prop) (Q : Value → Heap → Prop) : Prop :=
    arith (· + ·) s3 (.int .i64 1) fun t15 =>
    mapNode_ii_leaf.call #[s4] h fun t17 h =>
    ifV t17
    (Map_ii_Height.j1 t15 h Q)
    (Map_ii_Height.j3 t15 s4 h K1 Q)
def Map_ii_Height.sh (a0 : Value) (h : Heap) (Q : Value → Heap → Prop) : Prop :=
    nilck a0 fun t6 =>
    fld 2 t6 fun t7 =>
    load1 t7 h fun t8 =>
    neNilP t8 fun t9 =>
    ifV t9
    (nilck a0 fun t11 =>
    fld 2 t11 fun t12 =>
    load1 t12 h fun t13 =>
    loopC (fun c s h K1 => Map_ii_Height.l2.b (s.getD 0 undef) (s.getD 1 undef) h K1 Q) [] [(.int .i64 0), t13] h)
    (Map_ii_Height.j1 (.int .i64 0) h Q)
theorem Map_ii_Height.body (a0 : Value) (h : Heap) (Q : Value → Heap → Prop) (H : Map_ii_Height.sh a0 h Q) : Map_ii_Height.call #[a0] h Q := by
  refine callsH_of (args := [a0]) Try.func99 rfl rfl ?_
  unfold Map_ii_Height.sh at H
  refine WPc_seq' ?_
  refine W_region (by kernel_rfl) ?_
  refine vl_n ?_
  refine H_of_R (R_assign (v := (.int .i64 0)) rfl ?_)
  refine vl_e ?_
  refine WPc_seq' ?_
  refine W_region (by kernel_rfl) ?_
  refine vl_n ?_
  refine H_of_R (R_assign (v := (.int .i64 0)) rfl ?_)
  refine vl_e ?_
  refine WPc_seq (fun e h => Map_ii_Height.j1 (e 3) h Q) ?_ (fun e h H => ?_)
  rotate_left
  · unfold Map_ii_Height.j1 at H
    refine WPc_seq' ?_
    refine W_region (by kernel_rfl) ?_
    refine vl_n ?_
    refine H_of_R (R_move (v := (e 3)) rfl ?_)
    refine vl_n ?_
    refine H_of_R (R_assign (v := (e 3)) rfl ?_)
    refine vl_e ?_
    refine WPc_ret ?_
    refine resH_of rfl ?_
    exact H
  refine WPc_seq' ?_
  refine W_region (by kernel_rfl) ?_
  refine vl_n ?_
  refine H_of_R (R_move (v := a0) rfl ?_)
  refine vl_n ?_
  refine H_of_R (R_nil H fun t6 H => ?_)
  refine vl_n ?_
  refine H_of_R (R_fld TF_182_2 H fun t7 H => ?_)
  refine vl_n ?_
  refine H_of_R (R_load1 T1_173 H fun _ t8 _ _ H => ?_)
  refine vl_n ?_
  refine H_of_R (R_neNilP Try.underlying173 rfl H fun t9 H => ?_)
  refine vl_e ?_
  obtain ⟨b, hc, H1, H2⟩ := H
  refine WPc_cond hc (fun hh => ?_) (fun hh => ?_)
  · have H := H1 hh; clear H1 H2
    refine WPc_seq' ?_
    refine W_region (by kernel_rfl) ?_
    refine vl_n ?_
    refine H_of_R (R_move (v := a0) rfl ?_)
    refine vl_n ?_
    refine H_of_R (R_nil H fun t11 H => ?_)
    refine vl_n ?_
    refine H_of_R (R_fld TF_182_2 H fun t12 H => ?_)
    refine vl_n ?_
    refine H_of_R (R_load1 T1_173 H fun _ t13 _ _ H => ?_)
    refine vl_n ?_
    refine H_of_R (R_assign (v := t13) rfl ?_)
    refine vl_e ?_
    refine WPc_block ?_
    refine loop_at (fun e => [e 3, e 4]) (fun e => []) H rfl rfl ?_
    intro K1 e1 h H hin1
    replace H : Map_ii_Height.l2.b (e1 3) (e1 4) h K1 Q := H
    unfold Map_ii_Height.l2.b at H
    clear hin1
    refine WPc_block ?_
    refine WPc_seq' ?_
    refine W_region (by kernel_rfl) ?_
    refine vl_n ?_
    refine H_of_R (R_move (v := (e1 3)) rfl ?_)
    refine vl_n ?_
    refine H_of_R (R_add H fun t15 H => ?_)
    refine vl_n ?_
    refine H_of_R (R_assign (v := t15) rfl ?_)
    refine vl_e ?_
    refine WPc_seq (fun e h => Map_ii_Height.j3 (e 3) (e 4) h K1 Q) ?_ (fun e h H => ?_)
    rotate_left
    · unfold Map_ii_Height.j3 at H
      refine W_region (by kernel_rfl) ?_
      refine vl_n ?_
      refine H_of_R (R_move (v := (e 4)) rfl ?_)
      refine vl_n ?_
      refine H_of_R (R_nil H fun t19 H => ?_)
      refine vl_n ?_
      refine H_of_R (R_fld TF_188_3 H fun t20 H => ?_)
      refine vl_n ?_
      refine H_of_R (R_load1 T1_186 H fun _ t21 _ _ H => ?_)
      refine vl_n ?_
      refine H_of_R (R_nil H fun t22 H => ?_)
      refine vl_n ?_
      refine H_of_R (R_load1 T1_194 H fun _ t23 _ _ H => ?_)
      refine vl_n ?_
      refine H_of_R (R_idx TE_194 H fun t24 H => ?_)
      refine vl_n ?_
      refine H_of_R (R_load1 T1_173 H fun _ t25 _ _ H => ?_)
      refine vl_n ?_
      refine H_of_R (R_assign (v := t25) rfl ?_)
      refine vl_e ?_
      exact ⟨H, rfl⟩
    refine WPc_seq' ?_
    refine W_region (by kernel_rfl) ?_
    refine vl_n ?_
    refine H_of_R (R_move (v := (e1 4)) rfl ?_)
    refine vl_n ?_
    refine H_call HB_126 H fun t17 h H => ?_
    refine vl_e ?_
    obtain ⟨b, hc, H1, H2⟩ := H
    refine WPc_cond hc (fun hh => ?_) (fun hh => ?_)
    · have H := H1 hh; clear H1 H2
      refine WPc_exit ?_
      exact H
    · have H := H2 hh; clear H1 H2
      refine WPc_skip ?_
      exact H
  · have H := H2 hh; clear H1 H2
    refine WPc_skip ?_
    exact H
/-! ### (*pub/tidwallbtree.Map[int, int]).Len -/
def Map_ii_Len.sh (a0 : Value) (h : Heap) (Q : Value → Heap → Prop) : Prop :=
    nilck a0 fun t4 =>
    fld 3 t4 fun t5 =>
    load1 t5 h fun t6 =>
    Q t6 h
theorem Map_ii_Len.body (a0 : Value) (h : Heap) (Q : Value → Heap → Prop) (H : Map_ii_Len.sh a0 h Q) : Map_ii_Len.call #[a0] h Q := by
  refine callsH_of (args := [a0]) Try.func100 rfl rfl ?_
  unfold Map_ii_Len.sh at H
  refine WPc_seq' ?_
  refine W_region (by kernel_rfl) ?_
  refine vl_n ?_
  refine H_of_R (R_assign (v := (.int .i64 0)) rfl ?_)
  refine vl_e ?_
  refine WPc_seq' ?_
  refine W_region (by kernel_rfl) ?_
  refine vl_n ?_
  refine H_of_R (R_move (v := a0) rfl ?_)
  refine vl_n ?_
  refine H_of_R (R_nil H fun t4 H => ?_)
  refine vl_n ?_
  refine H_of_R (R_fld TF_182_3 H fun t5 H => ?_)
  refine vl_n ?_
  refine H_of_R (R_load1 T1_3 H fun _ t6 _ _ H => ?_)
  refine vl_n ?_
  refine H_of_R (R_assign (v := t6) rfl ?_)
  refine vl_e ?_
  refine WPc_ret ?_
  refine resH_of rfl ?_
  exact H

end Go.Proofs.Ytlihjljdndbpdaa
