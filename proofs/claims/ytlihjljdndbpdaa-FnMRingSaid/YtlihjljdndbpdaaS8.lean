/-
  Shallow forms of the walked functions, and that each call comes to its form. Written by a program of this repo (gen.py). Conditions: none.
-/
import Derived.Test.YtlihjljdndbpdaaST
namespace Go.Proofs.Ytlihjljdndbpdaa
open Go.Hp
set_option maxRecDepth 100000
set_option maxHeartbeats 8000000
set_option linter.unusedVariables false
set_option linter.unusedSimpArgs false

/-! ### impl.found -/
def i_found.j1 (s2 : Value) (s4 : Value) (h : Heap) (Q : Value → Heap → Prop) : Prop :=
    loadN 2 s2 h fun t8 =>
    buildV [(.int .i64 0), (.int .i64 0), (.bool false)] [(0, 2, t8), (2, 1, (.bool true))] fun t9 =>
    storeN 3 s4 t9 h fun h =>
    loadN 3 s4 h fun r4 =>
    Q r4 h
def i_found.sh (a0 : Value) (a1 : Value) (h : Heap) (Q : Value → Heap → Prop) : Prop :=
    box 27 a0 h fun t2 h =>
    alloc [(.int .i64 0), (.int .i64 0), (.bool false)] 32 h fun t4 h =>
    notV a1 fun t6 =>
    ifV t6
    (buildV [(.int .i64 0), (.int .i64 0), (.bool false)] [] fun t7 =>
    storeN 3 t4 t7 h fun h =>
    loadN 3 t4 h fun r4 =>
    Q r4 h)
    (i_found.j1 t2 t4 h Q)
theorem i_found.body (a0 : Value) (a1 : Value) (h : Heap) (Q : Value → Heap → Prop) (H : i_found.sh a0 a1 h Q) : i_found.call #[a0, a1] h Q := by
  refine callsH_of (args := [a0, a1]) Try.func116 rfl rfl ?_
  unfold i_found.sh at H
  refine WPc_seq' ?_
  refine W_region (by kernel_rfl) ?_
  refine vl_n ?_
  refine H_box H fun t2 h H => ?_
  refine vl_n ?_
  refine H_alloc TV_32 H fun t4 h H => ?_
  refine vl_e ?_
  refine WPc_seq (fun e h => i_found.j1 (e 2) (e 4) h Q) ?_ (fun e h H => ?_)
  rotate_left
  · unfold i_found.j1 at H
    refine WPc_seq' ?_
    refine W_region (by kernel_rfl) ?_
    refine vl_n ?_
    refine H_of_R (R_loadN TN_27 H fun _ t8 _ _ H _ _ => ?_)
    refine vl_n ?_
    refine H_of_R (R_build TB_32 rfl (by decide) H fun t9 H => ?_)
    refine vl_n ?_
    refine H_storeN TS_32 H fun h H => ?_
    refine vl_e ?_
    refine WPc_ret ?_
    refine resH_of rfl ?_
    refine resL_N TN_32 ?_
    refine loadN_imp H fun r4 H => ?_
    exact H
  refine WPc_seq' ?_
  refine W_region (by kernel_rfl) ?_
  refine vl_n ?_
  refine H_of_R (R_move (v := a1) rfl ?_)
  refine vl_n ?_
  refine H_of_R (R_not H fun t6 H => ?_)
  refine vl_e ?_
  obtain ⟨b, hc, H1, H2⟩ := H
  refine WPc_cond hc (fun hh => ?_) (fun hh => ?_)
  · have H := H1 hh; clear H1 H2
    refine WPc_seq' ?_
    refine W_region (by kernel_rfl) ?_
    refine vl_n ?_
    refine H_of_R (R_build TB_32 rfl (by decide) H fun t7 H => ?_)
    refine vl_n ?_
    refine H_storeN TS_32 H fun h H => ?_
    refine vl_e ?_
    refine WPc_ret ?_
    refine resH_of rfl ?_
    refine resL_N TN_32 ?_
    refine loadN_imp H fun r4 H => ?_
    exact H
  · have H := H2 hh; clear H1 H2
    refine WPc_skip ?_
    exact H
/-! ### impl.pair -/
def i_pair.sh (a0 : Value) (a1 : Value) (a2 : Value) (h : Heap) (Q : Value → Heap → Prop) : Prop :=
    alloc [(.int .i64 0), (.int .i64 0), (.bool false)] 32 h fun t6 h =>
    buildV [(.int .i64 0), (.int .i64 0)] [(0, 1, a0), (1, 1, a1)] fun t9 =>
    i_found.call #[t9, a2] h fun t11 h =>
    storeN 3 t6 t11 h fun h =>
    loadN 3 t6 h fun r6 =>
    Q r6 h
theorem i_pair.body (a0 : Value) (a1 : Value) (a2 : Value) (h : Heap) (Q : Value → Heap → Prop) (H : i_pair.sh a0 a1 a2 h Q) : i_pair.call #[a0, a1, a2] h Q := by
  refine callsH_of (args := [a0, a1, a2]) Try.func60 rfl rfl ?_
  unfold i_pair.sh at H
  refine WPc_seq' ?_
  refine W_region (by kernel_rfl) ?_
  refine vl_n ?_
  refine H_alloc TV_32 H fun t6 h H => ?_
  refine vl_e ?_
  refine WPc_seq' ?_
  refine W_region (by kernel_rfl) ?_
  refine vl_n ?_
  refine H_of_R (R_move (v := a0) rfl ?_)
  refine vl_n ?_
  refine H_of_R (R_move (v := a1) rfl ?_)
  refine vl_n ?_
  refine H_of_R (R_build TB_27 rfl (by decide) H fun t9 H => ?_)
  refine vl_n ?_
  refine H_of_R (R_move (v := a2) rfl ?_)
  refine vl_n ?_
  refine H_call HB_116 H fun t11 h H => ?_
  refine vl_n ?_
  refine H_storeN TS_32 H fun h H => ?_
  refine vl_e ?_
  refine WPc_ret ?_
  refine resH_of rfl ?_
  refine resL_N TN_32 ?_
  refine loadN_imp H fun r6 H => ?_
  exact H
/-! ### (*pub/tidwallbtree.Map[int, int]).DoorRoot -/
def Map_ii_DoorRoot.sh (a0 : Value) (h : Heap) (Q : Value → Heap → Prop) : Prop :=
    alloc [(.pointer none)] 175 h fun t2 h =>
    nilck a0 fun t5 =>
    fld 2 t5 fun t6 =>
    load1 t6 h fun t7 =>
    buildV [(.pointer none)] [(0, 1, t7)] fun t8 =>
    nilck a0 fun t10 =>
    fld 2 t10 fun t11 =>
    load1 t11 h fun t12 =>
    neNilP t12 fun t13 =>
    storeN 1 t2 t8 h fun h =>
    still1 t11 t12 h ∧ loadN 1 t2 h fun r2 =>
    Q (.tuple #[r2, t13]) h
theorem Map_ii_DoorRoot.body (a0 : Value) (h : Heap) (Q : Value → Heap → Prop) (H : Map_ii_DoorRoot.sh a0 h Q) : Map_ii_DoorRoot.call #[a0] h Q := by
  refine callsH_of (args := [a0]) Try.func117 rfl rfl ?_
  unfold Map_ii_DoorRoot.sh at H
  refine WPc_seq' ?_
  refine W_region (by kernel_rfl) ?_
  refine vl_n ?_
  refine H_alloc TV_175 H fun t2 h H => ?_
  refine vl_n ?_
  refine H_of_R (R_assign (v := (.bool false)) rfl ?_)
  refine vl_e ?_
  refine WPc_seq' ?_
  refine W_drawn [0, 1, 3, 7, 15, 0, 32, 96, 224, 480, 31, 2047] (.take 0 (.take 1 (.take 2 (.take 3 (.take 4 (.take 5 (.take 6 (.take 7 (.take 8 (.take 9 (.alt 10 (.take 11 .done) .none))))))))))) mixed (by kernel_rfl) ?_
  refine tkP rfl ?_
  refine R_move (v := a0) rfl ⟨fun _ => trivial, ?_⟩
  refine tkP rfl ?_
  refine R_nil H fun t5 H => ⟨fun _ => trivial, ?_⟩
  refine tkP rfl ?_
  refine R_fld TF_182_2 H fun t6 H => ⟨fun _ => trivial, ?_⟩
  refine tkL rfl ?_
  refine R_load1 T1_173 H fun at7 t7 hat7 _ H => ?_
  refine tkP rfl ?_
  refine R_build TB_175 rfl (by decide) H fun t8 H => ⟨fun _ => trivial, ?_⟩
  refine tkP rfl ?_
  refine R_move (v := a0) rfl ⟨fun _ => trivial, ?_⟩
  refine tkP rfl ?_
  refine R_nil H fun t10 H => ⟨fun _ => trivial, ?_⟩
  refine tkP rfl ?_
  refine R_fld TF_182_2 H fun t11 H => ⟨fun _ => trivial, ?_⟩
  refine tkL rfl ?_
  refine R_load1 T1_173 H fun at12 t12 hat12 _ H => ?_
  refine tkP rfl ?_
  refine R_neNilP Try.underlying173 rfl H fun t13 H => ⟨fun _ => trivial, ?_⟩
  refine alt_n rfl ?_ vp_none
  refine H_storeN TS_175 H fun h ⟨S, H⟩ => ⟨(hcons rfl (still_1 S hat12) (hskip rfl hnil)), ?_⟩
  refine tkP rfl ?_
  refine R_assign (v := t13) rfl ⟨fun _ => trivial, ?_⟩
  refine vp_done ?_
  refine WPc_ret ?_
  refine resH_of rfl ?_
  refine resL_N TN_175 ?_
  refine loadN_imp H fun r2 H => ?_
  refine resL_t ?_
  exact H
/-! ### (pub/tidwallbtree.DoorMapNode[int, int]).DoorCount -/
def DoorMapNode_ii_DoorCount.sh (a0 : Value) (h : Heap) (Q : Value → Heap → Prop) : Prop :=
    box 175 a0 h fun t1 h =>
    fld 0 t1 fun t3 =>
    load1 t3 h fun t4 =>
    nilck t4 fun t5 =>
    fld 1 t5 fun t6 =>
    load1 t6 h fun t7 =>
    Q t7 h
theorem DoorMapNode_ii_DoorCount.body (a0 : Value) (h : Heap) (Q : Value → Heap → Prop) (H : DoorMapNode_ii_DoorCount.sh a0 h Q) : DoorMapNode_ii_DoorCount.call #[a0] h Q := by
  refine callsH_of (args := [a0]) Try.func157 rfl rfl ?_
  unfold DoorMapNode_ii_DoorCount.sh at H
  refine WPc_seq' ?_
  refine W_region (by kernel_rfl) ?_
  refine vl_n ?_
  refine H_box H fun t1 h H => ?_
  refine vl_n ?_
  refine H_of_R (R_assign (v := (.int .i64 0)) rfl ?_)
  refine vl_e ?_
  refine WPc_seq' ?_
  refine W_region (by kernel_rfl) ?_
  refine vl_n ?_
  refine H_of_R (R_fld TF_175_0 H fun t3 H => ?_)
  refine vl_n ?_
  refine H_of_R (R_load1 T1_173 H fun _ t4 _ _ H => ?_)
  refine vl_n ?_
  refine H_of_R (R_nil H fun t5 H => ?_)
  refine vl_n ?_
  refine H_of_R (R_fld TF_188_1 H fun t6 H => ?_)
  refine vl_n ?_
  refine H_of_R (R_load1 T1_3 H fun _ t7 _ _ H => ?_)
  refine vl_n ?_
  refine H_of_R (R_assign (v := t7) rfl ?_)
  refine vl_e ?_
  refine WPc_ret ?_
  refine resH_of rfl ?_
  exact H
/-! ### (pub/tidwallbtree.DoorMapNode[int, int]).DoorLen -/
def DoorMapNode_ii_DoorLen.sh (a0 : Value) (h : Heap) (Q : Value → Heap → Prop) : Prop :=
    box 175 a0 h fun t1 h =>
    fld 0 t1 fun t3 =>
    load1 t3 h fun t4 =>
    nilck t4 fun t5 =>
    fld 2 t5 fun t6 =>
    load1 t6 h fun t7 =>
    lenV t7 fun t8 =>
    Q t8 h
theorem DoorMapNode_ii_DoorLen.body (a0 : Value) (h : Heap) (Q : Value → Heap → Prop) (H : DoorMapNode_ii_DoorLen.sh a0 h Q) : DoorMapNode_ii_DoorLen.call #[a0] h Q := by
  refine callsH_of (args := [a0]) Try.func158 rfl rfl ?_
  unfold DoorMapNode_ii_DoorLen.sh at H
  refine WPc_seq' ?_
  refine W_region (by kernel_rfl) ?_
  refine vl_n ?_
  refine H_box H fun t1 h H => ?_
  refine vl_n ?_
  refine H_of_R (R_assign (v := (.int .i64 0)) rfl ?_)
  refine vl_e ?_
  refine WPc_seq' ?_
  refine W_region (by kernel_rfl) ?_
  refine vl_n ?_
  refine H_of_R (R_fld TF_175_0 H fun t3 H => ?_)
  refine vl_n ?_
  refine H_of_R (R_load1 T1_173 H fun _ t4 _ _ H => ?_)
  refine vl_n ?_
  refine H_of_R (R_nil H fun t5 H => ?_)
  refine vl_n ?_
  refine H_of_R (R_fld TF_188_2 H fun t6 H => ?_)
  refine vl_n ?_
  refine H_of_R (R_load1 T1_185 H fun _ t7 _ _ H => ?_)
  refine vl_n ?_
  refine H_of_R (R_len Try.underlying185 H fun t8 H => ?_)
  refine vl_n ?_
  refine H_of_R (R_assign (v := t8) rfl ?_)
  refine vl_e ?_
  refine WPc_ret ?_
  refine resH_of rfl ?_
  exact H
/-! ### (pub/tidwallbtree.DoorMapNode[int, int]).DoorAt -/
def DoorMapNode_ii_DoorAt.sh (a0 : Value) (a1 : Value) (h : Heap) (Q : Value → Heap → Prop) : Prop :=
    box 175 a0 h fun t2 h =>
    fld 0 t2 fun t6 =>
    load1 t6 h fun t7 =>
    nilck t7 fun t8 =>
    fld 2 t8 fun t9 =>
    load1 t9 h fun t10 =>
    idx 2 t10 a1 fun t12 =>
    fld 1 t12 fun t13 =>
    load1 t13 h fun t14 =>
    fld 0 t2 fun t15 =>
    load1 t15 h fun t16 =>
    nilck t16 fun t17 =>
    fld 2 t17 fun t18 =>
    load1 t18 h fun t19 =>
    idx 2 t19 a1 fun t21 =>
    fld 0 t21 fun t22 =>
    load1 t22 h fun t23 =>
    Q (.tuple #[t14, t23]) h
theorem DoorMapNode_ii_DoorAt.body (a0 : Value) (a1 : Value) (h : Heap) (Q : Value → Heap → Prop) (H : DoorMapNode_ii_DoorAt.sh a0 a1 h Q) : DoorMapNode_ii_DoorAt.call #[a0, a1] h Q := by
  refine callsH_of (args := [a0, a1]) Try.func159 rfl rfl ?_
  unfold DoorMapNode_ii_DoorAt.sh at H
  refine WPc_seq' ?_
  refine W_region (by kernel_rfl) ?_
  refine vl_n ?_
  refine H_box H fun t2 h H => ?_
  refine vl_n ?_
  refine H_of_R (R_assign (v := (.int .i64 0)) rfl ?_)
  refine vl_n ?_
  refine H_of_R (R_assign (v := (.int .i64 0)) rfl ?_)
  refine vl_e ?_
  refine WPc_seq' ?_
  refine W_drawn [0, 1, 3, 7, 15, 0, 63, 127, 255, 0, 512, 1536, 3584, 7680, 0, 32256, 65024, 130560, 511, 524287] (.take 0 (.take 1 (.take 2 (.take 3 (.take 4 (.take 5 (.take 6 (.take 7 (.take 8 (.take 9 (.take 10 (.take 11 (.take 12 (.take 13 (.take 14 (.take 15 (.take 16 (.take 17 (.take 18 (.take 19 .done)))))))))))))))))))) mixed (by kernel_rfl) ?_
  refine tkP rfl ?_
  refine R_fld TF_175_0 H fun t6 H => ⟨fun _ => trivial, ?_⟩
  refine tkL rfl ?_
  refine R_load1 T1_173 H fun at7 t7 hat7 _ H => ?_
  refine tkP rfl ?_
  refine R_nil H fun t8 H => ⟨fun _ => trivial, ?_⟩
  refine tkP rfl ?_
  refine R_fld TF_188_2 H fun t9 H => ⟨fun _ => trivial, ?_⟩
  refine tkL rfl ?_
  refine R_load1 T1_185 H fun at10 t10 hat10 _ H => ?_
  refine tkP rfl ?_
  refine R_move (v := a1) rfl ⟨fun _ => trivial, ?_⟩
  refine tkP rfl ?_
  refine R_idx TE_185 H fun t12 H => ⟨fun _ => trivial, ?_⟩
  refine tkP rfl ?_
  refine R_fld TF_178_1 H fun t13 H => ⟨fun _ => trivial, ?_⟩
  refine tkL rfl ?_
  refine R_load1 T1_3 H fun at14 t14 hat14 _ H => ?_
  refine tkP rfl ?_
  refine R_fld TF_175_0 H fun t15 H => ⟨fun _ => trivial, ?_⟩
  refine tkL rfl ?_
  refine R_load1 T1_173 H fun at16 t16 hat16 _ H => ?_
  refine tkP rfl ?_
  refine R_nil H fun t17 H => ⟨fun _ => trivial, ?_⟩
  refine tkP rfl ?_
  refine R_fld TF_188_2 H fun t18 H => ⟨fun _ => trivial, ?_⟩
  refine tkL rfl ?_
  refine R_load1 T1_185 H fun at19 t19 hat19 _ H => ?_
  refine tkP rfl ?_
  refine R_move (v := a1) rfl ⟨fun _ => trivial, ?_⟩
  refine tkP rfl ?_
  refine R_idx TE_185 H fun t21 H => ⟨fun _ => trivial, ?_⟩
  refine tkP rfl ?_
  refine R_fld TF_178_0 H fun t22 H => ⟨fun _ => trivial, ?_⟩
  refine tkL rfl ?_
  refine R_load1 T1_3 H fun at23 t23 hat23 _ H => ?_
  refine tkP rfl ?_
  refine R_assign (v := t14) rfl ⟨fun _ => trivial, ?_⟩
  refine tkP rfl ?_
  refine R_assign (v := t23) rfl ⟨fun _ => trivial, ?_⟩
  refine vp_done ?_
  refine WPc_ret ?_
  refine resH_of rfl ?_
  exact H
/-! ### (pub/tidwallbtree.DoorMapNode[int, int]).DoorIsLeaf -/
def DoorMapNode_ii_DoorIsLeaf.sh (a0 : Value) (h : Heap) (Q : Value → Heap → Prop) : Prop :=
    box 175 a0 h fun t1 h =>
    fld 0 t1 fun t3 =>
    load1 t3 h fun t4 =>
    mapNode_ii_leaf.call #[t4] h fun t5 h =>
    Q t5 h
theorem DoorMapNode_ii_DoorIsLeaf.body (a0 : Value) (h : Heap) (Q : Value → Heap → Prop) (H : DoorMapNode_ii_DoorIsLeaf.sh a0 h Q) : DoorMapNode_ii_DoorIsLeaf.call #[a0] h Q := by
  refine callsH_of (args := [a0]) Try.func160 rfl rfl ?_
  unfold DoorMapNode_ii_DoorIsLeaf.sh at H
  refine WPc_seq' ?_
  refine W_region (by kernel_rfl) ?_
  refine vl_n ?_
  refine H_box H fun t1 h H => ?_
  refine vl_n ?_
  refine H_of_R (R_assign (v := (.bool false)) rfl ?_)
  refine vl_e ?_
  refine WPc_seq' ?_
  refine W_region (by kernel_rfl) ?_
  refine vl_n ?_
  refine H_of_R (R_fld TF_175_0 H fun t3 H => ?_)
  refine vl_n ?_
  refine H_of_R (R_load1 T1_173 H fun _ t4 _ _ H => ?_)
  refine vl_n ?_
  refine H_call HB_126 H fun t5 h H => ?_
  refine vl_n ?_
  refine H_of_R (R_assign (v := t5) rfl ?_)
  refine vl_e ?_
  refine WPc_ret ?_
  refine resH_of rfl ?_
  exact H
/-! ### (pub/tidwallbtree.DoorMapNode[int, int]).DoorKids -/
def DoorMapNode_ii_DoorKids.sh (a0 : Value) (h : Heap) (Q : Value → Heap → Prop) : Prop :=
    box 175 a0 h fun t1 h =>
    fld 0 t1 fun t3 =>
    load1 t3 h fun t4 =>
    nilck t4 fun t5 =>
    fld 3 t5 fun t6 =>
    load1 t6 h fun t7 =>
    nilck t7 fun t8 =>
    load1 t8 h fun t9 =>
    lenV t9 fun t10 =>
    Q t10 h
theorem DoorMapNode_ii_DoorKids.body (a0 : Value) (h : Heap) (Q : Value → Heap → Prop) (H : DoorMapNode_ii_DoorKids.sh a0 h Q) : DoorMapNode_ii_DoorKids.call #[a0] h Q := by
  refine callsH_of (args := [a0]) Try.func161 rfl rfl ?_
  unfold DoorMapNode_ii_DoorKids.sh at H
  refine WPc_seq' ?_
  refine W_region (by kernel_rfl) ?_
  refine vl_n ?_
  refine H_box H fun t1 h H => ?_
  refine vl_n ?_
  refine H_of_R (R_assign (v := (.int .i64 0)) rfl ?_)
  refine vl_e ?_
  refine WPc_seq' ?_
  refine W_region (by kernel_rfl) ?_
  refine vl_n ?_
  refine H_of_R (R_fld TF_175_0 H fun t3 H => ?_)
  refine vl_n ?_
  refine H_of_R (R_load1 T1_173 H fun _ t4 _ _ H => ?_)
  refine vl_n ?_
  refine H_of_R (R_nil H fun t5 H => ?_)
  refine vl_n ?_
  refine H_of_R (R_fld TF_188_3 H fun t6 H => ?_)
  refine vl_n ?_
  refine H_of_R (R_load1 T1_186 H fun _ t7 _ _ H => ?_)
  refine vl_n ?_
  refine H_of_R (R_nil H fun t8 H => ?_)
  refine vl_n ?_
  refine H_of_R (R_load1 T1_194 H fun _ t9 _ _ H => ?_)
  refine vl_n ?_
  refine H_of_R (R_len Try.underlying194 H fun t10 H => ?_)
  refine vl_n ?_
  refine H_of_R (R_assign (v := t10) rfl ?_)
  refine vl_e ?_
  refine WPc_ret ?_
  refine resH_of rfl ?_
  exact H
/-! ### (pub/tidwallbtree.DoorMapNode[int, int]).DoorKid -/
def DoorMapNode_ii_DoorKid.sh (a0 : Value) (a1 : Value) (h : Heap) (Q : Value → Heap → Prop) : Prop :=
    box 175 a0 h fun t2 h =>
    alloc [(.pointer none)] 175 h fun t4 h =>
    fld 0 t2 fun t5 =>
    load1 t5 h fun t6 =>
    nilck t6 fun t7 =>
    fld 3 t7 fun t8 =>
    load1 t8 h fun t9 =>
    nilck t9 fun t10 =>
    load1 t10 h fun t11 =>
    idx 1 t11 a1 fun t13 =>
    load1 t13 h fun t14 =>
    buildV [(.pointer none)] [(0, 1, t14)] fun t15 =>
    storeN 1 t4 t15 h fun h =>
    loadN 1 t4 h fun r4 =>
    Q r4 h
theorem DoorMapNode_ii_DoorKid.body (a0 : Value) (a1 : Value) (h : Heap) (Q : Value → Heap → Prop) (H : DoorMapNode_ii_DoorKid.sh a0 a1 h Q) : DoorMapNode_ii_DoorKid.call #[a0, a1] h Q := by
  refine callsH_of (args := [a0, a1]) Try.func162 rfl rfl ?_
  unfold DoorMapNode_ii_DoorKid.sh at H
  refine WPc_seq' ?_
  refine W_region (by kernel_rfl) ?_
  refine vl_n ?_
  refine H_box H fun t2 h H => ?_
  refine vl_n ?_
  refine H_alloc TV_175 H fun t4 h H => ?_
  refine vl_e ?_
  refine WPc_seq' ?_
  refine W_region (by kernel_rfl) ?_
  refine vl_n ?_
  refine H_of_R (R_fld TF_175_0 H fun t5 H => ?_)
  refine vl_n ?_
  refine H_of_R (R_load1 T1_173 H fun _ t6 _ _ H => ?_)
  refine vl_n ?_
  refine H_of_R (R_nil H fun t7 H => ?_)
  refine vl_n ?_
  refine H_of_R (R_fld TF_188_3 H fun t8 H => ?_)
  refine vl_n ?_
  refine H_of_R (R_load1 T1_186 H fun _ t9 _ _ H => ?_)
  refine vl_n ?_
  refine H_of_R (R_nil H fun t10 H => ?_)
  refine vl_n ?_
  refine H_of_R (R_load1 T1_194 H fun _ t11 _ _ H => ?_)
  refine vl_n ?_
  refine H_of_R (R_move (v := a1) rfl ?_)
  refine vl_n ?_
  refine H_of_R (R_idx TE_194 H fun t13 H => ?_)
  refine vl_n ?_
  refine H_of_R (R_load1 T1_173 H fun _ t14 _ _ H => ?_)
  refine vl_n ?_
  refine H_of_R (R_build TB_175 rfl (by decide) H fun t15 H => ?_)
  refine vl_n ?_
  refine H_storeN TS_175 H fun h H => ?_
  refine vl_e ?_
  refine WPc_ret ?_
  refine resH_of rfl ?_
  refine resL_N TN_175 ?_
  refine loadN_imp H fun r4 H => ?_
  exact H
/-! ### impl.liftedMap -/
def i_liftedMap.j2 (s2 : Value) (s3 : Value) (h : Heap) (Q : Value → Heap → Prop) : Prop :=
    loadN 3 s3 h fun t49 =>
    storeN 3 s2 t49 h fun h =>
    loadN 3 s2 h fun r2 =>
    Q r2 h
def i_liftedMap.j5 (s1 : Value) (s2 : Value) (s3 : Value) (s35 : Value) (s36 : Value) (h : Heap) (K1 : List Value → Heap → Prop) (Q : Value → Heap → Prop) : Prop :=
    arith (· + ·) s36 (.int .i64 1) fun t48 =>
    K1 [t48] h
def i_liftedMap.j4 (s1 : Value) (s2 : Value) (s3 : Value) (s35 : Value) (s36 : Value) (h : Heap) (K1 : List Value → Heap → Prop) (Q : Value → Heap → Prop) : Prop :=
    fld 1 s3 fun t39 =>
    load1 t39 h fun t40 =>
    loadN 1 s1 h fun t41 =>
    DoorMapNode_ii_DoorKid.call #[t41, s36] h fun t43 h =>
    still1 t39 t40 h ∧ i_liftedMap.call #[t43] h fun t44 h =>
    still1 t39 t40 h ∧ mkSl (if 1 * 3 = 0 then [] else zeros [(.slice none 0 0), (.slice none 0 0), (.int .i64 0)] 1) 1 [(0 * 3, 3, t44)] 25 h fun t45 h =>
    still1 t39 t40 h ∧ app 25 3 56 [(.slice none 0 0), (.slice none 0 0), (.int .i64 0)] t40 t45 h fun t46 h =>
    fld 1 s3 fun t47 =>
    store1 t47 t46 h fun h =>
    i_liftedMap.j5 s1 s2 s3 s35 s36 h K1 Q
def i_liftedMap.l3.b (c1 : Value) (c2 : Value) (c3 : Value) (c35 : Value) (s36 : Value) (h : Heap) (K1 : List Value → Heap → Prop) (Q : Value → Heap → Prop) : Prop :=
    cmpI (fun a b => decide (a < b)) s36 c35 fun t37 =>
    ifV t37
    (i_liftedMap.j4 c1 c2 c3 c35 s36 h K1 Q)
    (i_liftedMap.j2 c2 c3 h Q)
def i_liftedMap.j1 (s1 : Value) (s2 : Value) (s3 : Value) (h : Heap) (Q : Value → Heap → Prop) : Prop :=
    loadN 1 s1 h fun t31 =>
    DoorMapNode_ii_DoorIsLeaf.call #[t31] h fun t32 h =>
    notV t32 fun t33 =>
    ifV t33
    (loadN 1 s1 h fun t34 =>
    DoorMapNode_ii_DoorKids.call #[t34] h fun t35 h =>
    loopC (fun c s h K1 => i_liftedMap.l3.b (c.getD 0 undef) (c.getD 1 undef) (c.getD 2 undef) (c.getD 3 undef) (s.getD 0 undef) h K1 Q) [s1, s2, s3, t35] [(.int .i64 0)] h)
    (i_liftedMap.j2 s2 s3 h Q)
def i_liftedMap.j8 (s1 : Value) (s2 : Value) (s3 : Value) (s12 : Value) (s13 : Value) (h : Heap) (K1 : List Value → Heap → Prop) (Q : Value → Heap → Prop) : Prop :=
    arith (· + ·) s13 (.int .i64 1) fun t30 =>
    K1 [t30] h
def i_liftedMap.j7 (s1 : Value) (s2 : Value) (s3 : Value) (s12 : Value) (s13 : Value) (h : Heap) (K1 : List Value → Heap → Prop) (Q : Value → Heap → Prop) : Prop :=
    loadN 1 s1 h fun t17 =>
    DoorMapNode_ii_DoorAt.call #[t17, s13] h fun t19 h =>
    extr 0 t19 fun t20 =>
    extr 1 t19 fun t21 =>
    fld 0 s3 fun t22 =>
    load1 t22 h fun t23 =>
    buildV [(.int .i64 0), (.int .i64 0)] [(0, 1, t20), (1, 1, t21)] fun t26 =>
    mkSl (if 1 * 2 = 0 then [] else zeros [(.int .i64 0), (.int .i64 0)] 1) 1 [(0 * 2, 2, t26)] 27 h fun t27 h =>
    app 27 2 16 [(.int .i64 0), (.int .i64 0)] t23 t27 h fun t28 h =>
    fld 0 s3 fun t29 =>
    store1 t29 t28 h fun h =>
    i_liftedMap.j8 s1 s2 s3 s12 s13 h K1 Q
def i_liftedMap.l6.b (c1 : Value) (c2 : Value) (c3 : Value) (c12 : Value) (s13 : Value) (h : Heap) (K1 : List Value → Heap → Prop) (Q : Value → Heap → Prop) : Prop :=
    cmpI (fun a b => decide (a < b)) s13 c12 fun t14 =>
    ifV t14
    (i_liftedMap.j7 c1 c2 c3 c12 s13 h K1 Q)
    (i_liftedMap.j1 c1 c2 c3 h Q)
def i_liftedMap.sh (a0 : Value) (h : Heap) (Q : Value → Heap → Prop) : Prop :=
    box 175 a0 h fun t1 h =>
    alloc [(.slice none 0 0), (.slice none 0 0), (.int .i64 0)] 25 h fun t2 h =>
    loadN 1 t1 h fun t8 =>
    DoorMapNode_ii_DoorCount.call #[t8] h fun t9 h =>
    buildV [(.slice none 0 0), (.slice none 0 0), (.int .i64 0)] [(2, 1, t9)] fun t10 =>
    alloc [(.slice none 0 0), (.slice none 0 0), (.int .i64 0)] 25 h fun t3 h =>
    storeN 3 t3 t10 h fun h =>
    loadN 1 t1 h fun t11 =>
    DoorMapNode_ii_DoorLen.call #[t11] h fun t12 h =>
    loopC (fun c s h K1 => i_liftedMap.l6.b (c.getD 0 undef) (c.getD 1 undef) (c.getD 2 undef) (c.getD 3 undef) (s.getD 0 undef) h K1 Q) [t1, t2, t3, t12] [(.int .i64 0)] h
theorem i_liftedMap.body (a0 : Value) (h : Heap) (Q : Value → Heap → Prop) (H : i_liftedMap.sh a0 h Q) : i_liftedMap.call #[a0] h Q := by
  refine callsH_of (args := [a0]) Try.func118 rfl rfl ?_
  unfold i_liftedMap.sh at H
  refine WPc_seq' ?_
  refine W_region (by kernel_rfl) ?_
  refine vl_n ?_
  refine H_box H fun t1 h H => ?_
  refine vl_n ?_
  refine H_alloc TV_25 H fun t2 h H => ?_
  refine vl_e ?_
  refine WPc_seq' ?_
  refine W_region (by kernel_rfl) ?_
  refine vl_n ?_
  refine H_of_R (R_loadN TN_175 H fun _ t8 _ _ H _ _ => ?_)
  refine vl_n ?_
  refine H_call HB_157 H fun t9 h H => ?_
  refine vl_n ?_
  refine H_of_R (R_build TB_25 rfl (by decide) H fun t10 H => ?_)
  refine vl_n ?_
  refine H_alloc TV_25 H fun t3 h H => ?_
  refine vl_n ?_
  refine H_storeN TS_25 H fun h H => ?_
  refine vl_e ?_
  refine WPc_seq (fun e h => i_liftedMap.j1 (e 1) (e 2) (e 3) h Q) ?_ (fun e h H => ?_)
  rotate_left
  · unfold i_liftedMap.j1 at H
    refine WPc_seq (fun e h => i_liftedMap.j2 (e 2) (e 3) h Q) ?_ (fun e h H => ?_)
    rotate_left
    · unfold i_liftedMap.j2 at H
      refine WPc_seq' ?_
      refine W_region (by kernel_rfl) ?_
      refine vl_n ?_
      refine H_of_R (R_loadN TN_25 H fun _ t49 _ _ H _ _ => ?_)
      refine vl_n ?_
      refine H_storeN TS_25 H fun h H => ?_
      refine vl_e ?_
      refine WPc_ret ?_
      refine resH_of rfl ?_
      refine resL_N TN_25 ?_
      refine loadN_imp H fun r2 H => ?_
      exact H
    refine WPc_seq' ?_
    refine W_region (by kernel_rfl) ?_
    refine vl_n ?_
    refine H_of_R (R_loadN TN_175 H fun _ t31 _ _ H _ _ => ?_)
    refine vl_n ?_
    refine H_call HB_160 H fun t32 h H => ?_
    refine vl_n ?_
    refine H_of_R (R_not H fun t33 H => ?_)
    refine vl_e ?_
    obtain ⟨b, hc, H1, H2⟩ := H
    refine WPc_cond hc (fun hh => ?_) (fun hh => ?_)
    · have H := H1 hh; clear H1 H2
      refine WPc_seq' ?_
      refine W_region (by kernel_rfl) ?_
      refine vl_n ?_
      refine H_of_R (R_loadN TN_175 H fun _ t34 _ _ H _ _ => ?_)
      refine vl_n ?_
      refine H_call HB_161 H fun t35 h H => ?_
      refine vl_n ?_
      refine H_of_R (R_move (v := (.int .i64 0)) rfl ?_)
      refine vl_e ?_
      refine WPc_block ?_
      refine loop_at (fun e => [e 36]) (fun e => [e 1, e 2, e 3, e 35]) H rfl rfl ?_
      intro K1 e1 h H hin1
      replace H : i_liftedMap.l3.b (e1 1) (e1 2) (e1 3) (e1 35) (e1 36) h K1 Q := H
      unfold i_liftedMap.l3.b at H
      clear hin1
      refine WPc_seq' ?_
      refine W_region (by kernel_rfl) ?_
      refine vl_n ?_
      refine H_of_R (R_lss H fun t37 H => ?_)
      refine vl_e ?_
      refine WPc_seq (fun e h => i_liftedMap.j4 (e 1) (e 2) (e 3) (e 35) (e 36) h K1 Q ∧ [e1 1, e1 2, e1 3, e1 35] = [e 1, e 2, e 3, e 35]) ?_ (fun e h ⟨H, hq1⟩ => ?_)
      rotate_left
      · unfold i_liftedMap.j4 at H
        refine WPc_seq (fun e h => i_liftedMap.j5 (e 1) (e 2) (e 3) (e 35) (e 36) h K1 Q ∧ [e1 1, e1 2, e1 3, e1 35] = [e 1, e 2, e 3, e 35]) ?_ (fun e h ⟨H, hq1⟩ => ?_)
        rotate_left
        · unfold i_liftedMap.j5 at H
          refine W_region (by kernel_rfl) ?_
          refine vl_n ?_
          refine H_of_R (R_add H fun t48 H => ?_)
          refine vl_n ?_
          refine H_of_R (R_move (v := t48) rfl ?_)
          refine vl_e ?_
          exact ⟨H, hq1⟩
        refine WPc_block ?_
        refine WPc_seq' ?_
        refine W_region (by kernel_rfl) ?_
        refine vl_n ?_
        refine H_of_R (R_move (v := (e 36)) rfl ?_)
        refine vl_n ?_
        refine H_of_R (R_assign (v := (e 36)) rfl ?_)
        refine vl_e ?_
        refine W_drawn [0, 1, 0, 0, 12, 28, 60, 127, 255, 511] (.take 0 (.take 1 (.take 2 (.take 3 (.alt 4 (.alt 5 (.alt 6 (.alt 7 (.take 8 (.alt 9 .done .none)) .none) .none) .none) .none))))) mixed (by kernel_rfl) ?_
        refine tkP rfl ?_
        refine R_fld TF_25_1 H fun t39 H => ⟨fun _ => trivial, ?_⟩
        refine tkL rfl ?_
        refine R_load1 T1_23 H fun at40 t40 hat40 _ H => ?_
        refine tkL rfl ?_
        refine R_loadN TN_175 H fun at41 xt41 hat41 _ H St41 hSt41 => ?_
        refine tkP rfl ?_
        refine R_move (v := (e 36)) rfl ⟨fun _ => trivial, ?_⟩
        refine alt_n rfl ?_ vp_none
        refine H_call HB_162 H fun t43 h ⟨S, H⟩ => ⟨(hskip rfl (hcons rfl (still_1 S hat40) hnil)), ?_⟩
        refine alt_n rfl ?_ vp_none
        refine H_call HB_118 H fun t44 h ⟨S_2, H⟩ => ⟨(hcons rfl (still_1 S_2 hat40) hnil), ?_⟩
        refine alt_n rfl ?_ vp_none
        refine H_mkSl TZ_23 (by decide) rfl H rfl fun t45 h ⟨S_3, H⟩ => ⟨(hcons rfl (still_1 S_3 hat40) hnil), ?_⟩
        refine alt_n rfl ?_ vp_none
        refine H_app TZ_23 TU_23 H fun t46 h H => ⟨(hskip rfl hnil), ?_⟩
        refine tkP rfl ?_
        refine R_fld TF_25_1 H fun t47 H => ⟨fun _ => trivial, ?_⟩
        refine alt_n rfl ?_ vp_none
        refine H_store1 TS_23 H fun h H => ⟨hnil, ?_⟩
        refine vp_done ?_
        exact ⟨H, hq1⟩
      obtain ⟨b, hc, H1, H2⟩ := H
      refine WPc_cond hc (fun hh => ?_) (fun hh => ?_)
      · have H := H1 hh; clear H1 H2
        refine WPc_skip ?_
        exact ⟨H, rfl⟩
      · have H := H2 hh; clear H1 H2
        refine WPc_exit ?_
        exact H
    · have H := H2 hh; clear H1 H2
      refine WPc_skip ?_
      exact H
  refine WPc_seq' ?_
  refine W_region (by kernel_rfl) ?_
  refine vl_n ?_
  refine H_of_R (R_loadN TN_175 H fun _ t11 _ _ H _ _ => ?_)
  refine vl_n ?_
  refine H_call HB_158 H fun t12 h H => ?_
  refine vl_n ?_
  refine H_of_R (R_move (v := (.int .i64 0)) rfl ?_)
  refine vl_e ?_
  refine WPc_block ?_
  refine loop_at (fun e => [e 13]) (fun e => [e 1, e 2, e 3, e 12]) H rfl rfl ?_
  intro K1 e1 h H hin1
  replace H : i_liftedMap.l6.b (e1 1) (e1 2) (e1 3) (e1 12) (e1 13) h K1 Q := H
  unfold i_liftedMap.l6.b at H
  clear hin1
  refine WPc_seq' ?_
  refine W_region (by kernel_rfl) ?_
  refine vl_n ?_
  refine H_of_R (R_lss H fun t14 H => ?_)
  refine vl_e ?_
  refine WPc_seq (fun e h => i_liftedMap.j7 (e 1) (e 2) (e 3) (e 12) (e 13) h K1 Q ∧ [e1 1, e1 2, e1 3, e1 12] = [e 1, e 2, e 3, e 12]) ?_ (fun e h ⟨H, hq1⟩ => ?_)
  rotate_left
  · unfold i_liftedMap.j7 at H
    refine WPc_seq (fun e h => i_liftedMap.j8 (e 1) (e 2) (e 3) (e 12) (e 13) h K1 Q ∧ [e1 1, e1 2, e1 3, e1 12] = [e 1, e 2, e 3, e 12]) ?_ (fun e h ⟨H, hq1⟩ => ?_)
    rotate_left
    · unfold i_liftedMap.j8 at H
      refine W_region (by kernel_rfl) ?_
      refine vl_n ?_
      refine H_of_R (R_add H fun t30 H => ?_)
      refine vl_n ?_
      refine H_of_R (R_move (v := t30) rfl ?_)
      refine vl_e ?_
      exact ⟨H, hq1⟩
    refine WPc_block ?_
    refine WPc_seq' ?_
    refine W_region (by kernel_rfl) ?_
    refine vl_n ?_
    refine H_of_R (R_move (v := (e 13)) rfl ?_)
    refine vl_n ?_
    refine H_of_R (R_assign (v := (e 13)) rfl ?_)
    refine vl_e ?_
    refine WPc_seq' ?_
    refine W_region (by kernel_rfl) ?_
    refine vl_n ?_
    refine H_of_R (R_loadN TN_175 H fun _ t17 _ _ H _ _ => ?_)
    refine vl_n ?_
    refine H_of_R (R_move (v := (e 13)) rfl ?_)
    refine vl_n ?_
    refine H_call HB_159 H fun t19 h H => ?_
    refine vl_n ?_
    refine H_of_R (R_move (v := t19) rfl ?_)
    refine vl_n ?_
    refine H_of_R (R_ext H fun t20 H => ?_)
    refine vl_n ?_
    refine H_of_R (R_ext H fun t21 H => ?_)
    refine vl_n ?_
    refine H_of_R (R_assign (v := t20) rfl ?_)
    refine vl_n ?_
    refine H_of_R (R_assign (v := t21) rfl ?_)
    refine vl_e ?_
    refine W_region (by kernel_rfl) ?_
    refine vl_n ?_
    refine H_of_R (R_fld TF_25_0 H fun t22 H => ?_)
    refine vl_n ?_
    refine H_of_R (R_load1 T1_22 H fun _ t23 _ _ H => ?_)
    refine vl_n ?_
    refine H_of_R (R_move (v := t20) rfl ?_)
    refine vl_n ?_
    refine H_of_R (R_move (v := t21) rfl ?_)
    refine vl_n ?_
    refine H_of_R (R_build TB_27 rfl (by decide) H fun t26 H => ?_)
    refine vl_n ?_
    refine H_mkSl TZ_22 (by decide) rfl H rfl fun t27 h H => ?_
    refine vl_n ?_
    refine H_app TZ_22 TU_22 H fun t28 h H => ?_
    refine vl_n ?_
    refine H_of_R (R_fld TF_25_0 H fun t29 H => ?_)
    refine vl_n ?_
    refine H_store1 TS_22 H fun h H => ?_
    refine vl_e ?_
    exact ⟨H, hq1⟩
  obtain ⟨b, hc, H1, H2⟩ := H
  refine WPc_cond hc (fun hh => ?_) (fun hh => ?_)
  · have H := H1 hh; clear H1 H2
    refine WPc_skip ?_
    exact ⟨H, rfl⟩
  · have H := H2 hh; clear H1 H2
    refine WPc_exit ?_
    exact H
/-! ### impl.fellMap -/
def i_fellMap.j1 (s2 : Value) (s3 : Value) (h : Heap) (Q : Value → Heap → Prop) : Prop :=
    loadN 1 s3 h fun t13 =>
    i_liftedMap.call #[t13] h fun t14 h =>
    storeN 3 s2 t14 h fun h =>
    loadN 3 s2 h fun r2 =>
    Q r2 h
def i_fellMap.sh (a0 : Value) (h : Heap) (Q : Value → Heap → Prop) : Prop :=
    alloc [(.slice none 0 0), (.slice none 0 0), (.int .i64 0)] 25 h fun t2 h =>
    Map_ii_DoorRoot.call #[a0] h fun t7 h =>
    extr 0 t7 fun t8 =>
    extr 1 t7 fun t9 =>
    alloc [(.pointer none)] 175 h fun t3 h =>
    storeN 1 t3 t8 h fun h =>
    notV t9 fun t11 =>
    ifV t11
    (buildV [(.slice none 0 0), (.slice none 0 0), (.int .i64 0)] [] fun t12 =>
    storeN 3 t2 t12 h fun h =>
    loadN 3 t2 h fun r2 =>
    Q r2 h)
    (i_fellMap.j1 t2 t3 h Q)
theorem i_fellMap.body (a0 : Value) (h : Heap) (Q : Value → Heap → Prop) (H : i_fellMap.sh a0 h Q) : i_fellMap.call #[a0] h Q := by
  refine callsH_of (args := [a0]) Try.func61 rfl rfl ?_
  unfold i_fellMap.sh at H
  refine WPc_seq' ?_
  refine W_region (by kernel_rfl) ?_
  refine vl_n ?_
  refine H_alloc TV_25 H fun t2 h H => ?_
  refine vl_e ?_
  refine WPc_seq' ?_
  refine W_region (by kernel_rfl) ?_
  refine vl_n ?_
  refine H_of_R (R_move (v := a0) rfl ?_)
  refine vl_n ?_
  refine H_call HB_117 H fun t7 h H => ?_
  refine vl_n ?_
  refine H_of_R (R_move (v := t7) rfl ?_)
  refine vl_n ?_
  refine H_of_R (R_ext H fun t8 H => ?_)
  refine vl_n ?_
  refine H_of_R (R_ext H fun t9 H => ?_)
  refine vl_n ?_
  refine H_alloc TV_175 H fun t3 h H => ?_
  refine vl_n ?_
  refine H_storeN TS_175 H fun h H => ?_
  refine vl_n ?_
  refine H_of_R (R_assign (v := t9) rfl ?_)
  refine vl_e ?_
  refine WPc_seq (fun e h => i_fellMap.j1 (e 2) (e 3) h Q) ?_ (fun e h H => ?_)
  rotate_left
  · unfold i_fellMap.j1 at H
    refine WPc_seq' ?_
    refine W_region (by kernel_rfl) ?_
    refine vl_n ?_
    refine H_of_R (R_loadN TN_175 H fun _ t13 _ _ H _ _ => ?_)
    refine vl_n ?_
    refine H_call HB_118 H fun t14 h H => ?_
    refine vl_n ?_
    refine H_storeN TS_25 H fun h H => ?_
    refine vl_e ?_
    refine WPc_ret ?_
    refine resH_of rfl ?_
    refine resL_N TN_25 ?_
    refine loadN_imp H fun r2 H => ?_
    exact H
  refine WPc_seq' ?_
  refine W_region (by kernel_rfl) ?_
  refine vl_n ?_
  refine H_of_R (R_move (v := t9) rfl ?_)
  refine vl_n ?_
  refine H_of_R (R_not H fun t11 H => ?_)
  refine vl_e ?_
  obtain ⟨b, hc, H1, H2⟩ := H
  refine WPc_cond hc (fun hh => ?_) (fun hh => ?_)
  · have H := H1 hh; clear H1 H2
    refine WPc_seq' ?_
    refine W_region (by kernel_rfl) ?_
    refine vl_n ?_
    refine H_of_R (R_build TB_25 rfl (by decide) H fun t12 H => ?_)
    refine vl_n ?_
    refine H_storeN TS_25 H fun h H => ?_
    refine vl_e ?_
    refine WPc_ret ?_
    refine resH_of rfl ?_
    refine resL_N TN_25 ?_
    refine loadN_imp H fun r2 H => ?_
    exact H
  · have H := H2 hh; clear H1 H2
    refine WPc_skip ?_
    exact H
/-! ### impl.DSet -/
def i_DSet.sh (a0 : Value) (a1 : Value) (a2 : Value) (h : Heap) (Q : Value → Heap → Prop) : Prop :=
    box 25 a1 h fun t4 h =>
    box 27 a2 h fun t5 h =>
    alloc [(.int .i64 0), (.int .i64 0), (.bool false)] 32 h fun t6 h =>
    alloc [(.slice none 0 0), (.slice none 0 0), (.int .i64 0)] 25 h fun t7 h =>
    loadN 3 t4 h fun t12 =>
    i_standMap.call #[a0, t12] h fun t13 h =>
    fld 0 t5 fun t16 =>
    load1 t16 h fun t17 =>
    fld 1 t5 fun t18 =>
    load1 t18 h fun t19 =>
    Map_ii_Set.call #[t13, t17, t19] h fun t20 h =>
    extr 0 t20 fun t21 =>
    extr 1 t20 fun t22 =>
    fld 0 t5 fun t23 =>
    load1 t23 h fun t24 =>
    i_pair.call #[t24, t21, t22] h fun t27 h =>
    i_fellMap.call #[t13] h fun t29 h =>
    storeN 3 t6 t27 h fun h =>
    storeN 3 t7 t29 h fun h =>
    loadN 3 t6 h fun r6 =>
    loadN 3 t7 h fun r7 =>
    Q (.tuple #[r6, r7]) h
theorem i_DSet.body (a0 : Value) (a1 : Value) (a2 : Value) (h : Heap) (Q : Value → Heap → Prop) (H : i_DSet.sh a0 a1 a2 h Q) : i_DSet.call #[a0, a1, a2] h Q := by
  refine callsH_of (args := [a0, a1, a2]) Try.func15 rfl rfl ?_
  unfold i_DSet.sh at H
  refine WPc_seq' ?_
  refine W_region (by kernel_rfl) ?_
  refine vl_n ?_
  refine H_box H fun t4 h H => ?_
  refine vl_n ?_
  refine H_box H fun t5 h H => ?_
  refine vl_n ?_
  refine H_alloc TV_32 H fun t6 h H => ?_
  refine vl_n ?_
  refine H_alloc TV_25 H fun t7 h H => ?_
  refine vl_e ?_
  refine WPc_seq' ?_
  refine W_region (by kernel_rfl) ?_
  refine vl_n ?_
  refine H_of_R (R_move (v := a0) rfl ?_)
  refine vl_n ?_
  refine H_of_R (R_loadN TN_25 H fun _ t12 _ _ H _ _ => ?_)
  refine vl_n ?_
  refine H_call HB_58 H fun t13 h H => ?_
  refine vl_n ?_
  refine H_of_R (R_assign (v := t13) rfl ?_)
  refine vl_e ?_
  refine WPc_seq' ?_
  refine W_region (by kernel_rfl) ?_
  refine vl_n ?_
  refine H_of_R (R_move (v := t13) rfl ?_)
  refine vl_n ?_
  refine H_of_R (R_fld TF_27_0 H fun t16 H => ?_)
  refine vl_n ?_
  refine H_of_R (R_load1 T1_3 H fun _ t17 _ _ H => ?_)
  refine vl_n ?_
  refine H_of_R (R_fld TF_27_1 H fun t18 H => ?_)
  refine vl_n ?_
  refine H_of_R (R_load1 T1_3 H fun _ t19 _ _ H => ?_)
  refine vl_n ?_
  refine H_call HB_59 H fun t20 h H => ?_
  refine vl_n ?_
  refine H_of_R (R_move (v := t20) rfl ?_)
  refine vl_n ?_
  refine H_of_R (R_ext H fun t21 H => ?_)
  refine vl_n ?_
  refine H_of_R (R_ext H fun t22 H => ?_)
  refine vl_n ?_
  refine H_of_R (R_assign (v := t21) rfl ?_)
  refine vl_n ?_
  refine H_of_R (R_assign (v := t22) rfl ?_)
  refine vl_e ?_
  refine WPc_seq' ?_
  refine W_region (by kernel_rfl) ?_
  refine vl_n ?_
  refine H_of_R (R_fld TF_27_0 H fun t23 H => ?_)
  refine vl_n ?_
  refine H_of_R (R_load1 T1_3 H fun _ t24 _ _ H => ?_)
  refine vl_n ?_
  refine H_of_R (R_move (v := t21) rfl ?_)
  refine vl_n ?_
  refine H_of_R (R_move (v := t22) rfl ?_)
  refine vl_n ?_
  refine H_call HB_60 H fun t27 h H => ?_
  refine vl_n ?_
  refine H_of_R (R_move (v := t13) rfl ?_)
  refine vl_n ?_
  refine H_call HB_61 H fun t29 h H => ?_
  refine vl_n ?_
  refine H_storeN TS_32 H fun h H => ?_
  refine vl_n ?_
  refine H_storeN TS_25 H fun h H => ?_
  refine vl_e ?_
  refine WPc_ret ?_
  refine resH_of rfl ?_
  refine resL_N TN_32 ?_
  refine loadN_imp H fun r6 H => ?_
  refine resL_N TN_25 ?_
  refine loadN_imp H fun r7 H => ?_
  exact H

end Go.Proofs.Ytlihjljdndbpdaa
