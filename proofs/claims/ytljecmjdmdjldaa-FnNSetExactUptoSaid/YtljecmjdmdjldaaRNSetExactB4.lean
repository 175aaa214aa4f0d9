/-
  Texts of this claim, laid together: S19 S35 S36.
  Conditions: as each of them tells.
-/
import Derived.Test.YtljecmjdmdjldaaRNSetExactB3
set_option linter.unusedVariables false
set_option linter.unusedSimpArgs false
open List (set_cons_zero set_cons_succ eraseIdx_cons_zero eraseIdx_cons_succ cons_append nil_append map_append map_cons map_flatMap map_nil flatMap_cons flatMap_append flatMap_nil append_nil append_assoc length_cons length_nil length_append take_succ_cons drop_succ_cons take_zero drop_zero take_nil drop_nil size_toArray length_map)
section
namespace Go.Proofs.Ytljecmjdmdjldaa
open Go.Hp
set_option maxRecDepth 100000
set_option maxHeartbeats 8000000
/-! ### spec.WithCounts -/
def s_WithCounts.j1 (s2 s3 : Value) (h : Heap) (Q : Value → Heap → Prop) : Prop := loadN 3 s3 h fun t29 => storeN 3 s2 t29 h fun h => loadN 3 s2 h fun r2 => Q r2 h
def s_WithCounts.j4 (s2 s3 s15 s16 s17 : Value) (h : Heap) (K1 : List Value → Heap → Prop) (Q : Value → Heap → Prop) : Prop := arith (· + ·) s17 (.int .i64 1) fun t28 => K1 [t28] h
def s_WithCounts.j3 (s2 s3 s15 s16 s17 : Value) (h : Heap) (K1 : List Value → Heap → Prop) (Q : Value → Heap → Prop) : Prop := idx 3 s15 s17 fun t19 => loadN 3 t19 h fun t20 => alloc [(.slice none 0 0), (.slice none 0 0), (.int .i64 0)] 37 h fun t5 h => storeN 3 t5 t20 h fun h => fld 1 s3 fun t21 => load1 t21 h fun t22 => loadN 3 t5 h fun t23 => s_WithCounts.call #[t23] h fun t24 h => still1 t21 t22 h ∧ mkSl (if 1 * 3 = 0 then [] else zeros [(.slice none 0 0), (.slice none 0 0), (.int .i64 0)] 1) 1 [(0 * 3, 3, t24)] 37 h fun t25 h => still1 t21 t22 h ∧ app 37 3 56 [(.slice none 0 0), (.slice none 0 0), (.int .i64 0)] t22 t25 h fun t26 h => fld 1 s3 fun t27 => store1 t27 t26 h fun h => s_WithCounts.j4 s2 s3 s15 s16 s17 h K1 Q
def s_WithCounts.l2.b (c2 c3 c15 c16 s17 : Value) (h : Heap) (K1 : List Value → Heap → Prop) (Q : Value → Heap → Prop) : Prop := cmpI (fun a b => decide (a < b)) s17 c16 fun t18 => ifV t18 (s_WithCounts.j3 c2 c3 c15 c16 s17 h K1 Q) (s_WithCounts.j1 c2 c3 h Q)
def s_WithCounts.j5 (s2 s3 : Value) (h : Heap) (Q : Value → Heap → Prop) : Prop := loadN 3 s3 h fun t29 => storeN 3 s2 t29 h fun h => loadN 3 s2 h fun r2 => Q r2 h
def s_WithCounts.j8 (s2 s3 s15 s16 s17 : Value) (h : Heap) (K1 : List Value → Heap → Prop) (Q : Value → Heap → Prop) : Prop := arith (· + ·) s17 (.int .i64 1) fun t28 => K1 [t28] h
def s_WithCounts.j7 (s2 s3 s15 s16 s17 : Value) (h : Heap) (K1 : List Value → Heap → Prop) (Q : Value → Heap → Prop) : Prop := idx 3 s15 s17 fun t19 => loadN 3 t19 h fun t20 => alloc [(.slice none 0 0), (.slice none 0 0), (.int .i64 0)] 37 h fun t5 h => storeN 3 t5 t20 h fun h => fld 1 s3 fun t21 => load1 t21 h fun t22 => loadN 3 t5 h fun t23 => s_WithCounts.call #[t23] h fun t24 h => still1 t21 t22 h ∧ mkSl (if 1 * 3 = 0 then [] else zeros [(.slice none 0 0), (.slice none 0 0), (.int .i64 0)] 1) 1 [(0 * 3, 3, t24)] 37 h fun t25 h => still1 t21 t22 h ∧ app 37 3 56 [(.slice none 0 0), (.slice none 0 0), (.int .i64 0)] t22 t25 h fun t26 h => fld 1 s3 fun t27 => store1 t27 t26 h fun h => s_WithCounts.j8 s2 s3 s15 s16 s17 h K1 Q
def s_WithCounts.l6.b (c2 c3 c15 c16 s17 : Value) (h : Heap) (K1 : List Value → Heap → Prop) (Q : Value → Heap → Prop) : Prop := cmpI (fun a b => decide (a < b)) s17 c16 fun t18 => ifV t18 (s_WithCounts.j7 c2 c3 c15 c16 s17 h K1 Q) (s_WithCounts.j5 c2 c3 h Q)
def s_WithCounts.j9 (s2 s3 : Value) (h : Heap) (Q : Value → Heap → Prop) : Prop := loadN 3 s3 h fun t29 => storeN 3 s2 t29 h fun h => loadN 3 s2 h fun r2 => Q r2 h
def s_WithCounts.j12 (s2 s3 s15 s16 s17 : Value) (h : Heap) (K1 : List Value → Heap → Prop) (Q : Value → Heap → Prop) : Prop := arith (· + ·) s17 (.int .i64 1) fun t28 => K1 [t28] h
def s_WithCounts.j11 (s2 s3 s15 s16 s17 : Value) (h : Heap) (K1 : List Value → Heap → Prop) (Q : Value → Heap → Prop) : Prop := idx 3 s15 s17 fun t19 => loadN 3 t19 h fun t20 => alloc [(.slice none 0 0), (.slice none 0 0), (.int .i64 0)] 37 h fun t5 h => storeN 3 t5 t20 h fun h => fld 1 s3 fun t21 => load1 t21 h fun t22 => loadN 3 t5 h fun t23 => s_WithCounts.call #[t23] h fun t24 h => still1 t21 t22 h ∧ mkSl (if 1 * 3 = 0 then [] else zeros [(.slice none 0 0), (.slice none 0 0), (.int .i64 0)] 1) 1 [(0 * 3, 3, t24)] 37 h fun t25 h => still1 t21 t22 h ∧ app 37 3 56 [(.slice none 0 0), (.slice none 0 0), (.int .i64 0)] t22 t25 h fun t26 h => fld 1 s3 fun t27 => store1 t27 t26 h fun h => s_WithCounts.j12 s2 s3 s15 s16 s17 h K1 Q
def s_WithCounts.l10.b (c2 c3 c15 c16 s17 : Value) (h : Heap) (K1 : List Value → Heap → Prop) (Q : Value → Heap → Prop) : Prop := cmpI (fun a b => decide (a < b)) s17 c16 fun t18 => ifV t18 (s_WithCounts.j11 c2 c3 c15 c16 s17 h K1 Q) (s_WithCounts.j9 c2 c3 h Q)
def s_WithCounts.j13 (s2 s3 : Value) (h : Heap) (Q : Value → Heap → Prop) : Prop := loadN 3 s3 h fun t29 => storeN 3 s2 t29 h fun h => loadN 3 s2 h fun r2 => Q r2 h
def s_WithCounts.j16 (s2 s3 s15 s16 s17 : Value) (h : Heap) (K1 : List Value → Heap → Prop) (Q : Value → Heap → Prop) : Prop := arith (· + ·) s17 (.int .i64 1) fun t28 => K1 [t28] h
def s_WithCounts.j15 (s2 s3 s15 s16 s17 : Value) (h : Heap) (K1 : List Value → Heap → Prop) (Q : Value → Heap → Prop) : Prop := idx 3 s15 s17 fun t19 => loadN 3 t19 h fun t20 => alloc [(.slice none 0 0), (.slice none 0 0), (.int .i64 0)] 37 h fun t5 h => storeN 3 t5 t20 h fun h => fld 1 s3 fun t21 => load1 t21 h fun t22 => loadN 3 t5 h fun t23 => s_WithCounts.call #[t23] h fun t24 h => still1 t21 t22 h ∧ mkSl (if 1 * 3 = 0 then [] else zeros [(.slice none 0 0), (.slice none 0 0), (.int .i64 0)] 1) 1 [(0 * 3, 3, t24)] 37 h fun t25 h => still1 t21 t22 h ∧ app 37 3 56 [(.slice none 0 0), (.slice none 0 0), (.int .i64 0)] t22 t25 h fun t26 h => fld 1 s3 fun t27 => store1 t27 t26 h fun h => s_WithCounts.j16 s2 s3 s15 s16 s17 h K1 Q
def s_WithCounts.l14.b (c2 c3 c15 c16 s17 : Value) (h : Heap) (K1 : List Value → Heap → Prop) (Q : Value → Heap → Prop) : Prop := cmpI (fun a b => decide (a < b)) s17 c16 fun t18 => ifV t18 (s_WithCounts.j15 c2 c3 c15 c16 s17 h K1 Q) (s_WithCounts.j13 c2 c3 h Q)
def s_WithCounts.sh (a0 : Value) (h : Heap) (Q : Value → Heap → Prop) : Prop := box 37 a0 h fun t1 h => alloc [(.slice none 0 0), (.slice none 0 0), (.int .i64 0)] 37 h fun t2 h => fld 0 t1 fun t7 => load1 t7 h fun t8 => loadN 3 t1 h fun t10 => (mkSl (if 0 * 2 = 0 then [] else zeros [(.int .i64 0), (.int .i64 0)] 0) 0 [] 27 h fun t6 h => still1 t7 t8 h ∧ stillN 3 t1 t10 h ∧ (app 27 2 16 [(.int .i64 0), (.int .i64 0)] t6 t8 h fun t9 h => stillN 3 t1 t10 h ∧ (s_NodeItems.call #[t10] h fun t11 h => lenV t11 fun t12 => buildV [(.slice none 0 0), (.slice none 0 0), (.int .i64 0)] [(0, 1, t9), (2, 1, t12)] fun t13 => alloc [(.slice none 0 0), (.slice none 0 0), (.int .i64 0)] 37 h fun t3 h => storeN 3 t3 t13 h fun h => fld 1 t1 fun t14 => load1 t14 h fun t15 => lenV t15 fun t16 => loopC (fun c s h K1 => s_WithCounts.l2.b (c.getD 0 undef) (c.getD 1 undef) (c.getD 2 undef) (c.getD 3 undef) (s.getD 0 undef) h K1 Q) [t2, t3, t15, t16] [(.int .i64 0)] h) ∧ (alloc [(.slice none 0 0), (.slice none 0 0), (.int .i64 0)] 37 h fun t3_2 h => stillN 3 t1 t10 h ∧ s_NodeItems.call #[t10] h fun t11_2 h => lenV t11_2 fun t12_2 => buildV [(.slice none 0 0), (.slice none 0 0), (.int .i64 0)] [(0, 1, t9), (2, 1, t12_2)] fun t13_2 => storeN 3 t3_2 t13_2 h fun h => fld 1 t1 fun t14_2 => load1 t14_2 h fun t15_2 => lenV t15_2 fun t16_2 => loopC (fun c s h K1 => s_WithCounts.l6.b (c.getD 0 undef) (c.getD 1 undef) (c.getD 2 undef) (c.getD 3 undef) (s.getD 0 undef) h K1 Q) [t2, t3_2, t15_2, t16_2] [(.int .i64 0)] h)) ∧ (alloc [(.slice none 0 0), (.slice none 0 0), (.int .i64 0)] 37 h fun t3_3 h => still1 t7 t8 h ∧ stillN 3 t1 t10 h ∧ app 27 2 16 [(.int .i64 0), (.int .i64 0)] t6 t8 h fun t9_2 h => stillN 3 t1 t10 h ∧ s_NodeItems.call #[t10] h fun t11_3 h => lenV t11_3 fun t12_3 => buildV [(.slice none 0 0), (.slice none 0 0), (.int .i64 0)] [(0, 1, t9_2), (2, 1, t12_3)] fun t13_3 => storeN 3 t3_3 t13_3 h fun h => fld 1 t1 fun t14_3 => load1 t14_3 h fun t15_3 => lenV t15_3 fun t16_3 => loopC (fun c s h K1 => s_WithCounts.l10.b (c.getD 0 undef) (c.getD 1 undef) (c.getD 2 undef) (c.getD 3 undef) (s.getD 0 undef) h K1 Q) [t2, t3_3, t15_3, t16_3] [(.int .i64 0)] h)) ∧ (alloc [(.slice none 0 0), (.slice none 0 0), (.int .i64 0)] 37 h fun t3_4 h => still1 t7 t8 h ∧ stillN 3 t1 t10 h ∧ mkSl (if 0 * 2 = 0 then [] else zeros [(.int .i64 0), (.int .i64 0)] 0) 0 [] 27 h fun t6_2 h => still1 t7 t8 h ∧ stillN 3 t1 t10 h ∧ app 27 2 16 [(.int .i64 0), (.int .i64 0)] t6_2 t8 h fun t9_3 h => stillN 3 t1 t10 h ∧ s_NodeItems.call #[t10] h fun t11_4 h => lenV t11_4 fun t12_4 => buildV [(.slice none 0 0), (.slice none 0 0), (.int .i64 0)] [(0, 1, t9_3), (2, 1, t12_4)] fun t13_4 => storeN 3 t3_4 t13_4 h fun h => fld 1 t1 fun t14_4 => load1 t14_4 h fun t15_4 => lenV t15_4 fun t16_4 => loopC (fun c s h K1 => s_WithCounts.l14.b (c.getD 0 undef) (c.getD 1 undef) (c.getD 2 undef) (c.getD 3 undef) (s.getD 0 undef) h K1 Q) [t2, t3_4, t15_4, t16_4] [(.int .i64 0)] h)
theorem s_WithCounts.body (a0 : Value) (h : Heap) (Q : Value → Heap → Prop) (H : s_WithCounts.sh a0 h Q) : s_WithCounts.call #[a0] h Q := by
  refine callsH_of (args := [a0]) Try.func68 rfl rfl ?_; unfold s_WithCounts.sh at H; refine WPc_seq' ?_; refine W_region (by kernel_rfl) ?_; refine vl_n ?_; refine H_box H fun t1 h H => ?_; refine vl_n ?_; refine H_alloc TV_37 H fun t2 h H => ?_; refine vl_e ?_; refine WPc_seq' ?_; refine W_drawn [0, 0, 2, 7, 0, 31, 63, 127, 0, 511] (.take 1 (.take 2 (.take 4 (.alt 0 (.alt 3 (.alt 5 (.take 6 (.take 7 (.alt 8 (.alt 9 .done .none) .none))) (.alt 8 (.alt 5 (.take 6 (.take 7 (.alt 9 .done .none))) .none) .none)) (.alt 8 (.alt 3 (.alt 5 (.take 6 (.take 7 (.alt 9 .done .none))) .none) .none) .none)) (.alt 8 (.alt 0 (.alt 3 (.alt 5 (.take 6 (.take 7 (.alt 9 .done .none))) .none) .none) .none) .none))))) mixed (by kernel_rfl) ?_; refine tkP rfl ?_; refine R_fld TF_37_0 H fun t7 H => ⟨fun _ => trivial, ?_⟩
  refine tkL rfl ?_; refine R_load1 T1_25 H fun at8 t8 hat8 _ H => ?_; refine tkL rfl ?_; refine R_loadN TN_37 H fun at10 xt10 hat10 _ H St10 hSt10 => ?_; obtain ⟨HA0, HA1⟩ := H; refine alt_n rfl ?_ ?_
  · have H := HA0; clear HA0 HA1
    refine H_mkSl TZ_25 (by decide) rfl H rfl fun t6 h ⟨S, S_2, H⟩ => ⟨(hcons rfl (hSt10 _ (still_N S_2 hat10 rfl)) (hcons rfl (still_1 S hat8) hnil)), ?_⟩
    obtain ⟨HA0, HA1⟩ := H; refine alt_n rfl ?_ ?_
    · have H := HA0; clear HA0 HA1
      refine H_app TZ_25 TU_25 H fun t9 h ⟨S_3, H⟩ => ⟨(hcons rfl (hSt10 _ (still_N S_3 hat10 rfl)) (hskip rfl hnil)), ?_⟩
      obtain ⟨HA0, HA1⟩ := H; refine alt_n rfl ?_ ?_
      · have H := HA0; clear HA0 HA1
        refine H_call HB_22 H fun t11 h H => ⟨(hskip rfl hnil), ?_⟩
        refine tkP rfl ?_; refine R_len Try.underlying25 H fun t12 H => ⟨fun _ => trivial, ?_⟩
        refine tkP rfl ?_; refine R_build TB_37 rfl (by decide) H fun t13 H => ⟨fun _ => trivial, ?_⟩
        refine alt_n rfl ?_ vp_none
        refine H_alloc TV_37 H fun t3 h H => ⟨hnil, ?_⟩
        refine alt_n rfl ?_ vp_none
        refine H_storeN TS_37 H fun h H => ⟨hnil, ?_⟩
        refine vp_done ?_; refine WPc_seq (fun e h => s_WithCounts.j1 (e 2) (e 3) h Q) ?_ (fun e h H => ?_)
        rotate_left
        · unfold s_WithCounts.j1 at H
          refine WPc_seq' ?_; refine W_region (by kernel_rfl) ?_; refine vl_n ?_; refine H_of_R (R_loadN TN_37 H fun _ t29 _ _ H _ _ => ?_)
          refine vl_n ?_; refine H_storeN TS_37 H fun h H => ?_; refine vl_e ?_; refine WPc_ret ?_; refine resH_of rfl ?_; refine resL_N TN_37 ?_; refine loadN_imp H fun r2 H => ?_; exact H
        refine WPc_seq' ?_; refine W_region (by kernel_rfl) ?_; refine vl_n ?_; refine H_of_R (R_fld TF_37_1 H fun t14 H => ?_)
        refine vl_n ?_; refine H_of_R (R_load1 T1_35 H fun _ t15 _ _ H => ?_)
        refine vl_n ?_; refine H_of_R (R_len Try.underlying35 H fun t16 H => ?_)
        refine vl_n ?_; refine H_of_R (R_move (v := (.int .i64 0)) rfl ?_)
        refine vl_e ?_; refine WPc_block ?_; refine loop_at (fun e => [e 17]) (fun e => [e 2, e 3, e 15, e 16]) H rfl rfl ?_; intro K1 e1 h H hin1
        replace H : s_WithCounts.l2.b (e1 2) (e1 3) (e1 15) (e1 16) (e1 17) h K1 Q := H
        unfold s_WithCounts.l2.b at H; clear hin1; refine WPc_seq' ?_; refine W_region (by kernel_rfl) ?_; refine vl_n ?_; refine H_of_R (R_lss H fun t18 H => ?_)
        refine vl_e ?_; refine WPc_seq (fun e h => s_WithCounts.j3 (e 2) (e 3) (e 15) (e 16) (e 17) h K1 Q ∧ [e1 2, e1 3, e1 15, e1 16] = [e 2, e 3, e 15, e 16]) ?_ (fun e h ⟨H, hq1⟩ => ?_)
        rotate_left
        · unfold s_WithCounts.j3 at H
          refine WPc_seq (fun e h => s_WithCounts.j4 (e 2) (e 3) (e 15) (e 16) (e 17) h K1 Q ∧ [e1 2, e1 3, e1 15, e1 16] = [e 2, e 3, e 15, e 16]) ?_ (fun e h ⟨H, hq1⟩ => ?_)
          rotate_left
          · unfold s_WithCounts.j4 at H
            refine W_region (by kernel_rfl) ?_; refine vl_n ?_; refine H_of_R (R_add H fun t28 H => ?_)
            refine vl_n ?_; refine H_of_R (R_move (v := t28) rfl ?_)
            refine vl_e ?_; exact ⟨H, hq1⟩
          refine WPc_block ?_; refine WPc_seq' ?_; refine W_region (by kernel_rfl) ?_; refine vl_n ?_; refine H_of_R (R_idx TE_35 H fun t19 H => ?_)
          refine vl_n ?_; refine H_of_R (R_loadN TN_37 H fun _ t20 _ _ H _ _ => ?_)
          refine vl_n ?_; refine H_alloc TV_37 H fun t5 h H => ?_; refine vl_n ?_; refine H_storeN TS_37 H fun h H => ?_; refine vl_e ?_; refine W_drawn [0, 1, 0, 4, 12, 31, 63, 127] (.take 0 (.take 1 (.take 2 (.alt 3 (.alt 4 (.alt 5 (.take 6 (.alt 7 .done .none)) .none) .none) .none)))) mixed (by kernel_rfl) ?_; refine tkP rfl ?_; refine R_fld TF_37_1 H fun t21 H => ⟨fun _ => trivial, ?_⟩
          refine tkL rfl ?_; refine R_load1 T1_35 H fun at22 t22 hat22 _ H => ?_; refine tkL rfl ?_; refine R_loadN TN_37 H fun at23 xt23 hat23 _ H St23 hSt23 => ?_; refine alt_n rfl ?_ vp_none
          refine H_call HB_68 H fun t24 h ⟨S, H⟩ => ⟨(hskip rfl (hcons rfl (still_1 S hat22) hnil)), ?_⟩
          refine alt_n rfl ?_ vp_none
          refine H_mkSl TZ_35 (by decide) rfl H rfl fun t25 h ⟨S_2, H⟩ => ⟨(hcons rfl (still_1 S_2 hat22) hnil), ?_⟩
          refine alt_n rfl ?_ vp_none
          refine H_app TZ_35 TU_35 H fun t26 h H => ⟨(hskip rfl hnil), ?_⟩
          refine tkP rfl ?_; refine R_fld TF_37_1 H fun t27 H => ⟨fun _ => trivial, ?_⟩
          refine alt_n rfl ?_ vp_none
          refine H_store1 TS_35 H fun h H => ⟨hnil, ?_⟩
          refine vp_done ?_; exact ⟨H, hq1⟩
        obtain ⟨b, hc, H1, H2⟩ := H; refine WPc_cond hc (fun hh => ?_) (fun hh => ?_)
        · have H := H1 hh; clear H1 H2
          refine WPc_skip ?_; exact ⟨H, rfl⟩
        · have H := H2 hh; clear H1 H2
          refine WPc_exit ?_; exact H
      refine alt_n rfl ?_ vp_none
      have H := HA1; clear HA0 HA1
      refine H_alloc TV_37 H fun t3_2 h ⟨S_4, H⟩ => ⟨(hcons rfl (hSt10 _ (still_N S_4 hat10 rfl)) hnil), ?_⟩
      refine alt_n rfl ?_ vp_none
      refine H_call HB_22 H fun t11_2 h H => ⟨(hskip rfl hnil), ?_⟩
      refine tkP rfl ?_; refine R_len Try.underlying25 H fun t12_2 H => ⟨fun _ => trivial, ?_⟩
      refine tkP rfl ?_; refine R_build TB_37 rfl (by decide) H fun t13_2 H => ⟨fun _ => trivial, ?_⟩
      refine alt_n rfl ?_ vp_none
      refine H_storeN TS_37 H fun h H => ⟨hnil, ?_⟩
      refine vp_done ?_; refine WPc_seq (fun e h => s_WithCounts.j5 (e 2) (e 3) h Q) ?_ (fun e h H => ?_)
      rotate_left
      · unfold s_WithCounts.j5 at H
        refine WPc_seq' ?_; refine W_region (by kernel_rfl) ?_; refine vl_n ?_; refine H_of_R (R_loadN TN_37 H fun _ t29 _ _ H _ _ => ?_)
        refine vl_n ?_; refine H_storeN TS_37 H fun h H => ?_; refine vl_e ?_; refine WPc_ret ?_; refine resH_of rfl ?_; refine resL_N TN_37 ?_; refine loadN_imp H fun r2 H => ?_; exact H
      refine WPc_seq' ?_; refine W_region (by kernel_rfl) ?_; refine vl_n ?_; refine H_of_R (R_fld TF_37_1 H fun t14_2 H => ?_)
      refine vl_n ?_; refine H_of_R (R_load1 T1_35 H fun _ t15_2 _ _ H => ?_)
      refine vl_n ?_; refine H_of_R (R_len Try.underlying35 H fun t16_2 H => ?_)
      refine vl_n ?_; refine H_of_R (R_move (v := (.int .i64 0)) rfl ?_)
      refine vl_e ?_; refine WPc_block ?_; refine loop_at (fun e => [e 17]) (fun e => [e 2, e 3, e 15, e 16]) H rfl rfl ?_; intro K1 e1 h H hin1
      replace H : s_WithCounts.l6.b (e1 2) (e1 3) (e1 15) (e1 16) (e1 17) h K1 Q := H
      unfold s_WithCounts.l6.b at H; clear hin1; refine WPc_seq' ?_; refine W_region (by kernel_rfl) ?_; refine vl_n ?_; refine H_of_R (R_lss H fun t18 H => ?_)
      refine vl_e ?_; refine WPc_seq (fun e h => s_WithCounts.j7 (e 2) (e 3) (e 15) (e 16) (e 17) h K1 Q ∧ [e1 2, e1 3, e1 15, e1 16] = [e 2, e 3, e 15, e 16]) ?_ (fun e h ⟨H, hq1⟩ => ?_)
      rotate_left
      · unfold s_WithCounts.j7 at H
        refine WPc_seq (fun e h => s_WithCounts.j8 (e 2) (e 3) (e 15) (e 16) (e 17) h K1 Q ∧ [e1 2, e1 3, e1 15, e1 16] = [e 2, e 3, e 15, e 16]) ?_ (fun e h ⟨H, hq1⟩ => ?_)
        rotate_left
        · unfold s_WithCounts.j8 at H
          refine W_region (by kernel_rfl) ?_; refine vl_n ?_; refine H_of_R (R_add H fun t28 H => ?_)
          refine vl_n ?_; refine H_of_R (R_move (v := t28) rfl ?_)
          refine vl_e ?_; exact ⟨H, hq1⟩
        refine WPc_block ?_; refine WPc_seq' ?_; refine W_region (by kernel_rfl) ?_; refine vl_n ?_; refine H_of_R (R_idx TE_35 H fun t19 H => ?_)
        refine vl_n ?_; refine H_of_R (R_loadN TN_37 H fun _ t20 _ _ H _ _ => ?_)
        refine vl_n ?_; refine H_alloc TV_37 H fun t5 h H => ?_; refine vl_n ?_; refine H_storeN TS_37 H fun h H => ?_; refine vl_e ?_; refine W_drawn [0, 1, 0, 4, 12, 31, 63, 127] (.take 0 (.take 1 (.take 2 (.alt 3 (.alt 4 (.alt 5 (.take 6 (.alt 7 .done .none)) .none) .none) .none)))) mixed (by kernel_rfl) ?_; refine tkP rfl ?_; refine R_fld TF_37_1 H fun t21 H => ⟨fun _ => trivial, ?_⟩
        refine tkL rfl ?_; refine R_load1 T1_35 H fun at22 t22 hat22 _ H => ?_; refine tkL rfl ?_; refine R_loadN TN_37 H fun at23 xt23 hat23 _ H St23 hSt23 => ?_; refine alt_n rfl ?_ vp_none
        refine H_call HB_68 H fun t24 h ⟨S, H⟩ => ⟨(hskip rfl (hcons rfl (still_1 S hat22) hnil)), ?_⟩
        refine alt_n rfl ?_ vp_none
        refine H_mkSl TZ_35 (by decide) rfl H rfl fun t25 h ⟨S_2, H⟩ => ⟨(hcons rfl (still_1 S_2 hat22) hnil), ?_⟩
        refine alt_n rfl ?_ vp_none
        refine H_app TZ_35 TU_35 H fun t26 h H => ⟨(hskip rfl hnil), ?_⟩
        refine tkP rfl ?_; refine R_fld TF_37_1 H fun t27 H => ⟨fun _ => trivial, ?_⟩
        refine alt_n rfl ?_ vp_none
        refine H_store1 TS_35 H fun h H => ⟨hnil, ?_⟩
        refine vp_done ?_; exact ⟨H, hq1⟩
      obtain ⟨b, hc, H1, H2⟩ := H; refine WPc_cond hc (fun hh => ?_) (fun hh => ?_)
      · have H := H1 hh; clear H1 H2
        refine WPc_skip ?_; exact ⟨H, rfl⟩
      · have H := H2 hh; clear H1 H2
        refine WPc_exit ?_; exact H
    refine alt_n rfl ?_ vp_none
    have H := HA1; clear HA0 HA1
    refine H_alloc TV_37 H fun t3_3 h ⟨S_5, S_6, H⟩ => ⟨(hcons rfl (hSt10 _ (still_N S_6 hat10 rfl)) (hcons rfl (still_1 S_5 hat8) hnil)), ?_⟩
    refine alt_n rfl ?_ vp_none
    refine H_app TZ_25 TU_25 H fun t9_2 h ⟨S_7, H⟩ => ⟨(hcons rfl (hSt10 _ (still_N S_7 hat10 rfl)) (hskip rfl hnil)), ?_⟩
    refine alt_n rfl ?_ vp_none
    refine H_call HB_22 H fun t11_3 h H => ⟨(hskip rfl hnil), ?_⟩
    refine tkP rfl ?_; refine R_len Try.underlying25 H fun t12_3 H => ⟨fun _ => trivial, ?_⟩
    refine tkP rfl ?_; refine R_build TB_37 rfl (by decide) H fun t13_3 H => ⟨fun _ => trivial, ?_⟩
    refine alt_n rfl ?_ vp_none
    refine H_storeN TS_37 H fun h H => ⟨hnil, ?_⟩
    refine vp_done ?_; refine WPc_seq (fun e h => s_WithCounts.j9 (e 2) (e 3) h Q) ?_ (fun e h H => ?_)
    rotate_left
    · unfold s_WithCounts.j9 at H
      refine WPc_seq' ?_; refine W_region (by kernel_rfl) ?_; refine vl_n ?_; refine H_of_R (R_loadN TN_37 H fun _ t29 _ _ H _ _ => ?_)
      refine vl_n ?_; refine H_storeN TS_37 H fun h H => ?_; refine vl_e ?_; refine WPc_ret ?_; refine resH_of rfl ?_; refine resL_N TN_37 ?_; refine loadN_imp H fun r2 H => ?_; exact H
    refine WPc_seq' ?_; refine W_region (by kernel_rfl) ?_; refine vl_n ?_; refine H_of_R (R_fld TF_37_1 H fun t14_3 H => ?_)
    refine vl_n ?_; refine H_of_R (R_load1 T1_35 H fun _ t15_3 _ _ H => ?_)
    refine vl_n ?_; refine H_of_R (R_len Try.underlying35 H fun t16_3 H => ?_)
    refine vl_n ?_; refine H_of_R (R_move (v := (.int .i64 0)) rfl ?_)
    refine vl_e ?_; refine WPc_block ?_; refine loop_at (fun e => [e 17]) (fun e => [e 2, e 3, e 15, e 16]) H rfl rfl ?_; intro K1 e1 h H hin1
    replace H : s_WithCounts.l10.b (e1 2) (e1 3) (e1 15) (e1 16) (e1 17) h K1 Q := H
    unfold s_WithCounts.l10.b at H; clear hin1; refine WPc_seq' ?_; refine W_region (by kernel_rfl) ?_; refine vl_n ?_; refine H_of_R (R_lss H fun t18 H => ?_)
    refine vl_e ?_; refine WPc_seq (fun e h => s_WithCounts.j11 (e 2) (e 3) (e 15) (e 16) (e 17) h K1 Q ∧ [e1 2, e1 3, e1 15, e1 16] = [e 2, e 3, e 15, e 16]) ?_ (fun e h ⟨H, hq1⟩ => ?_)
    rotate_left
    · unfold s_WithCounts.j11 at H
      refine WPc_seq (fun e h => s_WithCounts.j12 (e 2) (e 3) (e 15) (e 16) (e 17) h K1 Q ∧ [e1 2, e1 3, e1 15, e1 16] = [e 2, e 3, e 15, e 16]) ?_ (fun e h ⟨H, hq1⟩ => ?_)
      rotate_left
      · unfold s_WithCounts.j12 at H
        refine W_region (by kernel_rfl) ?_; refine vl_n ?_; refine H_of_R (R_add H fun t28 H => ?_)
        refine vl_n ?_; refine H_of_R (R_move (v := t28) rfl ?_)
        refine vl_e ?_; exact ⟨H, hq1⟩
      refine WPc_block ?_; refine WPc_seq' ?_; refine W_region (by kernel_rfl) ?_; refine vl_n ?_; refine H_of_R (R_idx TE_35 H fun t19 H => ?_)
      refine vl_n ?_; refine H_of_R (R_loadN TN_37 H fun _ t20 _ _ H _ _ => ?_)
      refine vl_n ?_; refine H_alloc TV_37 H fun t5 h H => ?_; refine vl_n ?_; refine H_storeN TS_37 H fun h H => ?_; refine vl_e ?_; refine W_drawn [0, 1, 0, 4, 12, 31, 63, 127] (.take 0 (.take 1 (.take 2 (.alt 3 (.alt 4 (.alt 5 (.take 6 (.alt 7 .done .none)) .none) .none) .none)))) mixed (by kernel_rfl) ?_; refine tkP rfl ?_; refine R_fld TF_37_1 H fun t21 H => ⟨fun _ => trivial, ?_⟩
      refine tkL rfl ?_; refine R_load1 T1_35 H fun at22 t22 hat22 _ H => ?_; refine tkL rfl ?_; refine R_loadN TN_37 H fun at23 xt23 hat23 _ H St23 hSt23 => ?_; refine alt_n rfl ?_ vp_none
      refine H_call HB_68 H fun t24 h ⟨S, H⟩ => ⟨(hskip rfl (hcons rfl (still_1 S hat22) hnil)), ?_⟩
      refine alt_n rfl ?_ vp_none
      refine H_mkSl TZ_35 (by decide) rfl H rfl fun t25 h ⟨S_2, H⟩ => ⟨(hcons rfl (still_1 S_2 hat22) hnil), ?_⟩
      refine alt_n rfl ?_ vp_none
      refine H_app TZ_35 TU_35 H fun t26 h H => ⟨(hskip rfl hnil), ?_⟩
      refine tkP rfl ?_; refine R_fld TF_37_1 H fun t27 H => ⟨fun _ => trivial, ?_⟩
      refine alt_n rfl ?_ vp_none
      refine H_store1 TS_35 H fun h H => ⟨hnil, ?_⟩
      refine vp_done ?_; exact ⟨H, hq1⟩
    obtain ⟨b, hc, H1, H2⟩ := H; refine WPc_cond hc (fun hh => ?_) (fun hh => ?_)
    · have H := H1 hh; clear H1 H2
      refine WPc_skip ?_; exact ⟨H, rfl⟩
    · have H := H2 hh; clear H1 H2
      refine WPc_exit ?_; exact H
  refine alt_n rfl ?_ vp_none
  have H := HA1; clear HA0 HA1
  refine H_alloc TV_37 H fun t3_4 h ⟨S_8, S_9, H⟩ => ⟨(hcons rfl (hSt10 _ (still_N S_9 hat10 rfl)) (hcons rfl (still_1 S_8 hat8) hnil)), ?_⟩
  refine alt_n rfl ?_ vp_none
  refine H_mkSl TZ_25 (by decide) rfl H rfl fun t6_2 h ⟨S_10, S_11, H⟩ => ⟨(hcons rfl (hSt10 _ (still_N S_11 hat10 rfl)) (hcons rfl (still_1 S_10 hat8) hnil)), ?_⟩
  refine alt_n rfl ?_ vp_none
  refine H_app TZ_25 TU_25 H fun t9_3 h ⟨S_12, H⟩ => ⟨(hcons rfl (hSt10 _ (still_N S_12 hat10 rfl)) (hskip rfl hnil)), ?_⟩
  refine alt_n rfl ?_ vp_none
  refine H_call HB_22 H fun t11_4 h H => ⟨(hskip rfl hnil), ?_⟩
  refine tkP rfl ?_; refine R_len Try.underlying25 H fun t12_4 H => ⟨fun _ => trivial, ?_⟩
  refine tkP rfl ?_; refine R_build TB_37 rfl (by decide) H fun t13_4 H => ⟨fun _ => trivial, ?_⟩
  refine alt_n rfl ?_ vp_none
  refine H_storeN TS_37 H fun h H => ⟨hnil, ?_⟩
  refine vp_done ?_; refine WPc_seq (fun e h => s_WithCounts.j13 (e 2) (e 3) h Q) ?_ (fun e h H => ?_)
  rotate_left
  · unfold s_WithCounts.j13 at H
    refine WPc_seq' ?_; refine W_region (by kernel_rfl) ?_; refine vl_n ?_; refine H_of_R (R_loadN TN_37 H fun _ t29 _ _ H _ _ => ?_)
    refine vl_n ?_; refine H_storeN TS_37 H fun h H => ?_; refine vl_e ?_; refine WPc_ret ?_; refine resH_of rfl ?_; refine resL_N TN_37 ?_; refine loadN_imp H fun r2 H => ?_; exact H
  refine WPc_seq' ?_; refine W_region (by kernel_rfl) ?_; refine vl_n ?_; refine H_of_R (R_fld TF_37_1 H fun t14_4 H => ?_)
  refine vl_n ?_; refine H_of_R (R_load1 T1_35 H fun _ t15_4 _ _ H => ?_)
  refine vl_n ?_; refine H_of_R (R_len Try.underlying35 H fun t16_4 H => ?_)
  refine vl_n ?_; refine H_of_R (R_move (v := (.int .i64 0)) rfl ?_)
  refine vl_e ?_; refine WPc_block ?_; refine loop_at (fun e => [e 17]) (fun e => [e 2, e 3, e 15, e 16]) H rfl rfl ?_; intro K1 e1 h H hin1
  replace H : s_WithCounts.l14.b (e1 2) (e1 3) (e1 15) (e1 16) (e1 17) h K1 Q := H
  unfold s_WithCounts.l14.b at H; clear hin1; refine WPc_seq' ?_; refine W_region (by kernel_rfl) ?_; refine vl_n ?_; refine H_of_R (R_lss H fun t18 H => ?_)
  refine vl_e ?_; refine WPc_seq (fun e h => s_WithCounts.j15 (e 2) (e 3) (e 15) (e 16) (e 17) h K1 Q ∧ [e1 2, e1 3, e1 15, e1 16] = [e 2, e 3, e 15, e 16]) ?_ (fun e h ⟨H, hq1⟩ => ?_)
  rotate_left
  · unfold s_WithCounts.j15 at H
    refine WPc_seq (fun e h => s_WithCounts.j16 (e 2) (e 3) (e 15) (e 16) (e 17) h K1 Q ∧ [e1 2, e1 3, e1 15, e1 16] = [e 2, e 3, e 15, e 16]) ?_ (fun e h ⟨H, hq1⟩ => ?_)
    rotate_left
    · unfold s_WithCounts.j16 at H
      refine W_region (by kernel_rfl) ?_; refine vl_n ?_; refine H_of_R (R_add H fun t28 H => ?_)
      refine vl_n ?_; refine H_of_R (R_move (v := t28) rfl ?_)
      refine vl_e ?_; exact ⟨H, hq1⟩
    refine WPc_block ?_; refine WPc_seq' ?_; refine W_region (by kernel_rfl) ?_; refine vl_n ?_; refine H_of_R (R_idx TE_35 H fun t19 H => ?_)
    refine vl_n ?_; refine H_of_R (R_loadN TN_37 H fun _ t20 _ _ H _ _ => ?_)
    refine vl_n ?_; refine H_alloc TV_37 H fun t5 h H => ?_; refine vl_n ?_; refine H_storeN TS_37 H fun h H => ?_; refine vl_e ?_; refine W_drawn [0, 1, 0, 4, 12, 31, 63, 127] (.take 0 (.take 1 (.take 2 (.alt 3 (.alt 4 (.alt 5 (.take 6 (.alt 7 .done .none)) .none) .none) .none)))) mixed (by kernel_rfl) ?_; refine tkP rfl ?_; refine R_fld TF_37_1 H fun t21 H => ⟨fun _ => trivial, ?_⟩
    refine tkL rfl ?_; refine R_load1 T1_35 H fun at22 t22 hat22 _ H => ?_; refine tkL rfl ?_; refine R_loadN TN_37 H fun at23 xt23 hat23 _ H St23 hSt23 => ?_; refine alt_n rfl ?_ vp_none
    refine H_call HB_68 H fun t24 h ⟨S, H⟩ => ⟨(hskip rfl (hcons rfl (still_1 S hat22) hnil)), ?_⟩
    refine alt_n rfl ?_ vp_none
    refine H_mkSl TZ_35 (by decide) rfl H rfl fun t25 h ⟨S_2, H⟩ => ⟨(hcons rfl (still_1 S_2 hat22) hnil), ?_⟩
    refine alt_n rfl ?_ vp_none
    refine H_app TZ_35 TU_35 H fun t26 h H => ⟨(hskip rfl hnil), ?_⟩
    refine tkP rfl ?_; refine R_fld TF_37_1 H fun t27 H => ⟨fun _ => trivial, ?_⟩
    refine alt_n rfl ?_ vp_none
    refine H_store1 TS_35 H fun h H => ⟨hnil, ?_⟩
    refine vp_done ?_; exact ⟨H, hq1⟩
  obtain ⟨b, hc, H1, H2⟩ := H; refine WPc_cond hc (fun hh => ?_) (fun hh => ?_)
  · have H := H1 hh; clear H1 H2
    refine WPc_skip ?_; exact ⟨H, rfl⟩
  · have H := H2 hh; clear H1 H2
    refine WPc_exit ?_; exact H
end Go.Proofs.Ytljecmjdmdjldaa
end
section
namespace Go.Proofs.Ytljecmjdmdjldaa
open Go.Hp
set_option maxRecDepth 100000
set_option maxHeartbeats 8000000
/-! ### spec.grown -/
def s_grown.j1 (s8 s9 : Value) (h : Heap) (Q : Value → Heap → Prop) : Prop := loadN 3 s9 h fun t32 => storeN 3 s8 t32 h fun h => loadN 3 s8 h fun r8 => Q r8 h
def s_grown.sh (a0 a1 a2 a3 : Value) (h : Heap) (Q : Value → Heap → Prop) : Prop := box 37 a0 h fun t4 h => box 27 a2 h fun t6 h => alloc [(.slice none 0 0), (.slice none 0 0), (.int .i64 0)] 37 h fun t8 h => fld 0 t4 fun t10 => load1 t10 h fun t11 => loadN 2 t6 h fun t13 => s_inserted_I.call #[t11, a1, t13] h fun t14 h => buildV [(.slice none 0 0), (.slice none 0 0), (.int .i64 0)] [(0, 1, t14)] fun t15 => alloc [(.slice none 0 0), (.slice none 0 0), (.int .i64 0)] 37 h fun t9 h => storeN 3 t9 t15 h fun h => lenV a3 fun t17 => cmpI (fun a b => a == b) t17 (.int .i64 2) fun t18 => ifV t18 (fld 1 t4 fun t19 => load1 t19 h fun t20 => idx 3 a3 (.int .i64 1) fun t23 => loadN 3 t23 h fun t24 => idx 3 a3 (.int .i64 0) fun t28 => loadN 3 t28 h fun t29 => s_changed_implNode.call #[t20, a1, t24] h fun t25 h => stillN 3 t28 t29 h ∧ s_inserted_implNode.call #[t25, a1, t29] h fun t30 h => fld 1 t9 fun t31 => store1 t31 t30 h fun h => s_grown.j1 t8 t9 h Q) (s_grown.j1 t8 t9 h Q)
theorem s_grown.body (a0 a1 a2 a3 : Value) (h : Heap) (Q : Value → Heap → Prop) (H : s_grown.sh a0 a1 a2 a3 h Q) : s_grown.call #[a0, a1, a2, a3] h Q := by
  refine callsH_of (args := [a0, a1, a2, a3]) Try.func120 rfl rfl ?_; unfold s_grown.sh at H; refine WPc_seq' ?_; refine W_region (by kernel_rfl) ?_; refine vl_n ?_; refine H_box H fun t4 h H => ?_; refine vl_n ?_; refine H_box H fun t6 h H => ?_; refine vl_n ?_; refine H_alloc TV_37 H fun t8 h H => ?_; refine vl_e ?_; refine WPc_seq' ?_; refine W_region (by kernel_rfl) ?_; refine vl_n ?_; refine H_of_R (R_fld TF_37_0 H fun t10 H => ?_)
  refine vl_n ?_; refine H_of_R (R_load1 T1_25 H fun _ t11 _ _ H => ?_)
  refine vl_n ?_; refine H_of_R (R_move (v := a1) rfl ?_)
  refine vl_n ?_; refine H_of_R (R_loadN TN_27 H fun _ t13 _ _ H _ _ => ?_)
  refine vl_n ?_; refine H_call HB_136 H fun t14 h H => ?_; refine vl_n ?_; refine H_of_R (R_build TB_37 rfl (by decide) H fun t15 H => ?_)
  refine vl_n ?_; refine H_alloc TV_37 H fun t9 h H => ?_; refine vl_n ?_; refine H_storeN TS_37 H fun h H => ?_; refine vl_e ?_; refine WPc_seq (fun e h => s_grown.j1 (e 8) (e 9) h Q) ?_ (fun e h H => ?_)
  rotate_left
  · unfold s_grown.j1 at H
    refine WPc_seq' ?_; refine W_region (by kernel_rfl) ?_; refine vl_n ?_; refine H_of_R (R_loadN TN_37 H fun _ t32 _ _ H _ _ => ?_)
    refine vl_n ?_; refine H_storeN TS_37 H fun h H => ?_; refine vl_e ?_; refine WPc_ret ?_; refine resH_of rfl ?_; refine resL_N TN_37 ?_; refine loadN_imp H fun r8 H => ?_; exact H
  refine WPc_seq' ?_; refine W_region (by kernel_rfl) ?_; refine vl_n ?_; refine H_of_R (R_move (v := a3) rfl ?_)
  refine vl_n ?_; refine H_of_R (R_len Try.underlying35 H fun t17 H => ?_)
  refine vl_n ?_; refine H_of_R (R_eqI H fun t18 H => ?_)
  refine vl_e ?_; obtain ⟨b, hc, H1, H2⟩ := H; refine WPc_cond hc (fun hh => ?_) (fun hh => ?_)
  · have H := H1 hh; clear H1 H2
    refine W_drawn [0, 1, 0, 0, 8, 24, 63, 0, 0, 256, 768, 2047, 4095, 8191] (.take 0 (.take 1 (.take 2 (.take 3 (.take 4 (.take 5 (.take 7 (.take 8 (.take 9 (.take 10 (.alt 6 (.alt 11 (.take 12 (.alt 13 .done .none)) .none) .none))))))))))) mixed (by kernel_rfl) ?_; refine tkP rfl ?_; refine R_fld TF_37_1 H fun t19 H => ⟨fun _ => trivial, ?_⟩
    refine tkL rfl ?_; refine R_load1 T1_35 H fun at20 t20 hat20 _ H => ?_; refine tkP rfl ?_; refine R_move (v := a1) rfl ⟨fun _ => trivial, ?_⟩
    refine tkP rfl ?_; refine R_move (v := a3) rfl ⟨fun _ => trivial, ?_⟩
    refine tkP rfl ?_; refine R_idx TE_35 H fun t23 H => ⟨fun _ => trivial, ?_⟩
    refine tkL rfl ?_; refine R_loadN TN_37 H fun at24 xt24 hat24 _ H St24 hSt24 => ?_; refine tkP rfl ?_; refine R_move (v := a1) rfl ⟨fun _ => trivial, ?_⟩
    refine tkP rfl ?_; refine R_move (v := a3) rfl ⟨fun _ => trivial, ?_⟩
    refine tkP rfl ?_; refine R_idx TE_35 H fun t28 H => ⟨fun _ => trivial, ?_⟩
    refine tkL rfl ?_; refine R_loadN TN_37 H fun at29 xt29 hat29 _ H St29 hSt29 => ?_; refine alt_n rfl ?_ vp_none
    refine H_call HB_119 H fun t25 h ⟨S, H⟩ => ⟨(hcons rfl (hSt29 _ (still_N S hat29 rfl)) (hskip rfl (hskip rfl hnil))), ?_⟩
    refine alt_n rfl ?_ vp_none
    refine H_call HB_137 H fun t30 h H => ⟨(hskip rfl hnil), ?_⟩
    refine tkP rfl ?_; refine R_fld TF_37_1 H fun t31 H => ⟨fun _ => trivial, ?_⟩
    refine alt_n rfl ?_ vp_none
    refine H_store1 TS_35 H fun h H => ⟨hnil, ?_⟩
    refine vp_done ?_; exact H
  · have H := H2 hh; clear H1 H2
    refine WPc_skip ?_; exact H
/-! ### spec.Divide -/
def s_Divide.j1 (s0 s3 s4 s5 s6 s7 s8 : Value) (h : Heap) (Q : Value → Heap → Prop) : Prop := loadN 3 s7 h fun t34 => fld 0 s3 fun t36 => load1 t36 h fun t37 => arith (· - ·) s0 (.int .i64 1) fun t39 => idx 2 t37 t39 fun t40 => loadN 2 t40 h fun t41 => loadN 3 s8 h fun t42 => s_WithCounts.call #[t34] h fun t35 h => still1 t36 t37 h ∧ stillN 2 t40 t41 h ∧ stillN 3 s8 t42 h ∧ s_WithCounts.call #[t42] h fun t43 h => still1 t36 t37 h ∧ stillN 2 t40 t41 h ∧ storeN 3 s4 t35 h fun h => still1 t36 t37 h ∧ stillN 2 t40 t41 h ∧ storeN 2 s5 t41 h fun h => storeN 3 s6 t43 h fun h => loadN 3 s4 h fun r4 => loadN 2 s5 h fun r5 => loadN 3 s6 h fun r6 => Q (.tuple #[r4, r5, r6]) h
def s_Divide.j2 (s0 s3 s4 s5 s6 s7 s8 : Value) (h : Heap) (Q : Value → Heap → Prop) : Prop := loadN 3 s7 h fun t34 => fld 0 s3 fun t36 => load1 t36 h fun t37 => arith (· - ·) s0 (.int .i64 1) fun t39 => idx 2 t37 t39 fun t40 => loadN 2 t40 h fun t41 => loadN 3 s8 h fun t42 => s_WithCounts.call #[t34] h fun t35 h => still1 t36 t37 h ∧ stillN 2 t40 t41 h ∧ stillN 3 s8 t42 h ∧ s_WithCounts.call #[t42] h fun t43 h => still1 t36 t37 h ∧ stillN 2 t40 t41 h ∧ storeN 3 s4 t35 h fun h => still1 t36 t37 h ∧ stillN 2 t40 t41 h ∧ storeN 2 s5 t41 h fun h => storeN 3 s6 t43 h fun h => loadN 3 s4 h fun r4 => loadN 2 s5 h fun r5 => loadN 3 s6 h fun r6 => Q (.tuple #[r4, r5, r6]) h
def s_Divide.sh (a0 a1 : Value) (h : Heap) (Q : Value → Heap → Prop) : Prop := box 37 a1 h fun t3 h => alloc [(.slice none 0 0), (.slice none 0 0), (.int .i64 0)] 37 h fun t4 h => alloc [(.int .i64 0), (.int .i64 0)] 27 h fun t5 h => alloc [(.slice none 0 0), (.slice none 0 0), (.int .i64 0)] 37 h fun t6 h => fld 0 t3 fun t9 => load1 t9 h fun t10 => arith (· - ·) a0 (.int .i64 1) fun t12 => slc 2 t10 none (some t12) none fun t13 => buildV [(.slice none 0 0), (.slice none 0 0), (.int .i64 0)] [(0, 1, t13)] fun t14 => fld 0 t3 fun t15 => load1 t15 h fun t16 => slc 2 t16 (some a0) none none fun t18 => buildV [(.slice none 0 0), (.slice none 0 0), (.int .i64 0)] [(0, 1, t18)] fun t19 => (alloc [(.slice none 0 0), (.slice none 0 0), (.int .i64 0)] 37 h fun t7 h => still1 t9 t10 h ∧ still1 t15 t16 h ∧ alloc [(.slice none 0 0), (.slice none 0 0), (.int .i64 0)] 37 h fun t8 h => still1 t9 t10 h ∧ still1 t15 t16 h ∧ storeN 3 t7 t14 h fun h => still1 t15 t16 h ∧ storeN 3 t8 t19 h fun h => fld 1 t3 fun t20 => load1 t20 h fun t21 => lenV t21 fun t22 => cmpI (fun a b => decide (a > b)) t22 (.int .i64 0) fun t23 => ifV t23 (fld 1 t3 fun t24 => load1 t24 h fun t25 => slc 3 t25 none (some a0) none fun t27 => fld 1 t3 fun t28 => load1 t28 h fun t29 => slc 3 t29 (some a0) none none fun t31 => fld 1 t7 fun t32 => store1 t32 t27 h fun h => still1 t28 t29 h ∧ fld 1 t8 fun t33 => store1 t33 t31 h fun h => s_Divide.j1 a0 t3 t4 t5 t6 t7 t8 h Q) (s_Divide.j1 a0 t3 t4 t5 t6 t7 t8 h Q)) ∧ (alloc [(.slice none 0 0), (.slice none 0 0), (.int .i64 0)] 37 h fun t8_2 h => still1 t9 t10 h ∧ still1 t15 t16 h ∧ alloc [(.slice none 0 0), (.slice none 0 0), (.int .i64 0)] 37 h fun t7_2 h => still1 t9 t10 h ∧ still1 t15 t16 h ∧ storeN 3 t7_2 t14 h fun h => still1 t15 t16 h ∧ storeN 3 t8_2 t19 h fun h => fld 1 t3 fun t20_2 => load1 t20_2 h fun t21_2 => lenV t21_2 fun t22_2 => cmpI (fun a b => decide (a > b)) t22_2 (.int .i64 0) fun t23_2 => ifV t23_2 (fld 1 t3 fun t24_2 => load1 t24_2 h fun t25_2 => slc 3 t25_2 none (some a0) none fun t27_2 => fld 1 t3 fun t28_2 => load1 t28_2 h fun t29_2 => slc 3 t29_2 (some a0) none none fun t31_2 => fld 1 t7_2 fun t32_2 => store1 t32_2 t27_2 h fun h => still1 t28_2 t29_2 h ∧ fld 1 t8_2 fun t33_2 => store1 t33_2 t31_2 h fun h => s_Divide.j2 a0 t3 t4 t5 t6 t7_2 t8_2 h Q) (s_Divide.j2 a0 t3 t4 t5 t6 t7_2 t8_2 h Q))
theorem s_Divide.body (a0 a1 : Value) (h : Heap) (Q : Value → Heap → Prop) (H : s_Divide.sh a0 a1 h Q) : s_Divide.call #[a0, a1] h Q := by
  refine callsH_of (args := [a0, a1]) Try.func121 rfl rfl ?_; unfold s_Divide.sh at H; refine WPc_seq' ?_; refine W_region (by kernel_rfl) ?_; refine vl_n ?_; refine H_box H fun t3 h H => ?_; refine vl_n ?_; refine H_alloc TV_37 H fun t4 h H => ?_; refine vl_n ?_; refine H_alloc TV_27 H fun t5 h H => ?_; refine vl_n ?_; refine H_alloc TV_37 H fun t6 h H => ?_; refine vl_e ?_; refine WPc_seq' ?_; refine W_drawn [0, 1, 0, 4, 15, 31, 0, 64, 0, 448, 960, 0, 0, 6207, 16383] (.take 0 (.take 1 (.take 2 (.take 3 (.take 4 (.take 5 (.take 6 (.take 7 (.take 8 (.take 9 (.take 10 (.alt 11 (.alt 12 (.alt 13 (.alt 14 .done .none) .none) .none) (.alt 12 (.alt 11 (.alt 13 (.alt 14 .done .none) .none) .none) .none))))))))))))) mixed (by kernel_rfl) ?_; refine tkP rfl ?_; refine R_fld TF_37_0 H fun t9 H => ⟨fun _ => trivial, ?_⟩
  refine tkL rfl ?_; refine R_load1 T1_25 H fun at10 t10 hat10 _ H => ?_; refine tkP rfl ?_; refine R_move (v := a0) rfl ⟨fun _ => trivial, ?_⟩
  refine tkP rfl ?_; refine R_sub H fun t12 H => ⟨fun _ => trivial, ?_⟩
  refine tkP rfl ?_; refine R_slice TE_25 (by decide) H fun t13 H => ⟨fun _ => trivial, ?_⟩
  refine tkP rfl ?_; refine R_build TB_37 rfl (by decide) H fun t14 H => ⟨fun _ => trivial, ?_⟩
  refine tkP rfl ?_; refine R_fld TF_37_0 H fun t15 H => ⟨fun _ => trivial, ?_⟩
  refine tkL rfl ?_; refine R_load1 T1_25 H fun at16 t16 hat16 _ H => ?_; refine tkP rfl ?_; refine R_move (v := a0) rfl ⟨fun _ => trivial, ?_⟩
  refine tkP rfl ?_; refine R_slice TE_25 (by decide) H fun t18 H => ⟨fun _ => trivial, ?_⟩
  refine tkP rfl ?_; refine R_build TB_37 rfl (by decide) H fun t19 H => ⟨fun _ => trivial, ?_⟩
  obtain ⟨HA0, HA1⟩ := H; refine alt_n rfl ?_ ?_
  · have H := HA0; clear HA0 HA1
    refine H_alloc TV_37 H fun t7 h ⟨S, S_2, H⟩ => ⟨(hcons rfl (still_1 S_2 hat16) (hcons rfl (still_1 S hat10) hnil)), ?_⟩
    refine alt_n rfl ?_ vp_none
    refine H_alloc TV_37 H fun t8 h ⟨S_3, S_4, H⟩ => ⟨(hcons rfl (still_1 S_4 hat16) (hcons rfl (still_1 S_3 hat10) hnil)), ?_⟩
    refine alt_n rfl ?_ vp_none
    refine H_storeN TS_37 H fun h ⟨S_5, H⟩ => ⟨(hcons rfl (still_1 S_5 hat16) (hskip rfl hnil)), ?_⟩
    refine alt_n rfl ?_ vp_none
    refine H_storeN TS_37 H fun h H => ⟨(hskip rfl hnil), ?_⟩
    refine vp_done ?_; refine WPc_seq (fun e h => s_Divide.j1 (e 0) (e 3) (e 4) (e 5) (e 6) (e 7) (e 8) h Q) ?_ (fun e h H => ?_)
    rotate_left
    · unfold s_Divide.j1 at H
      refine WPc_seq' ?_; refine W_drawn [0, 1, 0, 4, 0, 16, 60, 124, 0, 259, 771, 2047, 4095] (.take 0 (.take 2 (.take 3 (.take 4 (.take 5 (.take 6 (.take 7 (.take 8 (.alt 1 (.alt 9 (.alt 10 (.alt 11 (.alt 12 .done .none) .none) .none) .none) .none))))))))) mixed (by kernel_rfl) ?_; refine tkL rfl ?_; refine R_loadN TN_37 H fun at34 xt34 hat34 _ H St34 hSt34 => ?_; refine tkP rfl ?_; refine R_fld TF_37_0 H fun t36 H => ⟨fun _ => trivial, ?_⟩
      refine tkL rfl ?_; refine R_load1 T1_25 H fun at37 t37 hat37 _ H => ?_; refine tkP rfl ?_; refine R_move (v := (e 0)) rfl ⟨fun _ => trivial, ?_⟩
      refine tkP rfl ?_; refine R_sub H fun t39 H => ⟨fun _ => trivial, ?_⟩
      refine tkP rfl ?_; refine R_idx TE_25 H fun t40 H => ⟨fun _ => trivial, ?_⟩
      refine tkL rfl ?_; refine R_loadN TN_27 H fun at41 xt41 hat41 _ H St41 hSt41 => ?_; refine tkL rfl ?_; refine R_loadN TN_37 H fun at42 xt42 hat42 _ H St42 hSt42 => ?_; refine alt_n rfl ?_ vp_none
      refine H_call HB_68 H fun t35 h ⟨S, S_2, S_3, H⟩ => ⟨(hcons rfl (hSt42 _ (still_N S_3 hat42 rfl)) (hcons rfl (hSt41 _ (still_N S_2 hat41 rfl)) (hcons rfl (still_1 S hat37) (hskip rfl hnil)))), ?_⟩
      refine alt_n rfl ?_ vp_none
      refine H_call HB_68 H fun t43 h ⟨S_4, S_5, H⟩ => ⟨(hskip rfl (hcons rfl (hSt41 _ (still_N S_5 hat41 rfl)) (hcons rfl (still_1 S_4 hat37) hnil))), ?_⟩
      refine alt_n rfl ?_ vp_none
      refine H_storeN TS_37 H fun h ⟨S_6, S_7, H⟩ => ⟨(hcons rfl (hSt41 _ (still_N S_7 hat41 rfl)) (hcons rfl (still_1 S_6 hat37) hnil)), ?_⟩
      refine alt_n rfl ?_ vp_none
      refine H_storeN TS_27 H fun h H => ⟨(hskip rfl (hskip rfl hnil)), ?_⟩
      refine alt_n rfl ?_ vp_none
      refine H_storeN TS_37 H fun h H => ⟨hnil, ?_⟩
      refine vp_done ?_; refine WPc_ret ?_; refine resH_of rfl ?_; refine resL_N TN_37 ?_; refine loadN_imp H fun r4 H => ?_; refine resL_N TN_27 ?_; refine loadN_imp H fun r5 H => ?_; refine resL_N TN_37 ?_; refine loadN_imp H fun r6 H => ?_; exact H
    refine WPc_seq' ?_; refine W_region (by kernel_rfl) ?_; refine vl_n ?_; refine H_of_R (R_fld TF_37_1 H fun t20 H => ?_)
    refine vl_n ?_; refine H_of_R (R_load1 T1_35 H fun _ t21 _ _ H => ?_)
    refine vl_n ?_; refine H_of_R (R_len Try.underlying35 H fun t22 H => ?_)
    refine vl_n ?_; refine H_of_R (R_gtr H fun t23 H => ?_)
    refine vl_e ?_; obtain ⟨b, hc, H1, H2⟩ := H; refine WPc_cond hc (fun hh => ?_) (fun hh => ?_)
    · have H := H1 hh; clear H1 H2
      refine W_drawn [0, 1, 0, 7, 0, 16, 0, 112, 15, 271, 1023, 2047] (.take 0 (.take 1 (.take 2 (.take 3 (.take 4 (.take 5 (.take 6 (.take 7 (.take 8 (.alt 9 (.take 10 (.alt 11 .done .none)) .none)))))))))) mixed (by kernel_rfl) ?_; refine tkP rfl ?_; refine R_fld TF_37_1 H fun t24 H => ⟨fun _ => trivial, ?_⟩
      refine tkL rfl ?_; refine R_load1 T1_35 H fun at25 t25 hat25 _ H => ?_; refine tkP rfl ?_; refine R_move (v := a0) rfl ⟨fun _ => trivial, ?_⟩
      refine tkP rfl ?_; refine R_slice TE_35 (by decide) H fun t27 H => ⟨fun _ => trivial, ?_⟩
      refine tkP rfl ?_; refine R_fld TF_37_1 H fun t28 H => ⟨fun _ => trivial, ?_⟩
      refine tkL rfl ?_; refine R_load1 T1_35 H fun at29 t29 hat29 _ H => ?_; refine tkP rfl ?_; refine R_move (v := a0) rfl ⟨fun _ => trivial, ?_⟩
      refine tkP rfl ?_; refine R_slice TE_35 (by decide) H fun t31 H => ⟨fun _ => trivial, ?_⟩
      refine tkP rfl ?_; refine R_fld TF_37_1 H fun t32 H => ⟨fun _ => trivial, ?_⟩
      refine alt_n rfl ?_ vp_none
      refine H_store1 TS_35 H fun h ⟨S_6, H⟩ => ⟨(hcons rfl (still_1 S_6 hat29) (hskip rfl hnil)), ?_⟩
      refine tkP rfl ?_; refine R_fld TF_37_1 H fun t33 H => ⟨fun _ => trivial, ?_⟩
      refine alt_n rfl ?_ vp_none
      refine H_store1 TS_35 H fun h H => ⟨(hskip rfl hnil), ?_⟩
      refine vp_done ?_; exact H
    · have H := H2 hh; clear H1 H2
      refine WPc_skip ?_; exact H
  refine alt_n rfl ?_ vp_none
  have H := HA1; clear HA0 HA1
  refine H_alloc TV_37 H fun t8_2 h ⟨S_7, S_8, H⟩ => ⟨(hcons rfl (still_1 S_8 hat16) (hcons rfl (still_1 S_7 hat10) hnil)), ?_⟩
  refine alt_n rfl ?_ vp_none
  refine H_alloc TV_37 H fun t7_2 h ⟨S_9, S_10, H⟩ => ⟨(hcons rfl (still_1 S_10 hat16) (hcons rfl (still_1 S_9 hat10) hnil)), ?_⟩
  refine alt_n rfl ?_ vp_none
  refine H_storeN TS_37 H fun h ⟨S_11, H⟩ => ⟨(hcons rfl (still_1 S_11 hat16) (hskip rfl hnil)), ?_⟩
  refine alt_n rfl ?_ vp_none
  refine H_storeN TS_37 H fun h H => ⟨(hskip rfl hnil), ?_⟩
  refine vp_done ?_; refine WPc_seq (fun e h => s_Divide.j2 (e 0) (e 3) (e 4) (e 5) (e 6) (e 7) (e 8) h Q) ?_ (fun e h H => ?_)
  rotate_left
  · unfold s_Divide.j2 at H
    refine WPc_seq' ?_; refine W_drawn [0, 1, 0, 4, 0, 16, 60, 124, 0, 259, 771, 2047, 4095] (.take 0 (.take 2 (.take 3 (.take 4 (.take 5 (.take 6 (.take 7 (.take 8 (.alt 1 (.alt 9 (.alt 10 (.alt 11 (.alt 12 .done .none) .none) .none) .none) .none))))))))) mixed (by kernel_rfl) ?_; refine tkL rfl ?_; refine R_loadN TN_37 H fun at34 xt34 hat34 _ H St34 hSt34 => ?_; refine tkP rfl ?_; refine R_fld TF_37_0 H fun t36 H => ⟨fun _ => trivial, ?_⟩
    refine tkL rfl ?_; refine R_load1 T1_25 H fun at37 t37 hat37 _ H => ?_; refine tkP rfl ?_; refine R_move (v := (e 0)) rfl ⟨fun _ => trivial, ?_⟩
    refine tkP rfl ?_; refine R_sub H fun t39 H => ⟨fun _ => trivial, ?_⟩
    refine tkP rfl ?_; refine R_idx TE_25 H fun t40 H => ⟨fun _ => trivial, ?_⟩
    refine tkL rfl ?_; refine R_loadN TN_27 H fun at41 xt41 hat41 _ H St41 hSt41 => ?_; refine tkL rfl ?_; refine R_loadN TN_37 H fun at42 xt42 hat42 _ H St42 hSt42 => ?_; refine alt_n rfl ?_ vp_none
    refine H_call HB_68 H fun t35 h ⟨S, S_2, S_3, H⟩ => ⟨(hcons rfl (hSt42 _ (still_N S_3 hat42 rfl)) (hcons rfl (hSt41 _ (still_N S_2 hat41 rfl)) (hcons rfl (still_1 S hat37) (hskip rfl hnil)))), ?_⟩
    refine alt_n rfl ?_ vp_none
    refine H_call HB_68 H fun t43 h ⟨S_4, S_5, H⟩ => ⟨(hskip rfl (hcons rfl (hSt41 _ (still_N S_5 hat41 rfl)) (hcons rfl (still_1 S_4 hat37) hnil))), ?_⟩
    refine alt_n rfl ?_ vp_none
    refine H_storeN TS_37 H fun h ⟨S_6, S_7, H⟩ => ⟨(hcons rfl (hSt41 _ (still_N S_7 hat41 rfl)) (hcons rfl (still_1 S_6 hat37) hnil)), ?_⟩
    refine alt_n rfl ?_ vp_none
    refine H_storeN TS_27 H fun h H => ⟨(hskip rfl (hskip rfl hnil)), ?_⟩
    refine alt_n rfl ?_ vp_none
    refine H_storeN TS_37 H fun h H => ⟨hnil, ?_⟩
    refine vp_done ?_; refine WPc_ret ?_; refine resH_of rfl ?_; refine resL_N TN_37 ?_; refine loadN_imp H fun r4 H => ?_; refine resL_N TN_27 ?_; refine loadN_imp H fun r5 H => ?_; refine resL_N TN_37 ?_; refine loadN_imp H fun r6 H => ?_; exact H
  refine WPc_seq' ?_; refine W_region (by kernel_rfl) ?_; refine vl_n ?_; refine H_of_R (R_fld TF_37_1 H fun t20_2 H => ?_)
  refine vl_n ?_; refine H_of_R (R_load1 T1_35 H fun _ t21_2 _ _ H => ?_)
  refine vl_n ?_; refine H_of_R (R_len Try.underlying35 H fun t22_2 H => ?_)
  refine vl_n ?_; refine H_of_R (R_gtr H fun t23_2 H => ?_)
  refine vl_e ?_; obtain ⟨b_2, hc_2, H1, H2⟩ := H; refine WPc_cond hc_2 (fun hh => ?_) (fun hh => ?_)
  · have H := H1 hh; clear H1 H2
    refine W_drawn [0, 1, 0, 7, 0, 16, 0, 112, 15, 271, 1023, 2047] (.take 0 (.take 1 (.take 2 (.take 3 (.take 4 (.take 5 (.take 6 (.take 7 (.take 8 (.alt 9 (.take 10 (.alt 11 .done .none)) .none)))))))))) mixed (by kernel_rfl) ?_; refine tkP rfl ?_; refine R_fld TF_37_1 H fun t24_2 H => ⟨fun _ => trivial, ?_⟩
    refine tkL rfl ?_; refine R_load1 T1_35 H fun at25_2 t25_2 hat25_2 _ H => ?_; refine tkP rfl ?_; refine R_move (v := a0) rfl ⟨fun _ => trivial, ?_⟩
    refine tkP rfl ?_; refine R_slice TE_35 (by decide) H fun t27_2 H => ⟨fun _ => trivial, ?_⟩
    refine tkP rfl ?_; refine R_fld TF_37_1 H fun t28_2 H => ⟨fun _ => trivial, ?_⟩
    refine tkL rfl ?_; refine R_load1 T1_35 H fun at29_2 t29_2 hat29_2 _ H => ?_; refine tkP rfl ?_; refine R_move (v := a0) rfl ⟨fun _ => trivial, ?_⟩
    refine tkP rfl ?_; refine R_slice TE_35 (by decide) H fun t31_2 H => ⟨fun _ => trivial, ?_⟩
    refine tkP rfl ?_; refine R_fld TF_37_1 H fun t32_2 H => ⟨fun _ => trivial, ?_⟩
    refine alt_n rfl ?_ vp_none
    refine H_store1 TS_35 H fun h ⟨S_12, H⟩ => ⟨(hcons rfl (still_1 S_12 hat29_2) (hskip rfl hnil)), ?_⟩
    refine tkP rfl ?_; refine R_fld TF_37_1 H fun t33_2 H => ⟨fun _ => trivial, ?_⟩
    refine alt_n rfl ?_ vp_none
    refine H_store1 TS_35 H fun h H => ⟨(hskip rfl hnil), ?_⟩
    refine vp_done ?_; exact H
  · have H := H2 hh; clear H1 H2
    refine WPc_skip ?_; exact H
end Go.Proofs.Ytljecmjdmdjldaa
end
section
namespace Go.Proofs.Ytljecmjdmdjldaa
open Go.Hp
set_option maxRecDepth 100000
set_option maxHeartbeats 8000000
/-! ### spec.put -/
def s_put.j4 (s1 s8 s9 s10 s12 s14 s15 s20 s21 s22 : Value) (h : Heap) (Q : Value → Heap → Prop) : Prop := loadN 3 s20 h fun t108 => loadN 2 s21 h fun t109 => loadN 3 s22 h fun t110 => arith (· - ·) s12 s1 fun t113 => loadN 2 s14 h fun t114 => s_grown.call #[t110, t113, t114, s15] h fun t116 h => stillN 3 s20 t108 h ∧ stillN 2 s21 t109 h ∧ storeN 3 s8 t108 h fun h => stillN 2 s21 t109 h ∧ storeN 2 s9 t109 h fun h => storeN 3 s10 t116 h fun h => loadN 3 s8 h fun r8 => loadN 2 s9 h fun r9 => loadN 3 s10 h fun r10 => Q (.tuple #[r8, r9, r10, (.bool true)]) h
def s_put.j3 (s1 s6 s8 s9 s10 s12 s14 s15 : Value) (h : Heap) (Q : Value → Heap → Prop) : Prop := loadN 3 s6 h fun t93 => s_Divide.call #[s1, t93] h fun t94 h => extr 0 t94 fun t95 => extr 1 t94 fun t96 => extr 2 t94 fun t97 => alloc [(.slice none 0 0), (.slice none 0 0), (.int .i64 0)] 37 h fun t20 h => alloc [(.int .i64 0), (.int .i64 0)] 27 h fun t21 h => alloc [(.slice none 0 0), (.slice none 0 0), (.int .i64 0)] 37 h fun t22 h => storeN 3 t20 t95 h fun h => storeN 2 t21 t96 h fun h => storeN 3 t22 t97 h fun h => cmpI (fun a b => decide (a < b)) s12 s1 fun t100 => ifV t100 (loadN 3 t20 h fun t101 => loadN 2 s14 h fun t103 => loadN 2 t21 h fun t106 => loadN 3 t22 h fun t107 => s_grown.call #[t101, s12, t103, s15] h fun t105 h => stillN 2 t21 t106 h ∧ stillN 3 t22 t107 h ∧ storeN 3 s8 t105 h fun h => stillN 2 t21 t106 h ∧ stillN 3 t22 t107 h ∧ storeN 2 s9 t106 h fun h => stillN 3 t22 t107 h ∧ storeN 3 s10 t107 h fun h => loadN 3 s8 h fun r8 => loadN 2 s9 h fun r9 => loadN 3 s10 h fun r10 => Q (.tuple #[r8, r9, r10, (.bool true)]) h) (s_put.j4 s1 s8 s9 s10 s12 s14 s15 t20 t21 t22 h Q)
def s_put.j2 (s1 s6 s8 s9 s10 s12 s14 s15 : Value) (h : Heap) (Q : Value → Heap → Prop) : Prop := fld 0 s6 fun t77 => load1 t77 h fun t78 => lenV t78 fun t79 => arith (· * ·) (.int .i64 2) s1 fun t81 => arith (· - ·) t81 (.int .i64 1) fun t82 => cmpI (fun a b => decide (a < b)) t79 t82 fun t83 => ifV t83 (loadN 3 s6 h fun t84 => loadN 2 s14 h fun t86 => s_grown.call #[t84, s12, t86, s15] h fun t88 h => buildV [(.int .i64 0), (.int .i64 0)] [] fun t89 => buildV [(.slice none 0 0), (.slice none 0 0), (.int .i64 0)] [] fun t90 => storeN 3 s8 t88 h fun h => storeN 2 s9 t89 h fun h => storeN 3 s10 t90 h fun h => loadN 3 s8 h fun r8 => loadN 2 s9 h fun r9 => loadN 3 s10 h fun r10 => Q (.tuple #[r8, r9, r10, (.bool false)]) h) (s_put.j3 s1 s6 s8 s9 s10 s12 s14 s15 h Q)
def s_put.j5 (s1 s6 s8 s9 s10 s12 s14 s16 s17 s18 : Value) (h : Heap) (Q : Value → Heap → Prop) : Prop := loadN 2 s17 h fun t73 => loadN 3 s16 h fun t74 => loadN 3 s18 h fun t75 => (mkSl (if 2 * 3 = 0 then [] else zeros [(.slice none 0 0), (.slice none 0 0), (.int .i64 0)] 2) 2 [(0 * 3, 3, t74), (1 * 3, 3, t75)] 37 h fun t76 h => stillN 2 s17 t73 h ∧ storeN 2 s14 t73 h fun h => s_put.j2 s1 s6 s8 s9 s10 s12 s14 t76 h Q) ∧ (storeN 2 s14 t73 h fun h => stillN 3 s16 t74 h ∧ stillN 3 s18 t75 h ∧ mkSl (if 2 * 3 = 0 then [] else zeros [(.slice none 0 0), (.slice none 0 0), (.int .i64 0)] 2) 2 [(0 * 3, 3, t74), (1 * 3, 3, t75)] 37 h fun t76_2 h => s_put.j2 s1 s6 s8 s9 s10 s12 s14 t76_2 h Q)
def s_put.j6 (s1 s6 s8 s9 s10 s12 s14 s16 s17 s18 : Value) (h : Heap) (Q : Value → Heap → Prop) : Prop := loadN 2 s17 h fun t73 => loadN 3 s16 h fun t74 => loadN 3 s18 h fun t75 => (mkSl (if 2 * 3 = 0 then [] else zeros [(.slice none 0 0), (.slice none 0 0), (.int .i64 0)] 2) 2 [(0 * 3, 3, t74), (1 * 3, 3, t75)] 37 h fun t76 h => stillN 2 s17 t73 h ∧ storeN 2 s14 t73 h fun h => s_put.j2 s1 s6 s8 s9 s10 s12 s14 t76 h Q) ∧ (storeN 2 s14 t73 h fun h => stillN 3 s16 t74 h ∧ stillN 3 s18 t75 h ∧ mkSl (if 2 * 3 = 0 then [] else zeros [(.slice none 0 0), (.slice none 0 0), (.int .i64 0)] 2) 2 [(0 * 3, 3, t74), (1 * 3, 3, t75)] 37 h fun t76_2 h => s_put.j2 s1 s6 s8 s9 s10 s12 s14 t76_2 h Q)
def s_put.j7 (s1 s6 s8 s9 s10 s12 s14 s16 s17 s18 : Value) (h : Heap) (Q : Value → Heap → Prop) : Prop := loadN 2 s17 h fun t73 => loadN 3 s16 h fun t74 => loadN 3 s18 h fun t75 => (mkSl (if 2 * 3 = 0 then [] else zeros [(.slice none 0 0), (.slice none 0 0), (.int .i64 0)] 2) 2 [(0 * 3, 3, t74), (1 * 3, 3, t75)] 37 h fun t76 h => stillN 2 s17 t73 h ∧ storeN 2 s14 t73 h fun h => s_put.j2 s1 s6 s8 s9 s10 s12 s14 t76 h Q) ∧ (storeN 2 s14 t73 h fun h => stillN 3 s16 t74 h ∧ stillN 3 s18 t75 h ∧ mkSl (if 2 * 3 = 0 then [] else zeros [(.slice none 0 0), (.slice none 0 0), (.int .i64 0)] 2) 2 [(0 * 3, 3, t74), (1 * 3, 3, t75)] 37 h fun t76_2 h => s_put.j2 s1 s6 s8 s9 s10 s12 s14 t76_2 h Q)
def s_put.j8 (s1 s6 s8 s9 s10 s12 s14 s16 s17 s18 : Value) (h : Heap) (Q : Value → Heap → Prop) : Prop := loadN 2 s17 h fun t73 => loadN 3 s16 h fun t74 => loadN 3 s18 h fun t75 => (mkSl (if 2 * 3 = 0 then [] else zeros [(.slice none 0 0), (.slice none 0 0), (.int .i64 0)] 2) 2 [(0 * 3, 3, t74), (1 * 3, 3, t75)] 37 h fun t76 h => stillN 2 s17 t73 h ∧ storeN 2 s14 t73 h fun h => s_put.j2 s1 s6 s8 s9 s10 s12 s14 t76 h Q) ∧ (storeN 2 s14 t73 h fun h => stillN 3 s16 t74 h ∧ stillN 3 s18 t75 h ∧ mkSl (if 2 * 3 = 0 then [] else zeros [(.slice none 0 0), (.slice none 0 0), (.int .i64 0)] 2) 2 [(0 * 3, 3, t74), (1 * 3, 3, t75)] 37 h fun t76_2 h => s_put.j2 s1 s6 s8 s9 s10 s12 s14 t76_2 h Q)
def s_put.j9 (s1 s6 s8 s9 s10 s12 s14 s16 s17 s18 : Value) (h : Heap) (Q : Value → Heap → Prop) : Prop := loadN 2 s17 h fun t73 => loadN 3 s16 h fun t74 => loadN 3 s18 h fun t75 => (mkSl (if 2 * 3 = 0 then [] else zeros [(.slice none 0 0), (.slice none 0 0), (.int .i64 0)] 2) 2 [(0 * 3, 3, t74), (1 * 3, 3, t75)] 37 h fun t76 h => stillN 2 s17 t73 h ∧ storeN 2 s14 t73 h fun h => s_put.j2 s1 s6 s8 s9 s10 s12 s14 t76 h Q) ∧ (storeN 2 s14 t73 h fun h => stillN 3 s16 t74 h ∧ stillN 3 s18 t75 h ∧ mkSl (if 2 * 3 = 0 then [] else zeros [(.slice none 0 0), (.slice none 0 0), (.int .i64 0)] 2) 2 [(0 * 3, 3, t74), (1 * 3, 3, t75)] 37 h fun t76_2 h => s_put.j2 s1 s6 s8 s9 s10 s12 s14 t76_2 h Q)
def s_put.j10 (s1 s6 s8 s9 s10 s12 s14 s16 s17 s18 : Value) (h : Heap) (Q : Value → Heap → Prop) : Prop := loadN 2 s17 h fun t73 => loadN 3 s16 h fun t74 => loadN 3 s18 h fun t75 => (mkSl (if 2 * 3 = 0 then [] else zeros [(.slice none 0 0), (.slice none 0 0), (.int .i64 0)] 2) 2 [(0 * 3, 3, t74), (1 * 3, 3, t75)] 37 h fun t76 h => stillN 2 s17 t73 h ∧ storeN 2 s14 t73 h fun h => s_put.j2 s1 s6 s8 s9 s10 s12 s14 t76 h Q) ∧ (storeN 2 s14 t73 h fun h => stillN 3 s16 t74 h ∧ stillN 3 s18 t75 h ∧ mkSl (if 2 * 3 = 0 then [] else zeros [(.slice none 0 0), (.slice none 0 0), (.int .i64 0)] 2) 2 [(0 * 3, 3, t74), (1 * 3, 3, t75)] 37 h fun t76_2 h => s_put.j2 s1 s6 s8 s9 s10 s12 s14 t76_2 h Q)
def s_put.j11 (s1 s6 s8 s9 s10 s12 s14 s16 s17 s18 : Value) (h : Heap) (Q : Value → Heap → Prop) : Prop := loadN 2 s17 h fun t73 => loadN 3 s16 h fun t74 => loadN 3 s18 h fun t75 => (mkSl (if 2 * 3 = 0 then [] else zeros [(.slice none 0 0), (.slice none 0 0), (.int .i64 0)] 2) 2 [(0 * 3, 3, t74), (1 * 3, 3, t75)] 37 h fun t76 h => stillN 2 s17 t73 h ∧ storeN 2 s14 t73 h fun h => s_put.j2 s1 s6 s8 s9 s10 s12 s14 t76 h Q) ∧ (storeN 2 s14 t73 h fun h => stillN 3 s16 t74 h ∧ stillN 3 s18 t75 h ∧ mkSl (if 2 * 3 = 0 then [] else zeros [(.slice none 0 0), (.slice none 0 0), (.int .i64 0)] 2) 2 [(0 * 3, 3, t74), (1 * 3, 3, t75)] 37 h fun t76_2 h => s_put.j2 s1 s6 s8 s9 s10 s12 s14 t76_2 h Q)
def s_put.j12 (s1 s6 s8 s9 s10 s12 s14 s16 s17 s18 : Value) (h : Heap) (Q : Value → Heap → Prop) : Prop := loadN 2 s17 h fun t73 => loadN 3 s16 h fun t74 => loadN 3 s18 h fun t75 => (mkSl (if 2 * 3 = 0 then [] else zeros [(.slice none 0 0), (.slice none 0 0), (.int .i64 0)] 2) 2 [(0 * 3, 3, t74), (1 * 3, 3, t75)] 37 h fun t76 h => stillN 2 s17 t73 h ∧ storeN 2 s14 t73 h fun h => s_put.j2 s1 s6 s8 s9 s10 s12 s14 t76 h Q) ∧ (storeN 2 s14 t73 h fun h => stillN 3 s16 t74 h ∧ stillN 3 s18 t75 h ∧ mkSl (if 2 * 3 = 0 then [] else zeros [(.slice none 0 0), (.slice none 0 0), (.int .i64 0)] 2) 2 [(0 * 3, 3, t74), (1 * 3, 3, t75)] 37 h fun t76_2 h => s_put.j2 s1 s6 s8 s9 s10 s12 s14 t76_2 h Q)
def s_put.j13 (s1 s6 s8 s9 s10 s12 s14 s16 s17 s18 : Value) (h : Heap) (Q : Value → Heap → Prop) : Prop := loadN 2 s17 h fun t73 => loadN 3 s16 h fun t74 => loadN 3 s18 h fun t75 => (mkSl (if 2 * 3 = 0 then [] else zeros [(.slice none 0 0), (.slice none 0 0), (.int .i64 0)] 2) 2 [(0 * 3, 3, t74), (1 * 3, 3, t75)] 37 h fun t76 h => stillN 2 s17 t73 h ∧ storeN 2 s14 t73 h fun h => s_put.j2 s1 s6 s8 s9 s10 s12 s14 t76 h Q) ∧ (storeN 2 s14 t73 h fun h => stillN 3 s16 t74 h ∧ stillN 3 s18 t75 h ∧ mkSl (if 2 * 3 = 0 then [] else zeros [(.slice none 0 0), (.slice none 0 0), (.int .i64 0)] 2) 2 [(0 * 3, 3, t74), (1 * 3, 3, t75)] 37 h fun t76_2 h => s_put.j2 s1 s6 s8 s9 s10 s12 s14 t76_2 h Q)
def s_put.j14 (s1 s6 s8 s9 s10 s12 s14 s16 s17 s18 : Value) (h : Heap) (Q : Value → Heap → Prop) : Prop := loadN 2 s17 h fun t73 => loadN 3 s16 h fun t74 => loadN 3 s18 h fun t75 => (mkSl (if 2 * 3 = 0 then [] else zeros [(.slice none 0 0), (.slice none 0 0), (.int .i64 0)] 2) 2 [(0 * 3, 3, t74), (1 * 3, 3, t75)] 37 h fun t76 h => stillN 2 s17 t73 h ∧ storeN 2 s14 t73 h fun h => s_put.j2 s1 s6 s8 s9 s10 s12 s14 t76 h Q) ∧ (storeN 2 s14 t73 h fun h => stillN 3 s16 t74 h ∧ stillN 3 s18 t75 h ∧ mkSl (if 2 * 3 = 0 then [] else zeros [(.slice none 0 0), (.slice none 0 0), (.int .i64 0)] 2) 2 [(0 * 3, 3, t74), (1 * 3, 3, t75)] 37 h fun t76_2 h => s_put.j2 s1 s6 s8 s9 s10 s12 s14 t76_2 h Q)
def s_put.j15 (s1 s6 s8 s9 s10 s12 s14 s16 s17 s18 : Value) (h : Heap) (Q : Value → Heap → Prop) : Prop := loadN 2 s17 h fun t73 => loadN 3 s16 h fun t74 => loadN 3 s18 h fun t75 => (mkSl (if 2 * 3 = 0 then [] else zeros [(.slice none 0 0), (.slice none 0 0), (.int .i64 0)] 2) 2 [(0 * 3, 3, t74), (1 * 3, 3, t75)] 37 h fun t76 h => stillN 2 s17 t73 h ∧ storeN 2 s14 t73 h fun h => s_put.j2 s1 s6 s8 s9 s10 s12 s14 t76 h Q) ∧ (storeN 2 s14 t73 h fun h => stillN 3 s16 t74 h ∧ stillN 3 s18 t75 h ∧ mkSl (if 2 * 3 = 0 then [] else zeros [(.slice none 0 0), (.slice none 0 0), (.int .i64 0)] 2) 2 [(0 * 3, 3, t74), (1 * 3, 3, t75)] 37 h fun t76_2 h => s_put.j2 s1 s6 s8 s9 s10 s12 s14 t76_2 h Q)
def s_put.j16 (s1 s6 s8 s9 s10 s12 s14 s16 s17 s18 : Value) (h : Heap) (Q : Value → Heap → Prop) : Prop := loadN 2 s17 h fun t73 => loadN 3 s16 h fun t74 => loadN 3 s18 h fun t75 => (mkSl (if 2 * 3 = 0 then [] else zeros [(.slice none 0 0), (.slice none 0 0), (.int .i64 0)] 2) 2 [(0 * 3, 3, t74), (1 * 3, 3, t75)] 37 h fun t76 h => stillN 2 s17 t73 h ∧ storeN 2 s14 t73 h fun h => s_put.j2 s1 s6 s8 s9 s10 s12 s14 t76 h Q) ∧ (storeN 2 s14 t73 h fun h => stillN 3 s16 t74 h ∧ stillN 3 s18 t75 h ∧ mkSl (if 2 * 3 = 0 then [] else zeros [(.slice none 0 0), (.slice none 0 0), (.int .i64 0)] 2) 2 [(0 * 3, 3, t74), (1 * 3, 3, t75)] 37 h fun t76_2 h => s_put.j2 s1 s6 s8 s9 s10 s12 s14 t76_2 h Q)
def s_put.j17 (s1 s6 s8 s9 s10 s12 s14 s16 s17 s18 : Value) (h : Heap) (Q : Value → Heap → Prop) : Prop := loadN 2 s17 h fun t73 => loadN 3 s16 h fun t74 => loadN 3 s18 h fun t75 => (mkSl (if 2 * 3 = 0 then [] else zeros [(.slice none 0 0), (.slice none 0 0), (.int .i64 0)] 2) 2 [(0 * 3, 3, t74), (1 * 3, 3, t75)] 37 h fun t76 h => stillN 2 s17 t73 h ∧ storeN 2 s14 t73 h fun h => s_put.j2 s1 s6 s8 s9 s10 s12 s14 t76 h Q) ∧ (storeN 2 s14 t73 h fun h => stillN 3 s16 t74 h ∧ stillN 3 s18 t75 h ∧ mkSl (if 2 * 3 = 0 then [] else zeros [(.slice none 0 0), (.slice none 0 0), (.int .i64 0)] 2) 2 [(0 * 3, 3, t74), (1 * 3, 3, t75)] 37 h fun t76_2 h => s_put.j2 s1 s6 s8 s9 s10 s12 s14 t76_2 h Q)
def s_put.j18 (s1 s6 s8 s9 s10 s12 s14 s16 s17 s18 : Value) (h : Heap) (Q : Value → Heap → Prop) : Prop := loadN 2 s17 h fun t73 => loadN 3 s16 h fun t74 => loadN 3 s18 h fun t75 => (mkSl (if 2 * 3 = 0 then [] else zeros [(.slice none 0 0), (.slice none 0 0), (.int .i64 0)] 2) 2 [(0 * 3, 3, t74), (1 * 3, 3, t75)] 37 h fun t76 h => stillN 2 s17 t73 h ∧ storeN 2 s14 t73 h fun h => s_put.j2 s1 s6 s8 s9 s10 s12 s14 t76 h Q) ∧ (storeN 2 s14 t73 h fun h => stillN 3 s16 t74 h ∧ stillN 3 s18 t75 h ∧ mkSl (if 2 * 3 = 0 then [] else zeros [(.slice none 0 0), (.slice none 0 0), (.int .i64 0)] 2) 2 [(0 * 3, 3, t74), (1 * 3, 3, t75)] 37 h fun t76_2 h => s_put.j2 s1 s6 s8 s9 s10 s12 s14 t76_2 h Q)
def s_put.j19 (s1 s6 s8 s9 s10 s12 s14 s16 s17 s18 : Value) (h : Heap) (Q : Value → Heap → Prop) : Prop := loadN 2 s17 h fun t73 => loadN 3 s16 h fun t74 => loadN 3 s18 h fun t75 => (mkSl (if 2 * 3 = 0 then [] else zeros [(.slice none 0 0), (.slice none 0 0), (.int .i64 0)] 2) 2 [(0 * 3, 3, t74), (1 * 3, 3, t75)] 37 h fun t76 h => stillN 2 s17 t73 h ∧ storeN 2 s14 t73 h fun h => s_put.j2 s1 s6 s8 s9 s10 s12 s14 t76 h Q) ∧ (storeN 2 s14 t73 h fun h => stillN 3 s16 t74 h ∧ stillN 3 s18 t75 h ∧ mkSl (if 2 * 3 = 0 then [] else zeros [(.slice none 0 0), (.slice none 0 0), (.int .i64 0)] 2) 2 [(0 * 3, 3, t74), (1 * 3, 3, t75)] 37 h fun t76_2 h => s_put.j2 s1 s6 s8 s9 s10 s12 s14 t76_2 h Q)
def s_put.j20 (s1 s6 s8 s9 s10 s12 s14 s16 s17 s18 : Value) (h : Heap) (Q : Value → Heap → Prop) : Prop := loadN 2 s17 h fun t73 => loadN 3 s16 h fun t74 => loadN 3 s18 h fun t75 => (mkSl (if 2 * 3 = 0 then [] else zeros [(.slice none 0 0), (.slice none 0 0), (.int .i64 0)] 2) 2 [(0 * 3, 3, t74), (1 * 3, 3, t75)] 37 h fun t76 h => stillN 2 s17 t73 h ∧ storeN 2 s14 t73 h fun h => s_put.j2 s1 s6 s8 s9 s10 s12 s14 t76 h Q) ∧ (storeN 2 s14 t73 h fun h => stillN 3 s16 t74 h ∧ stillN 3 s18 t75 h ∧ mkSl (if 2 * 3 = 0 then [] else zeros [(.slice none 0 0), (.slice none 0 0), (.int .i64 0)] 2) 2 [(0 * 3, 3, t74), (1 * 3, 3, t75)] 37 h fun t76_2 h => s_put.j2 s1 s6 s8 s9 s10 s12 s14 t76_2 h Q)
def s_put.j21 (s1 s6 s8 s9 s10 s12 s14 s16 s17 s18 : Value) (h : Heap) (Q : Value → Heap → Prop) : Prop := loadN 2 s17 h fun t73 => loadN 3 s16 h fun t74 => loadN 3 s18 h fun t75 => (mkSl (if 2 * 3 = 0 then [] else zeros [(.slice none 0 0), (.slice none 0 0), (.int .i64 0)] 2) 2 [(0 * 3, 3, t74), (1 * 3, 3, t75)] 37 h fun t76 h => stillN 2 s17 t73 h ∧ storeN 2 s14 t73 h fun h => s_put.j2 s1 s6 s8 s9 s10 s12 s14 t76 h Q) ∧ (storeN 2 s14 t73 h fun h => stillN 3 s16 t74 h ∧ stillN 3 s18 t75 h ∧ mkSl (if 2 * 3 = 0 then [] else zeros [(.slice none 0 0), (.slice none 0 0), (.int .i64 0)] 2) 2 [(0 * 3, 3, t74), (1 * 3, 3, t75)] 37 h fun t76_2 h => s_put.j2 s1 s6 s8 s9 s10 s12 s14 t76_2 h Q)
def s_put.j22 (s1 s6 s8 s9 s10 s12 s14 s16 s17 s18 : Value) (h : Heap) (Q : Value → Heap → Prop) : Prop := loadN 2 s17 h fun t73 => loadN 3 s16 h fun t74 => loadN 3 s18 h fun t75 => (mkSl (if 2 * 3 = 0 then [] else zeros [(.slice none 0 0), (.slice none 0 0), (.int .i64 0)] 2) 2 [(0 * 3, 3, t74), (1 * 3, 3, t75)] 37 h fun t76 h => stillN 2 s17 t73 h ∧ storeN 2 s14 t73 h fun h => s_put.j2 s1 s6 s8 s9 s10 s12 s14 t76 h Q) ∧ (storeN 2 s14 t73 h fun h => stillN 3 s16 t74 h ∧ stillN 3 s18 t75 h ∧ mkSl (if 2 * 3 = 0 then [] else zeros [(.slice none 0 0), (.slice none 0 0), (.int .i64 0)] 2) 2 [(0 * 3, 3, t74), (1 * 3, 3, t75)] 37 h fun t76_2 h => s_put.j2 s1 s6 s8 s9 s10 s12 s14 t76_2 h Q)
def s_put.j23 (s1 s6 s8 s9 s10 s12 s14 s16 s17 s18 : Value) (h : Heap) (Q : Value → Heap → Prop) : Prop := loadN 2 s17 h fun t73 => loadN 3 s16 h fun t74 => loadN 3 s18 h fun t75 => (mkSl (if 2 * 3 = 0 then [] else zeros [(.slice none 0 0), (.slice none 0 0), (.int .i64 0)] 2) 2 [(0 * 3, 3, t74), (1 * 3, 3, t75)] 37 h fun t76 h => stillN 2 s17 t73 h ∧ storeN 2 s14 t73 h fun h => s_put.j2 s1 s6 s8 s9 s10 s12 s14 t76 h Q) ∧ (storeN 2 s14 t73 h fun h => stillN 3 s16 t74 h ∧ stillN 3 s18 t75 h ∧ mkSl (if 2 * 3 = 0 then [] else zeros [(.slice none 0 0), (.slice none 0 0), (.int .i64 0)] 2) 2 [(0 * 3, 3, t74), (1 * 3, 3, t75)] 37 h fun t76_2 h => s_put.j2 s1 s6 s8 s9 s10 s12 s14 t76_2 h Q)
def s_put.j24 (s1 s6 s8 s9 s10 s12 s14 s16 s17 s18 : Value) (h : Heap) (Q : Value → Heap → Prop) : Prop := loadN 2 s17 h fun t73 => loadN 3 s16 h fun t74 => loadN 3 s18 h fun t75 => (mkSl (if 2 * 3 = 0 then [] else zeros [(.slice none 0 0), (.slice none 0 0), (.int .i64 0)] 2) 2 [(0 * 3, 3, t74), (1 * 3, 3, t75)] 37 h fun t76 h => stillN 2 s17 t73 h ∧ storeN 2 s14 t73 h fun h => s_put.j2 s1 s6 s8 s9 s10 s12 s14 t76 h Q) ∧ (storeN 2 s14 t73 h fun h => stillN 3 s16 t74 h ∧ stillN 3 s18 t75 h ∧ mkSl (if 2 * 3 = 0 then [] else zeros [(.slice none 0 0), (.slice none 0 0), (.int .i64 0)] 2) 2 [(0 * 3, 3, t74), (1 * 3, 3, t75)] 37 h fun t76_2 h => s_put.j2 s1 s6 s8 s9 s10 s12 s14 t76_2 h Q)
def s_put.j25 (s1 s6 s8 s9 s10 s12 s14 s16 s17 s18 : Value) (h : Heap) (Q : Value → Heap → Prop) : Prop := loadN 2 s17 h fun t73 => loadN 3 s16 h fun t74 => loadN 3 s18 h fun t75 => (mkSl (if 2 * 3 = 0 then [] else zeros [(.slice none 0 0), (.slice none 0 0), (.int .i64 0)] 2) 2 [(0 * 3, 3, t74), (1 * 3, 3, t75)] 37 h fun t76 h => stillN 2 s17 t73 h ∧ storeN 2 s14 t73 h fun h => s_put.j2 s1 s6 s8 s9 s10 s12 s14 t76 h Q) ∧ (storeN 2 s14 t73 h fun h => stillN 3 s16 t74 h ∧ stillN 3 s18 t75 h ∧ mkSl (if 2 * 3 = 0 then [] else zeros [(.slice none 0 0), (.slice none 0 0), (.int .i64 0)] 2) 2 [(0 * 3, 3, t74), (1 * 3, 3, t75)] 37 h fun t76_2 h => s_put.j2 s1 s6 s8 s9 s10 s12 s14 t76_2 h Q)
def s_put.j26 (s1 s6 s8 s9 s10 s12 s14 s16 s17 s18 : Value) (h : Heap) (Q : Value → Heap → Prop) : Prop := loadN 2 s17 h fun t73 => loadN 3 s16 h fun t74 => loadN 3 s18 h fun t75 => (mkSl (if 2 * 3 = 0 then [] else zeros [(.slice none 0 0), (.slice none 0 0), (.int .i64 0)] 2) 2 [(0 * 3, 3, t74), (1 * 3, 3, t75)] 37 h fun t76 h => stillN 2 s17 t73 h ∧ storeN 2 s14 t73 h fun h => s_put.j2 s1 s6 s8 s9 s10 s12 s14 t76 h Q) ∧ (storeN 2 s14 t73 h fun h => stillN 3 s16 t74 h ∧ stillN 3 s18 t75 h ∧ mkSl (if 2 * 3 = 0 then [] else zeros [(.slice none 0 0), (.slice none 0 0), (.int .i64 0)] 2) 2 [(0 * 3, 3, t74), (1 * 3, 3, t75)] 37 h fun t76_2 h => s_put.j2 s1 s6 s8 s9 s10 s12 s14 t76_2 h Q)
def s_put.j27 (s1 s6 s8 s9 s10 s12 s14 s16 s17 s18 : Value) (h : Heap) (Q : Value → Heap → Prop) : Prop := loadN 2 s17 h fun t73 => loadN 3 s16 h fun t74 => loadN 3 s18 h fun t75 => (mkSl (if 2 * 3 = 0 then [] else zeros [(.slice none 0 0), (.slice none 0 0), (.int .i64 0)] 2) 2 [(0 * 3, 3, t74), (1 * 3, 3, t75)] 37 h fun t76 h => stillN 2 s17 t73 h ∧ storeN 2 s14 t73 h fun h => s_put.j2 s1 s6 s8 s9 s10 s12 s14 t76 h Q) ∧ (storeN 2 s14 t73 h fun h => stillN 3 s16 t74 h ∧ stillN 3 s18 t75 h ∧ mkSl (if 2 * 3 = 0 then [] else zeros [(.slice none 0 0), (.slice none 0 0), (.int .i64 0)] 2) 2 [(0 * 3, 3, t74), (1 * 3, 3, t75)] 37 h fun t76_2 h => s_put.j2 s1 s6 s8 s9 s10 s12 s14 t76_2 h Q)
def s_put.j28 (s1 s6 s8 s9 s10 s12 s14 s16 s17 s18 : Value) (h : Heap) (Q : Value → Heap → Prop) : Prop := loadN 2 s17 h fun t73 => loadN 3 s16 h fun t74 => loadN 3 s18 h fun t75 => (mkSl (if 2 * 3 = 0 then [] else zeros [(.slice none 0 0), (.slice none 0 0), (.int .i64 0)] 2) 2 [(0 * 3, 3, t74), (1 * 3, 3, t75)] 37 h fun t76 h => stillN 2 s17 t73 h ∧ storeN 2 s14 t73 h fun h => s_put.j2 s1 s6 s8 s9 s10 s12 s14 t76 h Q) ∧ (storeN 2 s14 t73 h fun h => stillN 3 s16 t74 h ∧ stillN 3 s18 t75 h ∧ mkSl (if 2 * 3 = 0 then [] else zeros [(.slice none 0 0), (.slice none 0 0), (.int .i64 0)] 2) 2 [(0 * 3, 3, t74), (1 * 3, 3, t75)] 37 h fun t76_2 h => s_put.j2 s1 s6 s8 s9 s10 s12 s14 t76_2 h Q)
def s_put.j1 (s0 s1 s6 s7 s8 s9 s10 s12 : Value) (h : Heap) (Q : Value → Heap → Prop) : Prop := loadN 2 s7 h fun t41 => mkSl (if 0 * 3 = 0 then [] else zeros [(.slice none 0 0), (.slice none 0 0), (.int .i64 0)] 0) 0 [] 37 h fun t42 h => alloc [(.int .i64 0), (.int .i64 0)] 27 h fun t14 h => storeN 2 t14 t41 h fun h => fld 1 s6 fun t43 => load1 t43 h fun t44 => lenV t44 fun t45 => cmpI (fun a b => decide (a > b)) t45 (.int .i64 0) fun t46 => ifV t46 (fld 1 s6 fun t50 => load1 t50 h fun t51 => idx 3 t51 s12 fun t53 => loadN 3 t53 h fun t54 => loadN 2 s7 h fun t55 => (s_put.call #[s0, s1, t54, t55] h fun t56 h => extr 0 t56 fun t57 => extr 1 t56 fun t58 => extr 2 t56 fun t59 => extr 3 t56 fun t60 => (alloc [(.slice none 0 0), (.slice none 0 0), (.int .i64 0)] 37 h fun t16 h => (alloc [(.int .i64 0), (.int .i64 0)] 27 h fun t17 h => alloc [(.slice none 0 0), (.slice none 0 0), (.int .i64 0)] 37 h fun t18 h => storeN 3 t16 t57 h fun h => storeN 2 t17 t58 h fun h => storeN 3 t18 t59 h fun h => notV t60 fun t62 => ifV t62 (fld 0 s6 fun t63 => load1 t63 h fun t64 => fld 1 s6 fun t65 => load1 t65 h fun t66 => loadN 3 t16 h fun t68 => buildV [(.int .i64 0), (.int .i64 0)] [] fun t71 => buildV [(.slice none 0 0), (.slice none 0 0), (.int .i64 0)] [] fun t72 => s_changed_implNode.call #[t66, s12, t68] h fun t69 h => still1 t63 t64 h ∧ buildV [(.slice none 0 0), (.slice none 0 0), (.int .i64 0)] [(0, 1, t64), (1, 1, t69)] fun t70 => storeN 3 s8 t70 h fun h => storeN 2 s9 t71 h fun h => storeN 3 s10 t72 h fun h => loadN 3 s8 h fun r8 => loadN 2 s9 h fun r9 => loadN 3 s10 h fun r10 => Q (.tuple #[r8, r9, r10, (.bool false)]) h) (s_put.j5 s1 s6 s8 s9 s10 s12 t14 t16 t17 t18 h Q)) ∧ (alloc [(.slice none 0 0), (.slice none 0 0), (.int .i64 0)] 37 h fun t18_2 h => alloc [(.int .i64 0), (.int .i64 0)] 27 h fun t17_2 h => storeN 3 t16 t57 h fun h => storeN 2 t17_2 t58 h fun h => storeN 3 t18_2 t59 h fun h => notV t60 fun t62_2 => ifV t62_2 (fld 0 s6 fun t63_2 => load1 t63_2 h fun t64_2 => fld 1 s6 fun t65_2 => load1 t65_2 h fun t66_2 => loadN 3 t16 h fun t68_2 => buildV [(.int .i64 0), (.int .i64 0)] [] fun t71_2 => buildV [(.slice none 0 0), (.slice none 0 0), (.int .i64 0)] [] fun t72_2 => s_changed_implNode.call #[t66_2, s12, t68_2] h fun t69_2 h => still1 t63_2 t64_2 h ∧ buildV [(.slice none 0 0), (.slice none 0 0), (.int .i64 0)] [(0, 1, t64_2), (1, 1, t69_2)] fun t70_2 => storeN 3 s8 t70_2 h fun h => storeN 2 s9 t71_2 h fun h => storeN 3 s10 t72_2 h fun h => loadN 3 s8 h fun r8_2 => loadN 2 s9 h fun r9_2 => loadN 3 s10 h fun r10_2 => Q (.tuple #[r8_2, r9_2, r10_2, (.bool false)]) h) (s_put.j6 s1 s6 s8 s9 s10 s12 t14 t16 t17_2 t18_2 h Q))) ∧ (alloc [(.int .i64 0), (.int .i64 0)] 27 h fun t17_3 h => (alloc [(.slice none 0 0), (.slice none 0 0), (.int .i64 0)] 37 h fun t16_2 h => alloc [(.slice none 0 0), (.slice none 0 0), (.int .i64 0)] 37 h fun t18_3 h => storeN 3 t16_2 t57 h fun h => storeN 2 t17_3 t58 h fun h => storeN 3 t18_3 t59 h fun h => notV t60 fun t62_3 => ifV t62_3 (fld 0 s6 fun t63_3 => load1 t63_3 h fun t64_3 => fld 1 s6 fun t65_3 => load1 t65_3 h fun t66_3 => loadN 3 t16_2 h fun t68_3 => buildV [(.int .i64 0), (.int .i64 0)] [] fun t71_3 => buildV [(.slice none 0 0), (.slice none 0 0), (.int .i64 0)] [] fun t72_3 => s_changed_implNode.call #[t66_3, s12, t68_3] h fun t69_3 h => still1 t63_3 t64_3 h ∧ buildV [(.slice none 0 0), (.slice none 0 0), (.int .i64 0)] [(0, 1, t64_3), (1, 1, t69_3)] fun t70_3 => storeN 3 s8 t70_3 h fun h => storeN 2 s9 t71_3 h fun h => storeN 3 s10 t72_3 h fun h => loadN 3 s8 h fun r8_3 => loadN 2 s9 h fun r9_3 => loadN 3 s10 h fun r10_3 => Q (.tuple #[r8_3, r9_3, r10_3, (.bool false)]) h) (s_put.j7 s1 s6 s8 s9 s10 s12 t14 t16_2 t17_3 t18_3 h Q)) ∧ (alloc [(.slice none 0 0), (.slice none 0 0), (.int .i64 0)] 37 h fun t18_4 h => alloc [(.slice none 0 0), (.slice none 0 0), (.int .i64 0)] 37 h fun t16_3 h => storeN 3 t16_3 t57 h fun h => storeN 2 t17_3 t58 h fun h => storeN 3 t18_4 t59 h fun h => notV t60 fun t62_4 => ifV t62_4 (fld 0 s6 fun t63_4 => load1 t63_4 h fun t64_4 => fld 1 s6 fun t65_4 => load1 t65_4 h fun t66_4 => loadN 3 t16_3 h fun t68_4 => buildV [(.int .i64 0), (.int .i64 0)] [] fun t71_4 => buildV [(.slice none 0 0), (.slice none 0 0), (.int .i64 0)] [] fun t72_4 => s_changed_implNode.call #[t66_4, s12, t68_4] h fun t69_4 h => still1 t63_4 t64_4 h ∧ buildV [(.slice none 0 0), (.slice none 0 0), (.int .i64 0)] [(0, 1, t64_4), (1, 1, t69_4)] fun t70_4 => storeN 3 s8 t70_4 h fun h => storeN 2 s9 t71_4 h fun h => storeN 3 s10 t72_4 h fun h => loadN 3 s8 h fun r8_4 => loadN 2 s9 h fun r9_4 => loadN 3 s10 h fun r10_4 => Q (.tuple #[r8_4, r9_4, r10_4, (.bool false)]) h) (s_put.j8 s1 s6 s8 s9 s10 s12 t14 t16_3 t17_3 t18_4 h Q))) ∧ (alloc [(.slice none 0 0), (.slice none 0 0), (.int .i64 0)] 37 h fun t18_5 h => (alloc [(.slice none 0 0), (.slice none 0 0), (.int .i64 0)] 37 h fun t16_4 h => alloc [(.int .i64 0), (.int .i64 0)] 27 h fun t17_4 h => storeN 3 t16_4 t57 h fun h => storeN 2 t17_4 t58 h fun h => storeN 3 t18_5 t59 h fun h => notV t60 fun t62_5 => ifV t62_5 (fld 0 s6 fun t63_5 => load1 t63_5 h fun t64_5 => fld 1 s6 fun t65_5 => load1 t65_5 h fun t66_5 => loadN 3 t16_4 h fun t68_5 => buildV [(.int .i64 0), (.int .i64 0)] [] fun t71_5 => buildV [(.slice none 0 0), (.slice none 0 0), (.int .i64 0)] [] fun t72_5 => s_changed_implNode.call #[t66_5, s12, t68_5] h fun t69_5 h => still1 t63_5 t64_5 h ∧ buildV [(.slice none 0 0), (.slice none 0 0), (.int .i64 0)] [(0, 1, t64_5), (1, 1, t69_5)] fun t70_5 => storeN 3 s8 t70_5 h fun h => storeN 2 s9 t71_5 h fun h => storeN 3 s10 t72_5 h fun h => loadN 3 s8 h fun r8_5 => loadN 2 s9 h fun r9_5 => loadN 3 s10 h fun r10_5 => Q (.tuple #[r8_5, r9_5, r10_5, (.bool false)]) h) (s_put.j9 s1 s6 s8 s9 s10 s12 t14 t16_4 t17_4 t18_5 h Q)) ∧ (alloc [(.int .i64 0), (.int .i64 0)] 27 h fun t17_5 h => alloc [(.slice none 0 0), (.slice none 0 0), (.int .i64 0)] 37 h fun t16_5 h => storeN 3 t16_5 t57 h fun h => storeN 2 t17_5 t58 h fun h => storeN 3 t18_5 t59 h fun h => notV t60 fun t62_6 => ifV t62_6 (fld 0 s6 fun t63_6 => load1 t63_6 h fun t64_6 => fld 1 s6 fun t65_6 => load1 t65_6 h fun t66_6 => loadN 3 t16_5 h fun t68_6 => buildV [(.int .i64 0), (.int .i64 0)] [] fun t71_6 => buildV [(.slice none 0 0), (.slice none 0 0), (.int .i64 0)] [] fun t72_6 => s_changed_implNode.call #[t66_6, s12, t68_6] h fun t69_6 h => still1 t63_6 t64_6 h ∧ buildV [(.slice none 0 0), (.slice none 0 0), (.int .i64 0)] [(0, 1, t64_6), (1, 1, t69_6)] fun t70_6 => storeN 3 s8 t70_6 h fun h => storeN 2 s9 t71_6 h fun h => storeN 3 s10 t72_6 h fun h => loadN 3 s8 h fun r8_6 => loadN 2 s9 h fun r9_6 => loadN 3 s10 h fun r10_6 => Q (.tuple #[r8_6, r9_6, r10_6, (.bool false)]) h) (s_put.j10 s1 s6 s8 s9 s10 s12 t14 t16_5 t17_5 t18_5 h Q)))) ∧ (alloc [(.slice none 0 0), (.slice none 0 0), (.int .i64 0)] 37 h fun t16_6 h => still1 t50 t51 h ∧ stillN 3 t53 t54 h ∧ stillN 2 s7 t55 h ∧ (s_put.call #[s0, s1, t54, t55] h fun t56_2 h => extr 0 t56_2 fun t57_2 => extr 1 t56_2 fun t58_2 => extr 2 t56_2 fun t59_2 => extr 3 t56_2 fun t60_2 => (alloc [(.int .i64 0), (.int .i64 0)] 27 h fun t17_6 h => alloc [(.slice none 0 0), (.slice none 0 0), (.int .i64 0)] 37 h fun t18_6 h => storeN 3 t16_6 t57_2 h fun h => storeN 2 t17_6 t58_2 h fun h => storeN 3 t18_6 t59_2 h fun h => notV t60_2 fun t62_7 => ifV t62_7 (fld 0 s6 fun t63_7 => load1 t63_7 h fun t64_7 => fld 1 s6 fun t65_7 => load1 t65_7 h fun t66_7 => loadN 3 t16_6 h fun t68_7 => buildV [(.int .i64 0), (.int .i64 0)] [] fun t71_7 => buildV [(.slice none 0 0), (.slice none 0 0), (.int .i64 0)] [] fun t72_7 => s_changed_implNode.call #[t66_7, s12, t68_7] h fun t69_7 h => still1 t63_7 t64_7 h ∧ buildV [(.slice none 0 0), (.slice none 0 0), (.int .i64 0)] [(0, 1, t64_7), (1, 1, t69_7)] fun t70_7 => storeN 3 s8 t70_7 h fun h => storeN 2 s9 t71_7 h fun h => storeN 3 s10 t72_7 h fun h => loadN 3 s8 h fun r8_7 => loadN 2 s9 h fun r9_7 => loadN 3 s10 h fun r10_7 => Q (.tuple #[r8_7, r9_7, r10_7, (.bool false)]) h) (s_put.j11 s1 s6 s8 s9 s10 s12 t14 t16_6 t17_6 t18_6 h Q)) ∧ (alloc [(.slice none 0 0), (.slice none 0 0), (.int .i64 0)] 37 h fun t18_7 h => alloc [(.int .i64 0), (.int .i64 0)] 27 h fun t17_7 h => storeN 3 t16_6 t57_2 h fun h => storeN 2 t17_7 t58_2 h fun h => storeN 3 t18_7 t59_2 h fun h => notV t60_2 fun t62_8 => ifV t62_8 (fld 0 s6 fun t63_8 => load1 t63_8 h fun t64_8 => fld 1 s6 fun t65_8 => load1 t65_8 h fun t66_8 => loadN 3 t16_6 h fun t68_8 => buildV [(.int .i64 0), (.int .i64 0)] [] fun t71_8 => buildV [(.slice none 0 0), (.slice none 0 0), (.int .i64 0)] [] fun t72_8 => s_changed_implNode.call #[t66_8, s12, t68_8] h fun t69_8 h => still1 t63_8 t64_8 h ∧ buildV [(.slice none 0 0), (.slice none 0 0), (.int .i64 0)] [(0, 1, t64_8), (1, 1, t69_8)] fun t70_8 => storeN 3 s8 t70_8 h fun h => storeN 2 s9 t71_8 h fun h => storeN 3 s10 t72_8 h fun h => loadN 3 s8 h fun r8_8 => loadN 2 s9 h fun r9_8 => loadN 3 s10 h fun r10_8 => Q (.tuple #[r8_8, r9_8, r10_8, (.bool false)]) h) (s_put.j12 s1 s6 s8 s9 s10 s12 t14 t16_6 t17_7 t18_7 h Q))) ∧ (alloc [(.int .i64 0), (.int .i64 0)] 27 h fun t17_8 h => still1 t50 t51 h ∧ stillN 3 t53 t54 h ∧ stillN 2 s7 t55 h ∧ (s_put.call #[s0, s1, t54, t55] h fun t56_3 h => extr 0 t56_3 fun t57_3 => extr 1 t56_3 fun t58_3 => extr 2 t56_3 fun t59_3 => extr 3 t56_3 fun t60_3 => alloc [(.slice none 0 0), (.slice none 0 0), (.int .i64 0)] 37 h fun t18_8 h => storeN 3 t16_6 t57_3 h fun h => storeN 2 t17_8 t58_3 h fun h => storeN 3 t18_8 t59_3 h fun h => notV t60_3 fun t62_9 => ifV t62_9 (fld 0 s6 fun t63_9 => load1 t63_9 h fun t64_9 => fld 1 s6 fun t65_9 => load1 t65_9 h fun t66_9 => loadN 3 t16_6 h fun t68_9 => buildV [(.int .i64 0), (.int .i64 0)] [] fun t71_9 => buildV [(.slice none 0 0), (.slice none 0 0), (.int .i64 0)] [] fun t72_9 => s_changed_implNode.call #[t66_9, s12, t68_9] h fun t69_9 h => still1 t63_9 t64_9 h ∧ buildV [(.slice none 0 0), (.slice none 0 0), (.int .i64 0)] [(0, 1, t64_9), (1, 1, t69_9)] fun t70_9 => storeN 3 s8 t70_9 h fun h => storeN 2 s9 t71_9 h fun h => storeN 3 s10 t72_9 h fun h => loadN 3 s8 h fun r8_9 => loadN 2 s9 h fun r9_9 => loadN 3 s10 h fun r10_9 => Q (.tuple #[r8_9, r9_9, r10_9, (.bool false)]) h) (s_put.j13 s1 s6 s8 s9 s10 s12 t14 t16_6 t17_8 t18_8 h Q)) ∧ (alloc [(.slice none 0 0), (.slice none 0 0), (.int .i64 0)] 37 h fun t18_9 h => still1 t50 t51 h ∧ stillN 3 t53 t54 h ∧ stillN 2 s7 t55 h ∧ s_put.call #[s0, s1, t54, t55] h fun t56_4 h => extr 0 t56_4 fun t57_4 => extr 1 t56_4 fun t58_4 => extr 2 t56_4 fun t59_4 => extr 3 t56_4 fun t60_4 => storeN 3 t16_6 t57_4 h fun h => storeN 2 t17_8 t58_4 h fun h => storeN 3 t18_9 t59_4 h fun h => notV t60_4 fun t62_10 => ifV t62_10 (fld 0 s6 fun t63_10 => load1 t63_10 h fun t64_10 => fld 1 s6 fun t65_10 => load1 t65_10 h fun t66_10 => loadN 3 t16_6 h fun t68_10 => buildV [(.int .i64 0), (.int .i64 0)] [] fun t71_10 => buildV [(.slice none 0 0), (.slice none 0 0), (.int .i64 0)] [] fun t72_10 => s_changed_implNode.call #[t66_10, s12, t68_10] h fun t69_10 h => still1 t63_10 t64_10 h ∧ buildV [(.slice none 0 0), (.slice none 0 0), (.int .i64 0)] [(0, 1, t64_10), (1, 1, t69_10)] fun t70_10 => storeN 3 s8 t70_10 h fun h => storeN 2 s9 t71_10 h fun h => storeN 3 s10 t72_10 h fun h => loadN 3 s8 h fun r8_10 => loadN 2 s9 h fun r9_10 => loadN 3 s10 h fun r10_10 => Q (.tuple #[r8_10, r9_10, r10_10, (.bool false)]) h) (s_put.j14 s1 s6 s8 s9 s10 s12 t14 t16_6 t17_8 t18_9 h Q))) ∧ (alloc [(.slice none 0 0), (.slice none 0 0), (.int .i64 0)] 37 h fun t18_10 h => still1 t50 t51 h ∧ stillN 3 t53 t54 h ∧ stillN 2 s7 t55 h ∧ (s_put.call #[s0, s1, t54, t55] h fun t56_5 h => extr 0 t56_5 fun t57_5 => extr 1 t56_5 fun t58_5 => extr 2 t56_5 fun t59_5 => extr 3 t56_5 fun t60_5 => alloc [(.int .i64 0), (.int .i64 0)] 27 h fun t17_9 h => storeN 3 t16_6 t57_5 h fun h => storeN 2 t17_9 t58_5 h fun h => storeN 3 t18_10 t59_5 h fun h => notV t60_5 fun t62_11 => ifV t62_11 (fld 0 s6 fun t63_11 => load1 t63_11 h fun t64_11 => fld 1 s6 fun t65_11 => load1 t65_11 h fun t66_11 => loadN 3 t16_6 h fun t68_11 => buildV [(.int .i64 0), (.int .i64 0)] [] fun t71_11 => buildV [(.slice none 0 0), (.slice none 0 0), (.int .i64 0)] [] fun t72_11 => s_changed_implNode.call #[t66_11, s12, t68_11] h fun t69_11 h => still1 t63_11 t64_11 h ∧ buildV [(.slice none 0 0), (.slice none 0 0), (.int .i64 0)] [(0, 1, t64_11), (1, 1, t69_11)] fun t70_11 => storeN 3 s8 t70_11 h fun h => storeN 2 s9 t71_11 h fun h => storeN 3 s10 t72_11 h fun h => loadN 3 s8 h fun r8_11 => loadN 2 s9 h fun r9_11 => loadN 3 s10 h fun r10_11 => Q (.tuple #[r8_11, r9_11, r10_11, (.bool false)]) h) (s_put.j15 s1 s6 s8 s9 s10 s12 t14 t16_6 t17_9 t18_10 h Q)) ∧ (alloc [(.int .i64 0), (.int .i64 0)] 27 h fun t17_10 h => still1 t50 t51 h ∧ stillN 3 t53 t54 h ∧ stillN 2 s7 t55 h ∧ s_put.call #[s0, s1, t54, t55] h fun t56_6 h => extr 0 t56_6 fun t57_6 => extr 1 t56_6 fun t58_6 => extr 2 t56_6 fun t59_6 => extr 3 t56_6 fun t60_6 => storeN 3 t16_6 t57_6 h fun h => storeN 2 t17_10 t58_6 h fun h => storeN 3 t18_10 t59_6 h fun h => notV t60_6 fun t62_12 => ifV t62_12 (fld 0 s6 fun t63_12 => load1 t63_12 h fun t64_12 => fld 1 s6 fun t65_12 => load1 t65_12 h fun t66_12 => loadN 3 t16_6 h fun t68_12 => buildV [(.int .i64 0), (.int .i64 0)] [] fun t71_12 => buildV [(.slice none 0 0), (.slice none 0 0), (.int .i64 0)] [] fun t72_12 => s_changed_implNode.call #[t66_12, s12, t68_12] h fun t69_12 h => still1 t63_12 t64_12 h ∧ buildV [(.slice none 0 0), (.slice none 0 0), (.int .i64 0)] [(0, 1, t64_12), (1, 1, t69_12)] fun t70_12 => storeN 3 s8 t70_12 h fun h => storeN 2 s9 t71_12 h fun h => storeN 3 s10 t72_12 h fun h => loadN 3 s8 h fun r8_12 => loadN 2 s9 h fun r9_12 => loadN 3 s10 h fun r10_12 => Q (.tuple #[r8_12, r9_12, r10_12, (.bool false)]) h) (s_put.j16 s1 s6 s8 s9 s10 s12 t14 t16_6 t17_10 t18_10 h Q)))) ∧ (alloc [(.int .i64 0), (.int .i64 0)] 27 h fun t17_11 h => still1 t50 t51 h ∧ stillN 3 t53 t54 h ∧ stillN 2 s7 t55 h ∧ (s_put.call #[s0, s1, t54, t55] h fun t56_7 h => extr 0 t56_7 fun t57_7 => extr 1 t56_7 fun t58_7 => extr 2 t56_7 fun t59_7 => extr 3 t56_7 fun t60_7 => (alloc [(.slice none 0 0), (.slice none 0 0), (.int .i64 0)] 37 h fun t16_7 h => alloc [(.slice none 0 0), (.slice none 0 0), (.int .i64 0)] 37 h fun t18_11 h => storeN 3 t16_7 t57_7 h fun h => storeN 2 t17_11 t58_7 h fun h => storeN 3 t18_11 t59_7 h fun h => notV t60_7 fun t62_13 => ifV t62_13 (fld 0 s6 fun t63_13 => load1 t63_13 h fun t64_13 => fld 1 s6 fun t65_13 => load1 t65_13 h fun t66_13 => loadN 3 t16_7 h fun t68_13 => buildV [(.int .i64 0), (.int .i64 0)] [] fun t71_13 => buildV [(.slice none 0 0), (.slice none 0 0), (.int .i64 0)] [] fun t72_13 => s_changed_implNode.call #[t66_13, s12, t68_13] h fun t69_13 h => still1 t63_13 t64_13 h ∧ buildV [(.slice none 0 0), (.slice none 0 0), (.int .i64 0)] [(0, 1, t64_13), (1, 1, t69_13)] fun t70_13 => storeN 3 s8 t70_13 h fun h => storeN 2 s9 t71_13 h fun h => storeN 3 s10 t72_13 h fun h => loadN 3 s8 h fun r8_13 => loadN 2 s9 h fun r9_13 => loadN 3 s10 h fun r10_13 => Q (.tuple #[r8_13, r9_13, r10_13, (.bool false)]) h) (s_put.j17 s1 s6 s8 s9 s10 s12 t14 t16_7 t17_11 t18_11 h Q)) ∧ (alloc [(.slice none 0 0), (.slice none 0 0), (.int .i64 0)] 37 h fun t18_12 h => alloc [(.slice none 0 0), (.slice none 0 0), (.int .i64 0)] 37 h fun t16_8 h => storeN 3 t16_8 t57_7 h fun h => storeN 2 t17_11 t58_7 h fun h => storeN 3 t18_12 t59_7 h fun h => notV t60_7 fun t62_14 => ifV t62_14 (fld 0 s6 fun t63_14 => load1 t63_14 h fun t64_14 => fld 1 s6 fun t65_14 => load1 t65_14 h fun t66_14 => loadN 3 t16_8 h fun t68_14 => buildV [(.int .i64 0), (.int .i64 0)] [] fun t71_14 => buildV [(.slice none 0 0), (.slice none 0 0), (.int .i64 0)] [] fun t72_14 => s_changed_implNode.call #[t66_14, s12, t68_14] h fun t69_14 h => still1 t63_14 t64_14 h ∧ buildV [(.slice none 0 0), (.slice none 0 0), (.int .i64 0)] [(0, 1, t64_14), (1, 1, t69_14)] fun t70_14 => storeN 3 s8 t70_14 h fun h => storeN 2 s9 t71_14 h fun h => storeN 3 s10 t72_14 h fun h => loadN 3 s8 h fun r8_14 => loadN 2 s9 h fun r9_14 => loadN 3 s10 h fun r10_14 => Q (.tuple #[r8_14, r9_14, r10_14, (.bool false)]) h) (s_put.j18 s1 s6 s8 s9 s10 s12 t14 t16_8 t17_11 t18_12 h Q))) ∧ (alloc [(.slice none 0 0), (.slice none 0 0), (.int .i64 0)] 37 h fun t16_9 h => still1 t50 t51 h ∧ stillN 3 t53 t54 h ∧ stillN 2 s7 t55 h ∧ (s_put.call #[s0, s1, t54, t55] h fun t56_8 h => extr 0 t56_8 fun t57_8 => extr 1 t56_8 fun t58_8 => extr 2 t56_8 fun t59_8 => extr 3 t56_8 fun t60_8 => alloc [(.slice none 0 0), (.slice none 0 0), (.int .i64 0)] 37 h fun t18_13 h => storeN 3 t16_9 t57_8 h fun h => storeN 2 t17_11 t58_8 h fun h => storeN 3 t18_13 t59_8 h fun h => notV t60_8 fun t62_15 => ifV t62_15 (fld 0 s6 fun t63_15 => load1 t63_15 h fun t64_15 => fld 1 s6 fun t65_15 => load1 t65_15 h fun t66_15 => loadN 3 t16_9 h fun t68_15 => buildV [(.int .i64 0), (.int .i64 0)] [] fun t71_15 => buildV [(.slice none 0 0), (.slice none 0 0), (.int .i64 0)] [] fun t72_15 => s_changed_implNode.call #[t66_15, s12, t68_15] h fun t69_15 h => still1 t63_15 t64_15 h ∧ buildV [(.slice none 0 0), (.slice none 0 0), (.int .i64 0)] [(0, 1, t64_15), (1, 1, t69_15)] fun t70_15 => storeN 3 s8 t70_15 h fun h => storeN 2 s9 t71_15 h fun h => storeN 3 s10 t72_15 h fun h => loadN 3 s8 h fun r8_15 => loadN 2 s9 h fun r9_15 => loadN 3 s10 h fun r10_15 => Q (.tuple #[r8_15, r9_15, r10_15, (.bool false)]) h) (s_put.j19 s1 s6 s8 s9 s10 s12 t14 t16_9 t17_11 t18_13 h Q)) ∧ (alloc [(.slice none 0 0), (.slice none 0 0), (.int .i64 0)] 37 h fun t18_14 h => still1 t50 t51 h ∧ stillN 3 t53 t54 h ∧ stillN 2 s7 t55 h ∧ s_put.call #[s0, s1, t54, t55] h fun t56_9 h => extr 0 t56_9 fun t57_9 => extr 1 t56_9 fun t58_9 => extr 2 t56_9 fun t59_9 => extr 3 t56_9 fun t60_9 => storeN 3 t16_9 t57_9 h fun h => storeN 2 t17_11 t58_9 h fun h => storeN 3 t18_14 t59_9 h fun h => notV t60_9 fun t62_16 => ifV t62_16 (fld 0 s6 fun t63_16 => load1 t63_16 h fun t64_16 => fld 1 s6 fun t65_16 => load1 t65_16 h fun t66_16 => loadN 3 t16_9 h fun t68_16 => buildV [(.int .i64 0), (.int .i64 0)] [] fun t71_16 => buildV [(.slice none 0 0), (.slice none 0 0), (.int .i64 0)] [] fun t72_16 => s_changed_implNode.call #[t66_16, s12, t68_16] h fun t69_16 h => still1 t63_16 t64_16 h ∧ buildV [(.slice none 0 0), (.slice none 0 0), (.int .i64 0)] [(0, 1, t64_16), (1, 1, t69_16)] fun t70_16 => storeN 3 s8 t70_16 h fun h => storeN 2 s9 t71_16 h fun h => storeN 3 s10 t72_16 h fun h => loadN 3 s8 h fun r8_16 => loadN 2 s9 h fun r9_16 => loadN 3 s10 h fun r10_16 => Q (.tuple #[r8_16, r9_16, r10_16, (.bool false)]) h) (s_put.j20 s1 s6 s8 s9 s10 s12 t14 t16_9 t17_11 t18_14 h Q))) ∧ (alloc [(.slice none 0 0), (.slice none 0 0), (.int .i64 0)] 37 h fun t18_15 h => still1 t50 t51 h ∧ stillN 3 t53 t54 h ∧ stillN 2 s7 t55 h ∧ (s_put.call #[s0, s1, t54, t55] h fun t56_10 h => extr 0 t56_10 fun t57_10 => extr 1 t56_10 fun t58_10 => extr 2 t56_10 fun t59_10 => extr 3 t56_10 fun t60_10 => alloc [(.slice none 0 0), (.slice none 0 0), (.int .i64 0)] 37 h fun t16_10 h => storeN 3 t16_10 t57_10 h fun h => storeN 2 t17_11 t58_10 h fun h => storeN 3 t18_15 t59_10 h fun h => notV t60_10 fun t62_17 => ifV t62_17 (fld 0 s6 fun t63_17 => load1 t63_17 h fun t64_17 => fld 1 s6 fun t65_17 => load1 t65_17 h fun t66_17 => loadN 3 t16_10 h fun t68_17 => buildV [(.int .i64 0), (.int .i64 0)] [] fun t71_17 => buildV [(.slice none 0 0), (.slice none 0 0), (.int .i64 0)] [] fun t72_17 => s_changed_implNode.call #[t66_17, s12, t68_17] h fun t69_17 h => still1 t63_17 t64_17 h ∧ buildV [(.slice none 0 0), (.slice none 0 0), (.int .i64 0)] [(0, 1, t64_17), (1, 1, t69_17)] fun t70_17 => storeN 3 s8 t70_17 h fun h => storeN 2 s9 t71_17 h fun h => storeN 3 s10 t72_17 h fun h => loadN 3 s8 h fun r8_17 => loadN 2 s9 h fun r9_17 => loadN 3 s10 h fun r10_17 => Q (.tuple #[r8_17, r9_17, r10_17, (.bool false)]) h) (s_put.j21 s1 s6 s8 s9 s10 s12 t14 t16_10 t17_11 t18_15 h Q)) ∧ (alloc [(.slice none 0 0), (.slice none 0 0), (.int .i64 0)] 37 h fun t16_11 h => still1 t50 t51 h ∧ stillN 3 t53 t54 h ∧ stillN 2 s7 t55 h ∧ s_put.call #[s0, s1, t54, t55] h fun t56_11 h => extr 0 t56_11 fun t57_11 => extr 1 t56_11 fun t58_11 => extr 2 t56_11 fun t59_11 => extr 3 t56_11 fun t60_11 => storeN 3 t16_11 t57_11 h fun h => storeN 2 t17_11 t58_11 h fun h => storeN 3 t18_15 t59_11 h fun h => notV t60_11 fun t62_18 => ifV t62_18 (fld 0 s6 fun t63_18 => load1 t63_18 h fun t64_18 => fld 1 s6 fun t65_18 => load1 t65_18 h fun t66_18 => loadN 3 t16_11 h fun t68_18 => buildV [(.int .i64 0), (.int .i64 0)] [] fun t71_18 => buildV [(.slice none 0 0), (.slice none 0 0), (.int .i64 0)] [] fun t72_18 => s_changed_implNode.call #[t66_18, s12, t68_18] h fun t69_18 h => still1 t63_18 t64_18 h ∧ buildV [(.slice none 0 0), (.slice none 0 0), (.int .i64 0)] [(0, 1, t64_18), (1, 1, t69_18)] fun t70_18 => storeN 3 s8 t70_18 h fun h => storeN 2 s9 t71_18 h fun h => storeN 3 s10 t72_18 h fun h => loadN 3 s8 h fun r8_18 => loadN 2 s9 h fun r9_18 => loadN 3 s10 h fun r10_18 => Q (.tuple #[r8_18, r9_18, r10_18, (.bool false)]) h) (s_put.j22 s1 s6 s8 s9 s10 s12 t14 t16_11 t17_11 t18_15 h Q)))) ∧ (alloc [(.slice none 0 0), (.slice none 0 0), (.int .i64 0)] 37 h fun t18_16 h => still1 t50 t51 h ∧ stillN 3 t53 t54 h ∧ stillN 2 s7 t55 h ∧ (s_put.call #[s0, s1, t54, t55] h fun t56_12 h => extr 0 t56_12 fun t57_12 => extr 1 t56_12 fun t58_12 => extr 2 t56_12 fun t59_12 => extr 3 t56_12 fun t60_12 => (alloc [(.slice none 0 0), (.slice none 0 0), (.int .i64 0)] 37 h fun t16_12 h => alloc [(.int .i64 0), (.int .i64 0)] 27 h fun t17_12 h => storeN 3 t16_12 t57_12 h fun h => storeN 2 t17_12 t58_12 h fun h => storeN 3 t18_16 t59_12 h fun h => notV t60_12 fun t62_19 => ifV t62_19 (fld 0 s6 fun t63_19 => load1 t63_19 h fun t64_19 => fld 1 s6 fun t65_19 => load1 t65_19 h fun t66_19 => loadN 3 t16_12 h fun t68_19 => buildV [(.int .i64 0), (.int .i64 0)] [] fun t71_19 => buildV [(.slice none 0 0), (.slice none 0 0), (.int .i64 0)] [] fun t72_19 => s_changed_implNode.call #[t66_19, s12, t68_19] h fun t69_19 h => still1 t63_19 t64_19 h ∧ buildV [(.slice none 0 0), (.slice none 0 0), (.int .i64 0)] [(0, 1, t64_19), (1, 1, t69_19)] fun t70_19 => storeN 3 s8 t70_19 h fun h => storeN 2 s9 t71_19 h fun h => storeN 3 s10 t72_19 h fun h => loadN 3 s8 h fun r8_19 => loadN 2 s9 h fun r9_19 => loadN 3 s10 h fun r10_19 => Q (.tuple #[r8_19, r9_19, r10_19, (.bool false)]) h) (s_put.j23 s1 s6 s8 s9 s10 s12 t14 t16_12 t17_12 t18_16 h Q)) ∧ (alloc [(.int .i64 0), (.int .i64 0)] 27 h fun t17_13 h => alloc [(.slice none 0 0), (.slice none 0 0), (.int .i64 0)] 37 h fun t16_13 h => storeN 3 t16_13 t57_12 h fun h => storeN 2 t17_13 t58_12 h fun h => storeN 3 t18_16 t59_12 h fun h => notV t60_12 fun t62_20 => ifV t62_20 (fld 0 s6 fun t63_20 => load1 t63_20 h fun t64_20 => fld 1 s6 fun t65_20 => load1 t65_20 h fun t66_20 => loadN 3 t16_13 h fun t68_20 => buildV [(.int .i64 0), (.int .i64 0)] [] fun t71_20 => buildV [(.slice none 0 0), (.slice none 0 0), (.int .i64 0)] [] fun t72_20 => s_changed_implNode.call #[t66_20, s12, t68_20] h fun t69_20 h => still1 t63_20 t64_20 h ∧ buildV [(.slice none 0 0), (.slice none 0 0), (.int .i64 0)] [(0, 1, t64_20), (1, 1, t69_20)] fun t70_20 => storeN 3 s8 t70_20 h fun h => storeN 2 s9 t71_20 h fun h => storeN 3 s10 t72_20 h fun h => loadN 3 s8 h fun r8_20 => loadN 2 s9 h fun r9_20 => loadN 3 s10 h fun r10_20 => Q (.tuple #[r8_20, r9_20, r10_20, (.bool false)]) h) (s_put.j24 s1 s6 s8 s9 s10 s12 t14 t16_13 t17_13 t18_16 h Q))) ∧ (alloc [(.slice none 0 0), (.slice none 0 0), (.int .i64 0)] 37 h fun t16_14 h => still1 t50 t51 h ∧ stillN 3 t53 t54 h ∧ stillN 2 s7 t55 h ∧ (s_put.call #[s0, s1, t54, t55] h fun t56_13 h => extr 0 t56_13 fun t57_13 => extr 1 t56_13 fun t58_13 => extr 2 t56_13 fun t59_13 => extr 3 t56_13 fun t60_13 => alloc [(.int .i64 0), (.int .i64 0)] 27 h fun t17_14 h => storeN 3 t16_14 t57_13 h fun h => storeN 2 t17_14 t58_13 h fun h => storeN 3 t18_16 t59_13 h fun h => notV t60_13 fun t62_21 => ifV t62_21 (fld 0 s6 fun t63_21 => load1 t63_21 h fun t64_21 => fld 1 s6 fun t65_21 => load1 t65_21 h fun t66_21 => loadN 3 t16_14 h fun t68_21 => buildV [(.int .i64 0), (.int .i64 0)] [] fun t71_21 => buildV [(.slice none 0 0), (.slice none 0 0), (.int .i64 0)] [] fun t72_21 => s_changed_implNode.call #[t66_21, s12, t68_21] h fun t69_21 h => still1 t63_21 t64_21 h ∧ buildV [(.slice none 0 0), (.slice none 0 0), (.int .i64 0)] [(0, 1, t64_21), (1, 1, t69_21)] fun t70_21 => storeN 3 s8 t70_21 h fun h => storeN 2 s9 t71_21 h fun h => storeN 3 s10 t72_21 h fun h => loadN 3 s8 h fun r8_21 => loadN 2 s9 h fun r9_21 => loadN 3 s10 h fun r10_21 => Q (.tuple #[r8_21, r9_21, r10_21, (.bool false)]) h) (s_put.j25 s1 s6 s8 s9 s10 s12 t14 t16_14 t17_14 t18_16 h Q)) ∧ (alloc [(.int .i64 0), (.int .i64 0)] 27 h fun t17_15 h => still1 t50 t51 h ∧ stillN 3 t53 t54 h ∧ stillN 2 s7 t55 h ∧ s_put.call #[s0, s1, t54, t55] h fun t56_14 h => extr 0 t56_14 fun t57_14 => extr 1 t56_14 fun t58_14 => extr 2 t56_14 fun t59_14 => extr 3 t56_14 fun t60_14 => storeN 3 t16_14 t57_14 h fun h => storeN 2 t17_15 t58_14 h fun h => storeN 3 t18_16 t59_14 h fun h => notV t60_14 fun t62_22 => ifV t62_22 (fld 0 s6 fun t63_22 => load1 t63_22 h fun t64_22 => fld 1 s6 fun t65_22 => load1 t65_22 h fun t66_22 => loadN 3 t16_14 h fun t68_22 => buildV [(.int .i64 0), (.int .i64 0)] [] fun t71_22 => buildV [(.slice none 0 0), (.slice none 0 0), (.int .i64 0)] [] fun t72_22 => s_changed_implNode.call #[t66_22, s12, t68_22] h fun t69_22 h => still1 t63_22 t64_22 h ∧ buildV [(.slice none 0 0), (.slice none 0 0), (.int .i64 0)] [(0, 1, t64_22), (1, 1, t69_22)] fun t70_22 => storeN 3 s8 t70_22 h fun h => storeN 2 s9 t71_22 h fun h => storeN 3 s10 t72_22 h fun h => loadN 3 s8 h fun r8_22 => loadN 2 s9 h fun r9_22 => loadN 3 s10 h fun r10_22 => Q (.tuple #[r8_22, r9_22, r10_22, (.bool false)]) h) (s_put.j26 s1 s6 s8 s9 s10 s12 t14 t16_14 t17_15 t18_16 h Q))) ∧ (alloc [(.int .i64 0), (.int .i64 0)] 27 h fun t17_16 h => still1 t50 t51 h ∧ stillN 3 t53 t54 h ∧ stillN 2 s7 t55 h ∧ (s_put.call #[s0, s1, t54, t55] h fun t56_15 h => extr 0 t56_15 fun t57_15 => extr 1 t56_15 fun t58_15 => extr 2 t56_15 fun t59_15 => extr 3 t56_15 fun t60_15 => alloc [(.slice none 0 0), (.slice none 0 0), (.int .i64 0)] 37 h fun t16_15 h => storeN 3 t16_15 t57_15 h fun h => storeN 2 t17_16 t58_15 h fun h => storeN 3 t18_16 t59_15 h fun h => notV t60_15 fun t62_23 => ifV t62_23 (fld 0 s6 fun t63_23 => load1 t63_23 h fun t64_23 => fld 1 s6 fun t65_23 => load1 t65_23 h fun t66_23 => loadN 3 t16_15 h fun t68_23 => buildV [(.int .i64 0), (.int .i64 0)] [] fun t71_23 => buildV [(.slice none 0 0), (.slice none 0 0), (.int .i64 0)] [] fun t72_23 => s_changed_implNode.call #[t66_23, s12, t68_23] h fun t69_23 h => still1 t63_23 t64_23 h ∧ buildV [(.slice none 0 0), (.slice none 0 0), (.int .i64 0)] [(0, 1, t64_23), (1, 1, t69_23)] fun t70_23 => storeN 3 s8 t70_23 h fun h => storeN 2 s9 t71_23 h fun h => storeN 3 s10 t72_23 h fun h => loadN 3 s8 h fun r8_23 => loadN 2 s9 h fun r9_23 => loadN 3 s10 h fun r10_23 => Q (.tuple #[r8_23, r9_23, r10_23, (.bool false)]) h) (s_put.j27 s1 s6 s8 s9 s10 s12 t14 t16_15 t17_16 t18_16 h Q)) ∧ (alloc [(.slice none 0 0), (.slice none 0 0), (.int .i64 0)] 37 h fun t16_16 h => still1 t50 t51 h ∧ stillN 3 t53 t54 h ∧ stillN 2 s7 t55 h ∧ s_put.call #[s0, s1, t54, t55] h fun t56_16 h => extr 0 t56_16 fun t57_16 => extr 1 t56_16 fun t58_16 => extr 2 t56_16 fun t59_16 => extr 3 t56_16 fun t60_16 => storeN 3 t16_16 t57_16 h fun h => storeN 2 t17_16 t58_16 h fun h => storeN 3 t18_16 t59_16 h fun h => notV t60_16 fun t62_24 => ifV t62_24 (fld 0 s6 fun t63_24 => load1 t63_24 h fun t64_24 => fld 1 s6 fun t65_24 => load1 t65_24 h fun t66_24 => loadN 3 t16_16 h fun t68_24 => buildV [(.int .i64 0), (.int .i64 0)] [] fun t71_24 => buildV [(.slice none 0 0), (.slice none 0 0), (.int .i64 0)] [] fun t72_24 => s_changed_implNode.call #[t66_24, s12, t68_24] h fun t69_24 h => still1 t63_24 t64_24 h ∧ buildV [(.slice none 0 0), (.slice none 0 0), (.int .i64 0)] [(0, 1, t64_24), (1, 1, t69_24)] fun t70_24 => storeN 3 s8 t70_24 h fun h => storeN 2 s9 t71_24 h fun h => storeN 3 s10 t72_24 h fun h => loadN 3 s8 h fun r8_24 => loadN 2 s9 h fun r9_24 => loadN 3 s10 h fun r10_24 => Q (.tuple #[r8_24, r9_24, r10_24, (.bool false)]) h) (s_put.j28 s1 s6 s8 s9 s10 s12 t14 t16_16 t17_16 t18_16 h Q))))) (s_put.j2 s1 s6 s8 s9 s10 s12 t14 t42 h Q)
def s_put.sh (a0 a1 a2 a3 : Value) (h : Heap) (Q : Value → Heap → Prop) : Prop := box 37 a2 h fun t6 h => box 27 a3 h fun t7 h => alloc [(.slice none 0 0), (.slice none 0 0), (.int .i64 0)] 37 h fun t8 h => alloc [(.int .i64 0), (.int .i64 0)] 27 h fun t9 h => alloc [(.slice none 0 0), (.slice none 0 0), (.int .i64 0)] 37 h fun t10 h => loadN 3 t6 h fun t25 => loadN 2 t7 h fun t26 => s_child.call #[a0, t25, t26] h fun t27 h => extr 0 t27 fun t28 => extr 1 t27 fun t29 => ifV t29 (fld 0 t6 fun t31 => load1 t31 h fun t32 => loadN 2 t7 h fun t34 => fld 1 t6 fun t36 => load1 t36 h fun t37 => buildV [(.int .i64 0), (.int .i64 0)] [] fun t39 => buildV [(.slice none 0 0), (.slice none 0 0), (.int .i64 0)] [] fun t40 => s_changed_I.call #[t32, t28, t34] h fun t35 h => still1 t36 t37 h ∧ buildV [(.slice none 0 0), (.slice none 0 0), (.int .i64 0)] [(0, 1, t35), (1, 1, t37)] fun t38 => storeN 3 t8 t38 h fun h => storeN 2 t9 t39 h fun h => storeN 3 t10 t40 h fun h => loadN 3 t8 h fun r8 => loadN 2 t9 h fun r9 => loadN 3 t10 h fun r10 => Q (.tuple #[r8, r9, r10, (.bool false)]) h) (s_put.j1 a0 a1 t6 t7 t8 t9 t10 t28 h Q)
theorem s_put.body (a0 a1 a2 a3 : Value) (h : Heap) (Q : Value → Heap → Prop) (H : s_put.sh a0 a1 a2 a3 h Q) : s_put.call #[a0, a1, a2, a3] h Q := by
  refine callsH_of (args := [a0, a1, a2, a3]) Try.func80 rfl rfl ?_; unfold s_put.sh at H; refine WPc_seq' ?_; refine W_region (by kernel_rfl) ?_; refine vl_n ?_; refine H_box H fun t6 h H => ?_; refine vl_n ?_; refine H_box H fun t7 h H => ?_; refine vl_n ?_; refine H_alloc TV_37 H fun t8 h H => ?_; refine vl_n ?_; refine H_alloc TV_27 H fun t9 h H => ?_; refine vl_n ?_; refine H_alloc TV_37 H fun t10 h H => ?_; refine vl_n ?_; refine H_of_R (R_assign (v := (.bool false)) rfl ?_)
  refine vl_e ?_; refine WPc_seq' ?_; refine W_region (by kernel_rfl) ?_; refine vl_n ?_; refine H_of_R (R_move (v := a0) rfl ?_)
  refine vl_n ?_; refine H_of_R (R_loadN TN_37 H fun _ t25 _ _ H _ _ => ?_)
  refine vl_n ?_; refine H_of_R (R_loadN TN_27 H fun _ t26 _ _ H _ _ => ?_)
  refine vl_n ?_; refine H_call HB_117 H fun t27 h H => ?_; refine vl_n ?_; refine H_of_R (R_move (v := t27) rfl ?_)
  refine vl_n ?_; refine H_of_R (R_ext H fun t28 H => ?_)
  refine vl_n ?_; refine H_of_R (R_ext H fun t29 H => ?_)
  refine vl_n ?_; refine H_of_R (R_assign (v := t28) rfl ?_)
  refine vl_n ?_; refine H_of_R (R_assign (v := t29) rfl ?_)
  refine vl_e ?_; refine WPc_seq (fun e h => s_put.j1 (e 0) (e 1) (e 6) (e 7) (e 8) (e 9) (e 10) (e 12) h Q) ?_ (fun e h H => ?_)
  rotate_left
  · unfold s_put.j1 at H
    refine WPc_seq' ?_; refine W_region (by kernel_rfl) ?_; refine vl_n ?_; refine H_of_R (R_loadN TN_27 H fun _ t41 _ _ H _ _ => ?_)
    refine vl_n ?_; refine H_mkSl TZ_35 (by decide) rfl H rfl fun t42 h H => ?_; refine vl_n ?_; refine H_alloc TV_27 H fun t14 h H => ?_; refine vl_n ?_; refine H_storeN TS_27 H fun h H => ?_; refine vl_n ?_; refine H_of_R (R_assign (v := t42) rfl ?_)
    refine vl_e ?_; refine WPc_seq (fun e h => s_put.j2 (e 1) (e 6) (e 8) (e 9) (e 10) (e 12) (e 14) (e 15) h Q) ?_ (fun e h H => ?_)
    rotate_left
    · unfold s_put.j2 at H
      refine WPc_seq (fun e h => s_put.j3 (e 1) (e 6) (e 8) (e 9) (e 10) (e 12) (e 14) (e 15) h Q) ?_ (fun e h H => ?_)
      rotate_left
      · unfold s_put.j3 at H
        refine WPc_seq' ?_; refine W_region (by kernel_rfl) ?_; refine vl_n ?_; refine H_of_R (R_move (v := (e 1)) rfl ?_)
        refine vl_n ?_; refine H_of_R (R_loadN TN_37 H fun _ t93 _ _ H _ _ => ?_)
        refine vl_n ?_; refine H_call HB_121 H fun t94 h H => ?_; refine vl_n ?_; refine H_of_R (R_move (v := t94) rfl ?_)
        refine vl_n ?_; refine H_of_R (R_ext H fun t95 H => ?_)
        refine vl_n ?_; refine H_of_R (R_ext H fun t96 H => ?_)
        refine vl_n ?_; refine H_of_R (R_ext H fun t97 H => ?_)
        refine vl_n ?_; refine H_alloc TV_37 H fun t20 h H => ?_; refine vl_n ?_; refine H_alloc TV_27 H fun t21 h H => ?_; refine vl_n ?_; refine H_alloc TV_37 H fun t22 h H => ?_; refine vl_n ?_; refine H_storeN TS_37 H fun h H => ?_; refine vl_n ?_; refine H_storeN TS_27 H fun h H => ?_; refine vl_n ?_; refine H_storeN TS_37 H fun h H => ?_; refine vl_e ?_; refine WPc_seq (fun e h => s_put.j4 (e 1) (e 8) (e 9) (e 10) (e 12) (e 14) (e 15) (e 20) (e 21) (e 22) h Q) ?_ (fun e h H => ?_)
        rotate_left
        · unfold s_put.j4 at H
          refine WPc_seq' ?_; refine W_drawn [0, 0, 0, 0, 0, 24, 0, 0, 252, 509, 1023, 2047, 4095] (.take 0 (.take 1 (.take 2 (.take 3 (.take 4 (.take 5 (.take 6 (.take 7 (.alt 8 (.alt 9 (.alt 10 (.alt 11 (.take 12 .done) .none) .none) .none) .none))))))))) mixed (by kernel_rfl) ?_; refine tkL rfl ?_; refine R_loadN TN_37 H fun at108 xt108 hat108 _ H St108 hSt108 => ?_; refine tkL rfl ?_; refine R_loadN TN_27 H fun at109 xt109 hat109 _ H St109 hSt109 => ?_; refine tkL rfl ?_; refine R_loadN TN_37 H fun at110 xt110 hat110 _ H St110 hSt110 => ?_; refine tkP rfl ?_; refine R_move (v := (e 12)) rfl ⟨fun _ => trivial, ?_⟩
          refine tkP rfl ?_; refine R_move (v := (e 1)) rfl ⟨fun _ => trivial, ?_⟩
          refine tkP rfl ?_; refine R_sub H fun t113 H => ⟨fun _ => trivial, ?_⟩
          refine tkL rfl ?_; refine R_loadN TN_27 H fun at114 xt114 hat114 _ H St114 hSt114 => ?_; refine tkP rfl ?_; refine R_move (v := (e 15)) rfl ⟨fun _ => trivial, ?_⟩
          refine alt_n rfl ?_ vp_none
          refine H_call HB_120 H fun t116 h ⟨S, S_2, H⟩ => ⟨(hskip rfl (hskip rfl (hcons rfl (hSt109 _ (still_N S_2 hat109 rfl)) (hcons rfl (hSt108 _ (still_N S hat108 rfl)) hnil)))), ?_⟩
          refine alt_n rfl ?_ vp_none
          refine H_storeN TS_37 H fun h ⟨S_3, H⟩ => ⟨(hcons rfl (hSt109 _ (still_N S_3 hat109 rfl)) (hskip rfl hnil)), ?_⟩
          refine alt_n rfl ?_ vp_none
          refine H_storeN TS_27 H fun h H => ⟨(hskip rfl hnil), ?_⟩
          refine alt_n rfl ?_ vp_none
          refine H_storeN TS_37 H fun h H => ⟨hnil, ?_⟩
          refine tkP rfl ?_; refine R_assign (v := (.bool true)) rfl ⟨fun _ => trivial, ?_⟩
          refine vp_done ?_; refine WPc_ret ?_; refine resH_of rfl ?_; refine resL_N TN_37 ?_; refine loadN_imp H fun r8 H => ?_; refine resL_N TN_27 ?_; refine loadN_imp H fun r9 H => ?_; refine resL_N TN_37 ?_; refine loadN_imp H fun r10 H => ?_; refine resL_t ?_; exact H
        refine WPc_seq' ?_; refine W_region (by kernel_rfl) ?_; refine vl_n ?_; refine H_of_R (R_move (v := (e 12)) rfl ?_)
        refine vl_n ?_; refine H_of_R (R_move (v := (e 1)) rfl ?_)
        refine vl_n ?_; refine H_of_R (R_lss H fun t100 H => ?_)
        refine vl_e ?_; obtain ⟨b, hc, H1, H2⟩ := H; refine WPc_cond hc (fun hh => ?_) (fun hh => ?_)
        · have H := H1 hh; clear H1 H2
          refine WPc_seq' ?_; refine W_drawn [0, 0, 0, 0, 15, 0, 0, 31, 191, 511, 1023] (.take 0 (.take 1 (.take 2 (.take 3 (.take 5 (.take 6 (.alt 4 (.alt 7 (.alt 8 (.alt 9 (.take 10 .done) .none) .none) .none) .none))))))) mixed (by kernel_rfl) ?_; refine tkL rfl ?_; refine R_loadN TN_37 H fun at101 xt101 hat101 _ H St101 hSt101 => ?_; refine tkP rfl ?_; refine R_move (v := (e 12)) rfl ⟨fun _ => trivial, ?_⟩
          refine tkL rfl ?_; refine R_loadN TN_27 H fun at103 xt103 hat103 _ H St103 hSt103 => ?_; refine tkP rfl ?_; refine R_move (v := (e 15)) rfl ⟨fun _ => trivial, ?_⟩
          refine tkL rfl ?_; refine R_loadN TN_27 H fun at106 xt106 hat106 _ H St106 hSt106 => ?_; refine tkL rfl ?_; refine R_loadN TN_37 H fun at107 xt107 hat107 _ H St107 hSt107 => ?_; refine alt_n rfl ?_ vp_none
          refine H_call HB_120 H fun t105 h ⟨S, S_2, H⟩ => ⟨(hcons rfl (hSt107 _ (still_N S_2 hat107 rfl)) (hcons rfl (hSt106 _ (still_N S hat106 rfl)) (hskip rfl (hskip rfl hnil)))), ?_⟩
          refine alt_n rfl ?_ vp_none
          refine H_storeN TS_37 H fun h ⟨S_3, S_4, H⟩ => ⟨(hcons rfl (hSt107 _ (still_N S_4 hat107 rfl)) (hcons rfl (hSt106 _ (still_N S_3 hat106 rfl)) hnil)), ?_⟩
          refine alt_n rfl ?_ vp_none
          refine H_storeN TS_27 H fun h ⟨S_5, H⟩ => ⟨(hcons rfl (hSt107 _ (still_N S_5 hat107 rfl)) (hskip rfl hnil)), ?_⟩
          refine alt_n rfl ?_ vp_none
          refine H_storeN TS_37 H fun h H => ⟨(hskip rfl hnil), ?_⟩
          refine tkP rfl ?_; refine R_assign (v := (.bool true)) rfl ⟨fun _ => trivial, ?_⟩
          refine vp_done ?_; refine WPc_ret ?_; refine resH_of rfl ?_; refine resL_N TN_37 ?_; refine loadN_imp H fun r8 H => ?_; refine resL_N TN_27 ?_; refine loadN_imp H fun r9 H => ?_; refine resL_N TN_37 ?_; refine loadN_imp H fun r10 H => ?_; refine resL_t ?_; exact H
        · have H := H2 hh; clear H1 H2
          refine WPc_skip ?_; exact H
      refine WPc_seq' ?_; refine W_region (by kernel_rfl) ?_; refine vl_n ?_; refine H_of_R (R_fld TF_37_0 H fun t77 H => ?_)
      refine vl_n ?_; refine H_of_R (R_load1 T1_25 H fun _ t78 _ _ H => ?_)
      refine vl_n ?_; refine H_of_R (R_len Try.underlying25 H fun t79 H => ?_)
      refine vl_n ?_; refine H_of_R (R_move (v := (e 1)) rfl ?_)
      refine vl_n ?_; refine H_of_R (R_mul H fun t81 H => ?_)
      refine vl_n ?_; refine H_of_R (R_sub H fun t82 H => ?_)
      refine vl_n ?_; refine H_of_R (R_lss H fun t83 H => ?_)
      refine vl_e ?_; obtain ⟨b, hc, H1, H2⟩ := H; refine WPc_cond hc (fun hh => ?_) (fun hh => ?_)
      · have H := H1 hh; clear H1 H2
        refine WPc_seq' ?_; refine W_region (by kernel_rfl) ?_; refine vl_n ?_; refine H_of_R (R_loadN TN_37 H fun _ t84 _ _ H _ _ => ?_)
        refine vl_n ?_; refine H_of_R (R_move (v := (e 12)) rfl ?_)
        refine vl_n ?_; refine H_of_R (R_loadN TN_27 H fun _ t86 _ _ H _ _ => ?_)
        refine vl_n ?_; refine H_of_R (R_move (v := (e 15)) rfl ?_)
        refine vl_n ?_; refine H_call HB_120 H fun t88 h H => ?_; refine vl_n ?_; refine H_of_R (R_build TB_27 rfl (by decide) H fun t89 H => ?_)
        refine vl_n ?_; refine H_of_R (R_build TB_37 rfl (by decide) H fun t90 H => ?_)
        refine vl_n ?_; refine H_storeN TS_37 H fun h H => ?_; refine vl_n ?_; refine H_storeN TS_27 H fun h H => ?_; refine vl_n ?_; refine H_storeN TS_37 H fun h H => ?_; refine vl_n ?_; refine H_of_R (R_assign (v := (.bool false)) rfl ?_)
        refine vl_e ?_; refine WPc_ret ?_; refine resH_of rfl ?_; refine resL_N TN_37 ?_; refine loadN_imp H fun r8 H => ?_; refine resL_N TN_27 ?_; refine loadN_imp H fun r9 H => ?_; refine resL_N TN_37 ?_; refine loadN_imp H fun r10 H => ?_; refine resL_t ?_; exact H
      · have H := H2 hh; clear H1 H2
        refine WPc_skip ?_; exact H
    refine WPc_seq' ?_; refine W_region (by kernel_rfl) ?_; refine vl_n ?_; refine H_of_R (R_fld TF_37_1 H fun t43 H => ?_)
    refine vl_n ?_; refine H_of_R (R_load1 T1_35 H fun _ t44 _ _ H => ?_)
    refine vl_n ?_; refine H_of_R (R_len Try.underlying35 H fun t45 H => ?_)
    refine vl_n ?_; refine H_of_R (R_gtr H fun t46 H => ?_)
    refine vl_e ?_; obtain ⟨b, hc, H1, H2⟩ := H; refine WPc_cond hc (fun hh => ?_) (fun hh => ?_)
    · have H := H1 hh; clear H1 H2
      refine WPc_seq' ?_; refine W_drawn [0, 0, 0, 4, 0, 28, 60, 0, 255, 511, 1023, 1023, 1023, 1023, 0, 0, 0, 116735, 249855, 516095, 1048575] (.take 0 (.take 1 (.take 2 (.take 3 (.take 4 (.take 5 (.take 6 (.take 7 (.alt 8 (.take 9 (.take 10 (.take 11 (.take 12 (.take 13 (.alt 14 (.alt 15 (.alt 16 (.alt 17 (.alt 18 (.alt 19 (.take 20 .done) .none) .none) .none) .none) (.alt 16 (.alt 15 (.alt 17 (.alt 18 (.alt 19 (.take 20 .done) .none) .none) .none) .none) .none)) (.alt 15 (.alt 14 (.alt 16 (.alt 17 (.alt 18 (.alt 19 (.take 20 .done) .none) .none) .none) .none) (.alt 16 (.alt 14 (.alt 17 (.alt 18 (.alt 19 (.take 20 .done) .none) .none) .none) .none) .none)) (.alt 16 (.alt 14 (.alt 15 (.alt 17 (.alt 18 (.alt 19 (.take 20 .done) .none) .none) .none) .none) (.alt 15 (.alt 14 (.alt 17 (.alt 18 (.alt 19 (.take 20 .done) .none) .none) .none) .none) .none)) .none)))))))) (.alt 14 (.alt 8 (.take 9 (.take 10 (.take 11 (.take 12 (.take 13 (.alt 15 (.alt 16 (.alt 17 (.alt 18 (.alt 19 (.take 20 .done) .none) .none) .none) .none) (.alt 16 (.alt 15 (.alt 17 (.alt 18 (.alt 19 (.take 20 .done) .none) .none) .none) .none) .none))))))) (.alt 15 (.alt 8 (.take 9 (.take 10 (.take 11 (.take 12 (.take 13 (.alt 16 (.alt 17 (.alt 18 (.alt 19 (.take 20 .done) .none) .none) .none) .none)))))) (.alt 16 (.alt 8 (.take 9 (.take 10 (.take 11 (.take 12 (.take 13 (.alt 17 (.alt 18 (.alt 19 (.take 20 .done) .none) .none) .none)))))) .none) .none)) (.alt 16 (.alt 8 (.take 9 (.take 10 (.take 11 (.take 12 (.take 13 (.alt 15 (.alt 17 (.alt 18 (.alt 19 (.take 20 .done) .none) .none) .none) .none)))))) (.alt 15 (.alt 8 (.take 9 (.take 10 (.take 11 (.take 12 (.take 13 (.alt 17 (.alt 18 (.alt 19 (.take 20 .done) .none) .none) .none)))))) .none) .none)) .none))) (.alt 15 (.alt 8 (.take 9 (.take 10 (.take 11 (.take 12 (.take 13 (.alt 14 (.alt 16 (.alt 17 (.alt 18 (.alt 19 (.take 20 .done) .none) .none) .none) .none) (.alt 16 (.alt 14 (.alt 17 (.alt 18 (.alt 19 (.take 20 .done) .none) .none) .none) .none) .none))))))) (.alt 14 (.alt 8 (.take 9 (.take 10 (.take 11 (.take 12 (.take 13 (.alt 16 (.alt 17 (.alt 18 (.alt 19 (.take 20 .done) .none) .none) .none) .none)))))) (.alt 16 (.alt 8 (.take 9 (.take 10 (.take 11 (.take 12 (.take 13 (.alt 17 (.alt 18 (.alt 19 (.take 20 .done) .none) .none) .none)))))) .none) .none)) (.alt 16 (.alt 8 (.take 9 (.take 10 (.take 11 (.take 12 (.take 13 (.alt 14 (.alt 17 (.alt 18 (.alt 19 (.take 20 .done) .none) .none) .none) .none)))))) (.alt 14 (.alt 8 (.take 9 (.take 10 (.take 11 (.take 12 (.take 13 (.alt 17 (.alt 18 (.alt 19 (.take 20 .done) .none) .none) .none)))))) .none) .none)) .none))) (.alt 16 (.alt 8 (.take 9 (.take 10 (.take 11 (.take 12 (.take 13 (.alt 14 (.alt 15 (.alt 17 (.alt 18 (.alt 19 (.take 20 .done) .none) .none) .none) .none) (.alt 15 (.alt 14 (.alt 17 (.alt 18 (.alt 19 (.take 20 .done) .none) .none) .none) .none) .none))))))) (.alt 14 (.alt 8 (.take 9 (.take 10 (.take 11 (.take 12 (.take 13 (.alt 15 (.alt 17 (.alt 18 (.alt 19 (.take 20 .done) .none) .none) .none) .none)))))) (.alt 15 (.alt 8 (.take 9 (.take 10 (.take 11 (.take 12 (.take 13 (.alt 17 (.alt 18 (.alt 19 (.take 20 .done) .none) .none) .none)))))) .none) .none)) (.alt 15 (.alt 8 (.take 9 (.take 10 (.take 11 (.take 12 (.take 13 (.alt 14 (.alt 17 (.alt 18 (.alt 19 (.take 20 .done) .none) .none) .none) .none)))))) (.alt 14 (.alt 8 (.take 9 (.take 10 (.take 11 (.take 12 (.take 13 (.alt 17 (.alt 18 (.alt 19 (.take 20 .done) .none) .none) .none)))))) .none) .none)) .none))) .none)))))))))))) mixed (by kernel_rfl) ?_; refine tkP rfl ?_; refine R_move (v := (e 0)) rfl ⟨fun _ => trivial, ?_⟩
      refine tkP rfl ?_; refine R_move (v := (e 1)) rfl ⟨fun _ => trivial, ?_⟩
      refine tkP rfl ?_; refine R_fld TF_37_1 H fun t50 H => ⟨fun _ => trivial, ?_⟩
      refine tkL rfl ?_; refine R_load1 T1_35 H fun at51 t51 hat51 _ H => ?_; refine tkP rfl ?_; refine R_move (v := (e 12)) rfl ⟨fun _ => trivial, ?_⟩
      refine tkP rfl ?_; refine R_idx TE_35 H fun t53 H => ⟨fun _ => trivial, ?_⟩
      refine tkL rfl ?_; refine R_loadN TN_37 H fun at54 xt54 hat54 _ H St54 hSt54 => ?_; refine tkL rfl ?_; refine R_loadN TN_27 H fun at55 xt55 hat55 _ H St55 hSt55 => ?_; obtain ⟨HA0, HA1, HA2, HA3⟩ := H; refine alt_n rfl ?_ ?_
      · have H := HA0; clear HA0 HA1 HA2 HA3
        refine H_call HB_80 H fun t56 h H => ⟨(hskip rfl (hskip rfl (hskip rfl hnil))), ?_⟩
        refine tkP rfl ?_; refine R_move (v := t56) rfl ⟨fun _ => trivial, ?_⟩
        refine tkP rfl ?_; refine R_ext H fun t57 H => ⟨fun _ => trivial, ?_⟩
        refine tkP rfl ?_; refine R_ext H fun t58 H => ⟨fun _ => trivial, ?_⟩
        refine tkP rfl ?_; refine R_ext H fun t59 H => ⟨fun _ => trivial, ?_⟩
        refine tkP rfl ?_; refine R_ext H fun t60 H => ⟨fun _ => trivial, ?_⟩
        obtain ⟨HA0, HA1, HA2⟩ := H; refine alt_n rfl ?_ ?_
        · have H := HA0; clear HA0 HA1 HA2
          refine H_alloc TV_37 H fun t16 h H => ⟨hnil, ?_⟩
          obtain ⟨HA0, HA1⟩ := H; refine alt_n rfl ?_ ?_
          · have H := HA0; clear HA0 HA1
            refine H_alloc TV_27 H fun t17 h H => ⟨hnil, ?_⟩
            refine alt_n rfl ?_ vp_none
            refine H_alloc TV_37 H fun t18 h H => ⟨hnil, ?_⟩
            refine alt_n rfl ?_ vp_none
            refine H_storeN TS_37 H fun h H => ⟨hnil, ?_⟩
            refine alt_n rfl ?_ vp_none
            refine H_storeN TS_27 H fun h H => ⟨hnil, ?_⟩
            refine alt_n rfl ?_ vp_none
            refine H_storeN TS_37 H fun h H => ⟨hnil, ?_⟩
            refine tkP rfl ?_; refine R_assign (v := t60) rfl ⟨fun _ => trivial, ?_⟩
            refine vp_done ?_; refine WPc_seq (fun e h => s_put.j5 (e 1) (e 6) (e 8) (e 9) (e 10) (e 12) (e 14) (e 16) (e 17) (e 18) h Q) ?_ (fun e h H => ?_)
            rotate_left
            · unfold s_put.j5 at H
              refine W_drawn [0, 0, 0, 6, 1, 31] (.take 0 (.take 1 (.take 2 (.alt 3 (.alt 4 (.take 5 .done) .none) (.alt 4 (.alt 3 (.take 5 .done) .none) .none))))) mixed (by kernel_rfl) ?_; refine tkL rfl ?_; refine R_loadN TN_27 H fun at73 xt73 hat73 _ H St73 hSt73 => ?_; refine tkL rfl ?_; refine R_loadN TN_37 H fun at74 xt74 hat74 _ H St74 hSt74 => ?_; refine tkL rfl ?_; refine R_loadN TN_37 H fun at75 xt75 hat75 _ H St75 hSt75 => ?_; obtain ⟨HA0, HA1⟩ := H; refine alt_n rfl ?_ ?_
              · have H := HA0; clear HA0 HA1
                refine H_mkSl TZ_35 (by decide) rfl H rfl fun t76 h ⟨S, H⟩ => ⟨(hskip rfl (hskip rfl (hcons rfl (hSt73 _ (still_N S hat73 rfl)) hnil))), ?_⟩
                refine alt_n rfl ?_ vp_none
                refine H_storeN TS_27 H fun h H => ⟨(hskip rfl hnil), ?_⟩
                refine tkP rfl ?_; refine R_assign (v := t76) rfl ⟨fun _ => trivial, ?_⟩
                refine vp_done ?_; exact H
              refine alt_n rfl ?_ vp_none
              have H := HA1; clear HA0 HA1
              refine H_storeN TS_27 H fun h ⟨S_2, S_3, H⟩ => ⟨(hcons rfl (hSt75 _ (still_N S_3 hat75 rfl)) (hcons rfl (hSt74 _ (still_N S_2 hat74 rfl)) (hskip rfl hnil))), ?_⟩
              refine alt_n rfl ?_ vp_none
              refine H_mkSl TZ_35 (by decide) rfl H rfl fun t76_2 h H => ⟨(hskip rfl (hskip rfl hnil)), ?_⟩
              refine tkP rfl ?_; refine R_assign (v := t76_2) rfl ⟨fun _ => trivial, ?_⟩
              refine vp_done ?_; exact H
            refine WPc_seq' ?_; refine W_region (by kernel_rfl) ?_; refine vl_n ?_; refine H_of_R (R_move (v := t60) rfl ?_)
            refine vl_n ?_; refine H_of_R (R_not H fun t62 H => ?_)
            refine vl_e ?_; obtain ⟨b_2, hc_2, H1, H2⟩ := H; refine WPc_cond hc_2 (fun hh => ?_) (fun hh => ?_)
            · have H := H1 hh; clear H1 H2
              refine WPc_seq' ?_; refine W_drawn [0, 1, 0, 4, 0, 0, 60, 127, 0, 0, 255, 1535, 4095, 8191] (.take 0 (.take 1 (.take 2 (.take 3 (.take 4 (.take 5 (.take 8 (.take 9 (.alt 6 (.take 7 (.alt 10 (.alt 11 (.alt 12 (.take 13 .done) .none) .none) .none)) .none))))))))) mixed (by kernel_rfl) ?_; refine tkP rfl ?_; refine R_fld TF_37_0 H fun t63 H => ⟨fun _ => trivial, ?_⟩
              refine tkL rfl ?_; refine R_load1 T1_25 H fun at64 t64 hat64 _ H => ?_; refine tkP rfl ?_; refine R_fld TF_37_1 H fun t65 H => ⟨fun _ => trivial, ?_⟩
              refine tkL rfl ?_; refine R_load1 T1_35 H fun at66 t66 hat66 _ H => ?_; refine tkP rfl ?_; refine R_move (v := (e 12)) rfl ⟨fun _ => trivial, ?_⟩
              refine tkL rfl ?_; refine R_loadN TN_37 H fun at68 xt68 hat68 _ H St68 hSt68 => ?_; refine tkP rfl ?_; refine R_build TB_27 rfl (by decide) H fun t71 H => ⟨fun _ => trivial, ?_⟩
              refine tkP rfl ?_; refine R_build TB_37 rfl (by decide) H fun t72 H => ⟨fun _ => trivial, ?_⟩
              refine alt_n rfl ?_ vp_none
              refine H_call HB_119 H fun t69 h ⟨S, H⟩ => ⟨(hskip rfl (hskip rfl (hcons rfl (still_1 S hat64) hnil))), ?_⟩
              refine tkP rfl ?_; refine R_build TB_37 rfl (by decide) H fun t70 H => ⟨fun _ => trivial, ?_⟩
              refine alt_n rfl ?_ vp_none
              refine H_storeN TS_37 H fun h H => ⟨(hskip rfl hnil), ?_⟩
              refine alt_n rfl ?_ vp_none
              refine H_storeN TS_27 H fun h H => ⟨hnil, ?_⟩
              refine alt_n rfl ?_ vp_none
              refine H_storeN TS_37 H fun h H => ⟨hnil, ?_⟩
              refine tkP rfl ?_; refine R_assign (v := (.bool false)) rfl ⟨fun _ => trivial, ?_⟩
              refine vp_done ?_; refine WPc_ret ?_; refine resH_of rfl ?_; refine resL_N TN_37 ?_; refine loadN_imp H fun r8 H => ?_; refine resL_N TN_27 ?_; refine loadN_imp H fun r9 H => ?_; refine resL_N TN_37 ?_; refine loadN_imp H fun r10 H => ?_; refine resL_t ?_; exact H
            · have H := H2 hh; clear H1 H2
              refine WPc_skip ?_; exact H
          refine alt_n rfl ?_ vp_none
          have H := HA1; clear HA0 HA1
          refine H_alloc TV_37 H fun t18_2 h H => ⟨hnil, ?_⟩
          refine alt_n rfl ?_ vp_none
          refine H_alloc TV_27 H fun t17_2 h H => ⟨hnil, ?_⟩
          refine alt_n rfl ?_ vp_none
          refine H_storeN TS_37 H fun h H => ⟨hnil, ?_⟩
          refine alt_n rfl ?_ vp_none
          refine H_storeN TS_27 H fun h H => ⟨hnil, ?_⟩
          refine alt_n rfl ?_ vp_none
          refine H_storeN TS_37 H fun h H => ⟨hnil, ?_⟩
          refine tkP rfl ?_; refine R_assign (v := t60) rfl ⟨fun _ => trivial, ?_⟩
          refine vp_done ?_; refine WPc_seq (fun e h => s_put.j6 (e 1) (e 6) (e 8) (e 9) (e 10) (e 12) (e 14) (e 16) (e 17) (e 18) h Q) ?_ (fun e h H => ?_)
          rotate_left
          · unfold s_put.j6 at H
            refine W_drawn [0, 0, 0, 6, 1, 31] (.take 0 (.take 1 (.take 2 (.alt 3 (.alt 4 (.take 5 .done) .none) (.alt 4 (.alt 3 (.take 5 .done) .none) .none))))) mixed (by kernel_rfl) ?_; refine tkL rfl ?_; refine R_loadN TN_27 H fun at73 xt73 hat73 _ H St73 hSt73 => ?_; refine tkL rfl ?_; refine R_loadN TN_37 H fun at74 xt74 hat74 _ H St74 hSt74 => ?_; refine tkL rfl ?_; refine R_loadN TN_37 H fun at75 xt75 hat75 _ H St75 hSt75 => ?_; obtain ⟨HA0, HA1⟩ := H; refine alt_n rfl ?_ ?_
            · have H := HA0; clear HA0 HA1
              refine H_mkSl TZ_35 (by decide) rfl H rfl fun t76 h ⟨S, H⟩ => ⟨(hskip rfl (hskip rfl (hcons rfl (hSt73 _ (still_N S hat73 rfl)) hnil))), ?_⟩
              refine alt_n rfl ?_ vp_none
              refine H_storeN TS_27 H fun h H => ⟨(hskip rfl hnil), ?_⟩
              refine tkP rfl ?_; refine R_assign (v := t76) rfl ⟨fun _ => trivial, ?_⟩
              refine vp_done ?_; exact H
            refine alt_n rfl ?_ vp_none
            have H := HA1; clear HA0 HA1
            refine H_storeN TS_27 H fun h ⟨S_2, S_3, H⟩ => ⟨(hcons rfl (hSt75 _ (still_N S_3 hat75 rfl)) (hcons rfl (hSt74 _ (still_N S_2 hat74 rfl)) (hskip rfl hnil))), ?_⟩
            refine alt_n rfl ?_ vp_none
            refine H_mkSl TZ_35 (by decide) rfl H rfl fun t76_2 h H => ⟨(hskip rfl (hskip rfl hnil)), ?_⟩
            refine tkP rfl ?_; refine R_assign (v := t76_2) rfl ⟨fun _ => trivial, ?_⟩
            refine vp_done ?_; exact H
          refine WPc_seq' ?_; refine W_region (by kernel_rfl) ?_; refine vl_n ?_; refine H_of_R (R_move (v := t60) rfl ?_)
          refine vl_n ?_; refine H_of_R (R_not H fun t62_2 H => ?_)
          refine vl_e ?_; obtain ⟨b_3, hc_3, H1, H2⟩ := H; refine WPc_cond hc_3 (fun hh => ?_) (fun hh => ?_)
          · have H := H1 hh; clear H1 H2
            refine WPc_seq' ?_; refine W_drawn [0, 1, 0, 4, 0, 0, 60, 127, 0, 0, 255, 1535, 4095, 8191] (.take 0 (.take 1 (.take 2 (.take 3 (.take 4 (.take 5 (.take 8 (.take 9 (.alt 6 (.take 7 (.alt 10 (.alt 11 (.alt 12 (.take 13 .done) .none) .none) .none)) .none))))))))) mixed (by kernel_rfl) ?_; refine tkP rfl ?_; refine R_fld TF_37_0 H fun t63_2 H => ⟨fun _ => trivial, ?_⟩
            refine tkL rfl ?_; refine R_load1 T1_25 H fun at64_2 t64_2 hat64_2 _ H => ?_; refine tkP rfl ?_; refine R_fld TF_37_1 H fun t65_2 H => ⟨fun _ => trivial, ?_⟩
            refine tkL rfl ?_; refine R_load1 T1_35 H fun at66_2 t66_2 hat66_2 _ H => ?_; refine tkP rfl ?_; refine R_move (v := (e 12)) rfl ⟨fun _ => trivial, ?_⟩
            refine tkL rfl ?_; refine R_loadN TN_37 H fun at68_2 xt68_2 hat68_2 _ H St68_2 hSt68_2 => ?_; refine tkP rfl ?_; refine R_build TB_27 rfl (by decide) H fun t71_2 H => ⟨fun _ => trivial, ?_⟩
            refine tkP rfl ?_; refine R_build TB_37 rfl (by decide) H fun t72_2 H => ⟨fun _ => trivial, ?_⟩
            refine alt_n rfl ?_ vp_none
            refine H_call HB_119 H fun t69_2 h ⟨S_2, H⟩ => ⟨(hskip rfl (hskip rfl (hcons rfl (still_1 S_2 hat64_2) hnil))), ?_⟩
            refine tkP rfl ?_; refine R_build TB_37 rfl (by decide) H fun t70_2 H => ⟨fun _ => trivial, ?_⟩
            refine alt_n rfl ?_ vp_none
            refine H_storeN TS_37 H fun h H => ⟨(hskip rfl hnil), ?_⟩
            refine alt_n rfl ?_ vp_none
            refine H_storeN TS_27 H fun h H => ⟨hnil, ?_⟩
            refine alt_n rfl ?_ vp_none
            refine H_storeN TS_37 H fun h H => ⟨hnil, ?_⟩
            refine tkP rfl ?_; refine R_assign (v := (.bool false)) rfl ⟨fun _ => trivial, ?_⟩
            refine vp_done ?_; refine WPc_ret ?_; refine resH_of rfl ?_; refine resL_N TN_37 ?_; refine loadN_imp H fun r8_2 H => ?_; refine resL_N TN_27 ?_; refine loadN_imp H fun r9_2 H => ?_; refine resL_N TN_37 ?_; refine loadN_imp H fun r10_2 H => ?_; refine resL_t ?_; exact H
          · have H := H2 hh; clear H1 H2
            refine WPc_skip ?_; exact H
        refine alt_n rfl ?_ ?_
        · have H := HA1; clear HA0 HA1 HA2
          refine H_alloc TV_27 H fun t17_3 h H => ⟨hnil, ?_⟩
          obtain ⟨HA0, HA1⟩ := H; refine alt_n rfl ?_ ?_
          · have H := HA0; clear HA0 HA1
            refine H_alloc TV_37 H fun t16_2 h H => ⟨hnil, ?_⟩
            refine alt_n rfl ?_ vp_none
            refine H_alloc TV_37 H fun t18_3 h H => ⟨hnil, ?_⟩
            refine alt_n rfl ?_ vp_none
            refine H_storeN TS_37 H fun h H => ⟨hnil, ?_⟩
            refine alt_n rfl ?_ vp_none
            refine H_storeN TS_27 H fun h H => ⟨hnil, ?_⟩
            refine alt_n rfl ?_ vp_none
            refine H_storeN TS_37 H fun h H => ⟨hnil, ?_⟩
            refine tkP rfl ?_; refine R_assign (v := t60) rfl ⟨fun _ => trivial, ?_⟩
            refine vp_done ?_; refine WPc_seq (fun e h => s_put.j7 (e 1) (e 6) (e 8) (e 9) (e 10) (e 12) (e 14) (e 16) (e 17) (e 18) h Q) ?_ (fun e h H => ?_)
            rotate_left
            · unfold s_put.j7 at H
              refine W_drawn [0, 0, 0, 6, 1, 31] (.take 0 (.take 1 (.take 2 (.alt 3 (.alt 4 (.take 5 .done) .none) (.alt 4 (.alt 3 (.take 5 .done) .none) .none))))) mixed (by kernel_rfl) ?_; refine tkL rfl ?_; refine R_loadN TN_27 H fun at73 xt73 hat73 _ H St73 hSt73 => ?_; refine tkL rfl ?_; refine R_loadN TN_37 H fun at74 xt74 hat74 _ H St74 hSt74 => ?_; refine tkL rfl ?_; refine R_loadN TN_37 H fun at75 xt75 hat75 _ H St75 hSt75 => ?_; obtain ⟨HA0, HA1⟩ := H; refine alt_n rfl ?_ ?_
              · have H := HA0; clear HA0 HA1
                refine H_mkSl TZ_35 (by decide) rfl H rfl fun t76 h ⟨S, H⟩ => ⟨(hskip rfl (hskip rfl (hcons rfl (hSt73 _ (still_N S hat73 rfl)) hnil))), ?_⟩
                refine alt_n rfl ?_ vp_none
                refine H_storeN TS_27 H fun h H => ⟨(hskip rfl hnil), ?_⟩
                refine tkP rfl ?_; refine R_assign (v := t76) rfl ⟨fun _ => trivial, ?_⟩
                refine vp_done ?_; exact H
              refine alt_n rfl ?_ vp_none
              have H := HA1; clear HA0 HA1
              refine H_storeN TS_27 H fun h ⟨S_2, S_3, H⟩ => ⟨(hcons rfl (hSt75 _ (still_N S_3 hat75 rfl)) (hcons rfl (hSt74 _ (still_N S_2 hat74 rfl)) (hskip rfl hnil))), ?_⟩
              refine alt_n rfl ?_ vp_none
              refine H_mkSl TZ_35 (by decide) rfl H rfl fun t76_2 h H => ⟨(hskip rfl (hskip rfl hnil)), ?_⟩
              refine tkP rfl ?_; refine R_assign (v := t76_2) rfl ⟨fun _ => trivial, ?_⟩
              refine vp_done ?_; exact H
            refine WPc_seq' ?_; refine W_region (by kernel_rfl) ?_; refine vl_n ?_; refine H_of_R (R_move (v := t60) rfl ?_)
            refine vl_n ?_; refine H_of_R (R_not H fun t62_3 H => ?_)
            refine vl_e ?_; obtain ⟨b_4, hc_4, H1, H2⟩ := H; refine WPc_cond hc_4 (fun hh => ?_) (fun hh => ?_)
            · have H := H1 hh; clear H1 H2
              refine WPc_seq' ?_; refine W_drawn [0, 1, 0, 4, 0, 0, 60, 127, 0, 0, 255, 1535, 4095, 8191] (.take 0 (.take 1 (.take 2 (.take 3 (.take 4 (.take 5 (.take 8 (.take 9 (.alt 6 (.take 7 (.alt 10 (.alt 11 (.alt 12 (.take 13 .done) .none) .none) .none)) .none))))))))) mixed (by kernel_rfl) ?_; refine tkP rfl ?_; refine R_fld TF_37_0 H fun t63_3 H => ⟨fun _ => trivial, ?_⟩
              refine tkL rfl ?_; refine R_load1 T1_25 H fun at64_3 t64_3 hat64_3 _ H => ?_; refine tkP rfl ?_; refine R_fld TF_37_1 H fun t65_3 H => ⟨fun _ => trivial, ?_⟩
              refine tkL rfl ?_; refine R_load1 T1_35 H fun at66_3 t66_3 hat66_3 _ H => ?_; refine tkP rfl ?_; refine R_move (v := (e 12)) rfl ⟨fun _ => trivial, ?_⟩
              refine tkL rfl ?_; refine R_loadN TN_37 H fun at68_3 xt68_3 hat68_3 _ H St68_3 hSt68_3 => ?_; refine tkP rfl ?_; refine R_build TB_27 rfl (by decide) H fun t71_3 H => ⟨fun _ => trivial, ?_⟩
              refine tkP rfl ?_; refine R_build TB_37 rfl (by decide) H fun t72_3 H => ⟨fun _ => trivial, ?_⟩
              refine alt_n rfl ?_ vp_none
              refine H_call HB_119 H fun t69_3 h ⟨S_3, H⟩ => ⟨(hskip rfl (hskip rfl (hcons rfl (still_1 S_3 hat64_3) hnil))), ?_⟩
              refine tkP rfl ?_; refine R_build TB_37 rfl (by decide) H fun t70_3 H => ⟨fun _ => trivial, ?_⟩
              refine alt_n rfl ?_ vp_none
              refine H_storeN TS_37 H fun h H => ⟨(hskip rfl hnil), ?_⟩
              refine alt_n rfl ?_ vp_none
              refine H_storeN TS_27 H fun h H => ⟨hnil, ?_⟩
              refine alt_n rfl ?_ vp_none
              refine H_storeN TS_37 H fun h H => ⟨hnil, ?_⟩
              refine tkP rfl ?_; refine R_assign (v := (.bool false)) rfl ⟨fun _ => trivial, ?_⟩
              refine vp_done ?_; refine WPc_ret ?_; refine resH_of rfl ?_; refine resL_N TN_37 ?_; refine loadN_imp H fun r8_3 H => ?_; refine resL_N TN_27 ?_; refine loadN_imp H fun r9_3 H => ?_; refine resL_N TN_37 ?_; refine loadN_imp H fun r10_3 H => ?_; refine resL_t ?_; exact H
            · have H := H2 hh; clear H1 H2
              refine WPc_skip ?_; exact H
          refine alt_n rfl ?_ vp_none
          have H := HA1; clear HA0 HA1
          refine H_alloc TV_37 H fun t18_4 h H => ⟨hnil, ?_⟩
          refine alt_n rfl ?_ vp_none
          refine H_alloc TV_37 H fun t16_3 h H => ⟨hnil, ?_⟩
          refine alt_n rfl ?_ vp_none
          refine H_storeN TS_37 H fun h H => ⟨hnil, ?_⟩
          refine alt_n rfl ?_ vp_none
          refine H_storeN TS_27 H fun h H => ⟨hnil, ?_⟩
          refine alt_n rfl ?_ vp_none
          refine H_storeN TS_37 H fun h H => ⟨hnil, ?_⟩
          refine tkP rfl ?_; refine R_assign (v := t60) rfl ⟨fun _ => trivial, ?_⟩
          refine vp_done ?_; refine WPc_seq (fun e h => s_put.j8 (e 1) (e 6) (e 8) (e 9) (e 10) (e 12) (e 14) (e 16) (e 17) (e 18) h Q) ?_ (fun e h H => ?_)
          rotate_left
          · unfold s_put.j8 at H
            refine W_drawn [0, 0, 0, 6, 1, 31] (.take 0 (.take 1 (.take 2 (.alt 3 (.alt 4 (.take 5 .done) .none) (.alt 4 (.alt 3 (.take 5 .done) .none) .none))))) mixed (by kernel_rfl) ?_; refine tkL rfl ?_; refine R_loadN TN_27 H fun at73 xt73 hat73 _ H St73 hSt73 => ?_; refine tkL rfl ?_; refine R_loadN TN_37 H fun at74 xt74 hat74 _ H St74 hSt74 => ?_; refine tkL rfl ?_; refine R_loadN TN_37 H fun at75 xt75 hat75 _ H St75 hSt75 => ?_; obtain ⟨HA0, HA1⟩ := H; refine alt_n rfl ?_ ?_
            · have H := HA0; clear HA0 HA1
              refine H_mkSl TZ_35 (by decide) rfl H rfl fun t76 h ⟨S, H⟩ => ⟨(hskip rfl (hskip rfl (hcons rfl (hSt73 _ (still_N S hat73 rfl)) hnil))), ?_⟩
              refine alt_n rfl ?_ vp_none
              refine H_storeN TS_27 H fun h H => ⟨(hskip rfl hnil), ?_⟩
              refine tkP rfl ?_; refine R_assign (v := t76) rfl ⟨fun _ => trivial, ?_⟩
              refine vp_done ?_; exact H
            refine alt_n rfl ?_ vp_none
            have H := HA1; clear HA0 HA1
            refine H_storeN TS_27 H fun h ⟨S_2, S_3, H⟩ => ⟨(hcons rfl (hSt75 _ (still_N S_3 hat75 rfl)) (hcons rfl (hSt74 _ (still_N S_2 hat74 rfl)) (hskip rfl hnil))), ?_⟩
            refine alt_n rfl ?_ vp_none
            refine H_mkSl TZ_35 (by decide) rfl H rfl fun t76_2 h H => ⟨(hskip rfl (hskip rfl hnil)), ?_⟩
            refine tkP rfl ?_; refine R_assign (v := t76_2) rfl ⟨fun _ => trivial, ?_⟩
            refine vp_done ?_; exact H
          refine WPc_seq' ?_; refine W_region (by kernel_rfl) ?_; refine vl_n ?_; refine H_of_R (R_move (v := t60) rfl ?_)
          refine vl_n ?_; refine H_of_R (R_not H fun t62_4 H => ?_)
          refine vl_e ?_; obtain ⟨b_5, hc_5, H1, H2⟩ := H; refine WPc_cond hc_5 (fun hh => ?_) (fun hh => ?_)
          · have H := H1 hh; clear H1 H2
            refine WPc_seq' ?_; refine W_drawn [0, 1, 0, 4, 0, 0, 60, 127, 0, 0, 255, 1535, 4095, 8191] (.take 0 (.take 1 (.take 2 (.take 3 (.take 4 (.take 5 (.take 8 (.take 9 (.alt 6 (.take 7 (.alt 10 (.alt 11 (.alt 12 (.take 13 .done) .none) .none) .none)) .none))))))))) mixed (by kernel_rfl) ?_; refine tkP rfl ?_; refine R_fld TF_37_0 H fun t63_4 H => ⟨fun _ => trivial, ?_⟩
            refine tkL rfl ?_; refine R_load1 T1_25 H fun at64_4 t64_4 hat64_4 _ H => ?_; refine tkP rfl ?_; refine R_fld TF_37_1 H fun t65_4 H => ⟨fun _ => trivial, ?_⟩
            refine tkL rfl ?_; refine R_load1 T1_35 H fun at66_4 t66_4 hat66_4 _ H => ?_; refine tkP rfl ?_; refine R_move (v := (e 12)) rfl ⟨fun _ => trivial, ?_⟩
            refine tkL rfl ?_; refine R_loadN TN_37 H fun at68_4 xt68_4 hat68_4 _ H St68_4 hSt68_4 => ?_; refine tkP rfl ?_; refine R_build TB_27 rfl (by decide) H fun t71_4 H => ⟨fun _ => trivial, ?_⟩
            refine tkP rfl ?_; refine R_build TB_37 rfl (by decide) H fun t72_4 H => ⟨fun _ => trivial, ?_⟩
            refine alt_n rfl ?_ vp_none
            refine H_call HB_119 H fun t69_4 h ⟨S_4, H⟩ => ⟨(hskip rfl (hskip rfl (hcons rfl (still_1 S_4 hat64_4) hnil))), ?_⟩
            refine tkP rfl ?_; refine R_build TB_37 rfl (by decide) H fun t70_4 H => ⟨fun _ => trivial, ?_⟩
            refine alt_n rfl ?_ vp_none
            refine H_storeN TS_37 H fun h H => ⟨(hskip rfl hnil), ?_⟩
            refine alt_n rfl ?_ vp_none
            refine H_storeN TS_27 H fun h H => ⟨hnil, ?_⟩
            refine alt_n rfl ?_ vp_none
            refine H_storeN TS_37 H fun h H => ⟨hnil, ?_⟩
            refine tkP rfl ?_; refine R_assign (v := (.bool false)) rfl ⟨fun _ => trivial, ?_⟩
            refine vp_done ?_; refine WPc_ret ?_; refine resH_of rfl ?_; refine resL_N TN_37 ?_; refine loadN_imp H fun r8_4 H => ?_; refine resL_N TN_27 ?_; refine loadN_imp H fun r9_4 H => ?_; refine resL_N TN_37 ?_; refine loadN_imp H fun r10_4 H => ?_; refine resL_t ?_; exact H
          · have H := H2 hh; clear H1 H2
            refine WPc_skip ?_; exact H
        refine alt_n rfl ?_ vp_none
        have H := HA2; clear HA0 HA1 HA2
        refine H_alloc TV_37 H fun t18_5 h H => ⟨hnil, ?_⟩
        obtain ⟨HA0, HA1⟩ := H; refine alt_n rfl ?_ ?_
        · have H := HA0; clear HA0 HA1
          refine H_alloc TV_37 H fun t16_4 h H => ⟨hnil, ?_⟩
          refine alt_n rfl ?_ vp_none
          refine H_alloc TV_27 H fun t17_4 h H => ⟨hnil, ?_⟩
          refine alt_n rfl ?_ vp_none
          refine H_storeN TS_37 H fun h H => ⟨hnil, ?_⟩
          refine alt_n rfl ?_ vp_none
          refine H_storeN TS_27 H fun h H => ⟨hnil, ?_⟩
          refine alt_n rfl ?_ vp_none
          refine H_storeN TS_37 H fun h H => ⟨hnil, ?_⟩
          refine tkP rfl ?_; refine R_assign (v := t60) rfl ⟨fun _ => trivial, ?_⟩
          refine vp_done ?_; refine WPc_seq (fun e h => s_put.j9 (e 1) (e 6) (e 8) (e 9) (e 10) (e 12) (e 14) (e 16) (e 17) (e 18) h Q) ?_ (fun e h H => ?_)
          rotate_left
          · unfold s_put.j9 at H
            refine W_drawn [0, 0, 0, 6, 1, 31] (.take 0 (.take 1 (.take 2 (.alt 3 (.alt 4 (.take 5 .done) .none) (.alt 4 (.alt 3 (.take 5 .done) .none) .none))))) mixed (by kernel_rfl) ?_; refine tkL rfl ?_; refine R_loadN TN_27 H fun at73 xt73 hat73 _ H St73 hSt73 => ?_; refine tkL rfl ?_; refine R_loadN TN_37 H fun at74 xt74 hat74 _ H St74 hSt74 => ?_; refine tkL rfl ?_; refine R_loadN TN_37 H fun at75 xt75 hat75 _ H St75 hSt75 => ?_; obtain ⟨HA0, HA1⟩ := H; refine alt_n rfl ?_ ?_
            · have H := HA0; clear HA0 HA1
              refine H_mkSl TZ_35 (by decide) rfl H rfl fun t76 h ⟨S, H⟩ => ⟨(hskip rfl (hskip rfl (hcons rfl (hSt73 _ (still_N S hat73 rfl)) hnil))), ?_⟩
              refine alt_n rfl ?_ vp_none
              refine H_storeN TS_27 H fun h H => ⟨(hskip rfl hnil), ?_⟩
              refine tkP rfl ?_; refine R_assign (v := t76) rfl ⟨fun _ => trivial, ?_⟩
              refine vp_done ?_; exact H
            refine alt_n rfl ?_ vp_none
            have H := HA1; clear HA0 HA1
            refine H_storeN TS_27 H fun h ⟨S_2, S_3, H⟩ => ⟨(hcons rfl (hSt75 _ (still_N S_3 hat75 rfl)) (hcons rfl (hSt74 _ (still_N S_2 hat74 rfl)) (hskip rfl hnil))), ?_⟩
            refine alt_n rfl ?_ vp_none
            refine H_mkSl TZ_35 (by decide) rfl H rfl fun t76_2 h H => ⟨(hskip rfl (hskip rfl hnil)), ?_⟩
            refine tkP rfl ?_; refine R_assign (v := t76_2) rfl ⟨fun _ => trivial, ?_⟩
            refine vp_done ?_; exact H
          refine WPc_seq' ?_; refine W_region (by kernel_rfl) ?_; refine vl_n ?_; refine H_of_R (R_move (v := t60) rfl ?_)
          refine vl_n ?_; refine H_of_R (R_not H fun t62_5 H => ?_)
          refine vl_e ?_; obtain ⟨b_6, hc_6, H1, H2⟩ := H; refine WPc_cond hc_6 (fun hh => ?_) (fun hh => ?_)
          · have H := H1 hh; clear H1 H2
            refine WPc_seq' ?_; refine W_drawn [0, 1, 0, 4, 0, 0, 60, 127, 0, 0, 255, 1535, 4095, 8191] (.take 0 (.take 1 (.take 2 (.take 3 (.take 4 (.take 5 (.take 8 (.take 9 (.alt 6 (.take 7 (.alt 10 (.alt 11 (.alt 12 (.take 13 .done) .none) .none) .none)) .none))))))))) mixed (by kernel_rfl) ?_; refine tkP rfl ?_; refine R_fld TF_37_0 H fun t63_5 H => ⟨fun _ => trivial, ?_⟩
            refine tkL rfl ?_; refine R_load1 T1_25 H fun at64_5 t64_5 hat64_5 _ H => ?_; refine tkP rfl ?_; refine R_fld TF_37_1 H fun t65_5 H => ⟨fun _ => trivial, ?_⟩
            refine tkL rfl ?_; refine R_load1 T1_35 H fun at66_5 t66_5 hat66_5 _ H => ?_; refine tkP rfl ?_; refine R_move (v := (e 12)) rfl ⟨fun _ => trivial, ?_⟩
            refine tkL rfl ?_; refine R_loadN TN_37 H fun at68_5 xt68_5 hat68_5 _ H St68_5 hSt68_5 => ?_; refine tkP rfl ?_; refine R_build TB_27 rfl (by decide) H fun t71_5 H => ⟨fun _ => trivial, ?_⟩
            refine tkP rfl ?_; refine R_build TB_37 rfl (by decide) H fun t72_5 H => ⟨fun _ => trivial, ?_⟩
            refine alt_n rfl ?_ vp_none
            refine H_call HB_119 H fun t69_5 h ⟨S_5, H⟩ => ⟨(hskip rfl (hskip rfl (hcons rfl (still_1 S_5 hat64_5) hnil))), ?_⟩
            refine tkP rfl ?_; refine R_build TB_37 rfl (by decide) H fun t70_5 H => ⟨fun _ => trivial, ?_⟩
            refine alt_n rfl ?_ vp_none
            refine H_storeN TS_37 H fun h H => ⟨(hskip rfl hnil), ?_⟩
            refine alt_n rfl ?_ vp_none
            refine H_storeN TS_27 H fun h H => ⟨hnil, ?_⟩
            refine alt_n rfl ?_ vp_none
            refine H_storeN TS_37 H fun h H => ⟨hnil, ?_⟩
            refine tkP rfl ?_; refine R_assign (v := (.bool false)) rfl ⟨fun _ => trivial, ?_⟩
            refine vp_done ?_; refine WPc_ret ?_; refine resH_of rfl ?_; refine resL_N TN_37 ?_; refine loadN_imp H fun r8_5 H => ?_; refine resL_N TN_27 ?_; refine loadN_imp H fun r9_5 H => ?_; refine resL_N TN_37 ?_; refine loadN_imp H fun r10_5 H => ?_; refine resL_t ?_; exact H
          · have H := H2 hh; clear H1 H2
            refine WPc_skip ?_; exact H
        refine alt_n rfl ?_ vp_none
        have H := HA1; clear HA0 HA1
        refine H_alloc TV_27 H fun t17_5 h H => ⟨hnil, ?_⟩
        refine alt_n rfl ?_ vp_none
        refine H_alloc TV_37 H fun t16_5 h H => ⟨hnil, ?_⟩
        refine alt_n rfl ?_ vp_none
        refine H_storeN TS_37 H fun h H => ⟨hnil, ?_⟩
        refine alt_n rfl ?_ vp_none
        refine H_storeN TS_27 H fun h H => ⟨hnil, ?_⟩
        refine alt_n rfl ?_ vp_none
        refine H_storeN TS_37 H fun h H => ⟨hnil, ?_⟩
        refine tkP rfl ?_; refine R_assign (v := t60) rfl ⟨fun _ => trivial, ?_⟩
        refine vp_done ?_; refine WPc_seq (fun e h => s_put.j10 (e 1) (e 6) (e 8) (e 9) (e 10) (e 12) (e 14) (e 16) (e 17) (e 18) h Q) ?_ (fun e h H => ?_)
        rotate_left
        · unfold s_put.j10 at H
          refine W_drawn [0, 0, 0, 6, 1, 31] (.take 0 (.take 1 (.take 2 (.alt 3 (.alt 4 (.take 5 .done) .none) (.alt 4 (.alt 3 (.take 5 .done) .none) .none))))) mixed (by kernel_rfl) ?_; refine tkL rfl ?_; refine R_loadN TN_27 H fun at73 xt73 hat73 _ H St73 hSt73 => ?_; refine tkL rfl ?_; refine R_loadN TN_37 H fun at74 xt74 hat74 _ H St74 hSt74 => ?_; refine tkL rfl ?_; refine R_loadN TN_37 H fun at75 xt75 hat75 _ H St75 hSt75 => ?_; obtain ⟨HA0, HA1⟩ := H; refine alt_n rfl ?_ ?_
          · have H := HA0; clear HA0 HA1
            refine H_mkSl TZ_35 (by decide) rfl H rfl fun t76 h ⟨S, H⟩ => ⟨(hskip rfl (hskip rfl (hcons rfl (hSt73 _ (still_N S hat73 rfl)) hnil))), ?_⟩
            refine alt_n rfl ?_ vp_none
            refine H_storeN TS_27 H fun h H => ⟨(hskip rfl hnil), ?_⟩
            refine tkP rfl ?_; refine R_assign (v := t76) rfl ⟨fun _ => trivial, ?_⟩
            refine vp_done ?_; exact H
          refine alt_n rfl ?_ vp_none
          have H := HA1; clear HA0 HA1
          refine H_storeN TS_27 H fun h ⟨S_2, S_3, H⟩ => ⟨(hcons rfl (hSt75 _ (still_N S_3 hat75 rfl)) (hcons rfl (hSt74 _ (still_N S_2 hat74 rfl)) (hskip rfl hnil))), ?_⟩
          refine alt_n rfl ?_ vp_none
          refine H_mkSl TZ_35 (by decide) rfl H rfl fun t76_2 h H => ⟨(hskip rfl (hskip rfl hnil)), ?_⟩
          refine tkP rfl ?_; refine R_assign (v := t76_2) rfl ⟨fun _ => trivial, ?_⟩
          refine vp_done ?_; exact H
        refine WPc_seq' ?_; refine W_region (by kernel_rfl) ?_; refine vl_n ?_; refine H_of_R (R_move (v := t60) rfl ?_)
        refine vl_n ?_; refine H_of_R (R_not H fun t62_6 H => ?_)
        refine vl_e ?_; obtain ⟨b_7, hc_7, H1, H2⟩ := H; refine WPc_cond hc_7 (fun hh => ?_) (fun hh => ?_)
        · have H := H1 hh; clear H1 H2
          refine WPc_seq' ?_; refine W_drawn [0, 1, 0, 4, 0, 0, 60, 127, 0, 0, 255, 1535, 4095, 8191] (.take 0 (.take 1 (.take 2 (.take 3 (.take 4 (.take 5 (.take 8 (.take 9 (.alt 6 (.take 7 (.alt 10 (.alt 11 (.alt 12 (.take 13 .done) .none) .none) .none)) .none))))))))) mixed (by kernel_rfl) ?_; refine tkP rfl ?_; refine R_fld TF_37_0 H fun t63_6 H => ⟨fun _ => trivial, ?_⟩
          refine tkL rfl ?_; refine R_load1 T1_25 H fun at64_6 t64_6 hat64_6 _ H => ?_; refine tkP rfl ?_; refine R_fld TF_37_1 H fun t65_6 H => ⟨fun _ => trivial, ?_⟩
          refine tkL rfl ?_; refine R_load1 T1_35 H fun at66_6 t66_6 hat66_6 _ H => ?_; refine tkP rfl ?_; refine R_move (v := (e 12)) rfl ⟨fun _ => trivial, ?_⟩
          refine tkL rfl ?_; refine R_loadN TN_37 H fun at68_6 xt68_6 hat68_6 _ H St68_6 hSt68_6 => ?_; refine tkP rfl ?_; refine R_build TB_27 rfl (by decide) H fun t71_6 H => ⟨fun _ => trivial, ?_⟩
          refine tkP rfl ?_; refine R_build TB_37 rfl (by decide) H fun t72_6 H => ⟨fun _ => trivial, ?_⟩
          refine alt_n rfl ?_ vp_none
          refine H_call HB_119 H fun t69_6 h ⟨S_6, H⟩ => ⟨(hskip rfl (hskip rfl (hcons rfl (still_1 S_6 hat64_6) hnil))), ?_⟩
          refine tkP rfl ?_; refine R_build TB_37 rfl (by decide) H fun t70_6 H => ⟨fun _ => trivial, ?_⟩
          refine alt_n rfl ?_ vp_none
          refine H_storeN TS_37 H fun h H => ⟨(hskip rfl hnil), ?_⟩
          refine alt_n rfl ?_ vp_none
          refine H_storeN TS_27 H fun h H => ⟨hnil, ?_⟩
          refine alt_n rfl ?_ vp_none
          refine H_storeN TS_37 H fun h H => ⟨hnil, ?_⟩
          refine tkP rfl ?_; refine R_assign (v := (.bool false)) rfl ⟨fun _ => trivial, ?_⟩
          refine vp_done ?_; refine WPc_ret ?_; refine resH_of rfl ?_; refine resL_N TN_37 ?_; refine loadN_imp H fun r8_6 H => ?_; refine resL_N TN_27 ?_; refine loadN_imp H fun r9_6 H => ?_; refine resL_N TN_37 ?_; refine loadN_imp H fun r10_6 H => ?_; refine resL_t ?_; exact H
        · have H := H2 hh; clear H1 H2
          refine WPc_skip ?_; exact H
      refine alt_n rfl ?_ ?_
      · have H := HA1; clear HA0 HA1 HA2 HA3
        refine H_alloc TV_37 H fun t16_6 h ⟨S_7, S_8, S_9, H⟩ => ⟨(hcons rfl (hSt55 _ (still_N S_9 hat55 rfl)) (hcons rfl (hSt54 _ (still_N S_8 hat54 rfl)) (hcons rfl (still_1 S_7 hat51) hnil))), ?_⟩
        obtain ⟨HA0, HA1, HA2⟩ := H; refine alt_n rfl ?_ ?_
        · have H := HA0; clear HA0 HA1 HA2
          refine H_call HB_80 H fun t56_2 h H => ⟨(hskip rfl (hskip rfl (hskip rfl hnil))), ?_⟩
          refine tkP rfl ?_; refine R_move (v := t56_2) rfl ⟨fun _ => trivial, ?_⟩
          refine tkP rfl ?_; refine R_ext H fun t57_2 H => ⟨fun _ => trivial, ?_⟩
          refine tkP rfl ?_; refine R_ext H fun t58_2 H => ⟨fun _ => trivial, ?_⟩
          refine tkP rfl ?_; refine R_ext H fun t59_2 H => ⟨fun _ => trivial, ?_⟩
          refine tkP rfl ?_; refine R_ext H fun t60_2 H => ⟨fun _ => trivial, ?_⟩
          obtain ⟨HA0, HA1⟩ := H; refine alt_n rfl ?_ ?_
          · have H := HA0; clear HA0 HA1
            refine H_alloc TV_27 H fun t17_6 h H => ⟨hnil, ?_⟩
            refine alt_n rfl ?_ vp_none
            refine H_alloc TV_37 H fun t18_6 h H => ⟨hnil, ?_⟩
            refine alt_n rfl ?_ vp_none
            refine H_storeN TS_37 H fun h H => ⟨hnil, ?_⟩
            refine alt_n rfl ?_ vp_none
            refine H_storeN TS_27 H fun h H => ⟨hnil, ?_⟩
            refine alt_n rfl ?_ vp_none
            refine H_storeN TS_37 H fun h H => ⟨hnil, ?_⟩
            refine tkP rfl ?_; refine R_assign (v := t60_2) rfl ⟨fun _ => trivial, ?_⟩
            refine vp_done ?_; refine WPc_seq (fun e h => s_put.j11 (e 1) (e 6) (e 8) (e 9) (e 10) (e 12) (e 14) (e 16) (e 17) (e 18) h Q) ?_ (fun e h H => ?_)
            rotate_left
            · unfold s_put.j11 at H
              refine W_drawn [0, 0, 0, 6, 1, 31] (.take 0 (.take 1 (.take 2 (.alt 3 (.alt 4 (.take 5 .done) .none) (.alt 4 (.alt 3 (.take 5 .done) .none) .none))))) mixed (by kernel_rfl) ?_; refine tkL rfl ?_; refine R_loadN TN_27 H fun at73 xt73 hat73 _ H St73 hSt73 => ?_; refine tkL rfl ?_; refine R_loadN TN_37 H fun at74 xt74 hat74 _ H St74 hSt74 => ?_; refine tkL rfl ?_; refine R_loadN TN_37 H fun at75 xt75 hat75 _ H St75 hSt75 => ?_; obtain ⟨HA0, HA1⟩ := H; refine alt_n rfl ?_ ?_
              · have H := HA0; clear HA0 HA1
                refine H_mkSl TZ_35 (by decide) rfl H rfl fun t76 h ⟨S, H⟩ => ⟨(hskip rfl (hskip rfl (hcons rfl (hSt73 _ (still_N S hat73 rfl)) hnil))), ?_⟩
                refine alt_n rfl ?_ vp_none
                refine H_storeN TS_27 H fun h H => ⟨(hskip rfl hnil), ?_⟩
                refine tkP rfl ?_; refine R_assign (v := t76) rfl ⟨fun _ => trivial, ?_⟩
                refine vp_done ?_; exact H
              refine alt_n rfl ?_ vp_none
              have H := HA1; clear HA0 HA1
              refine H_storeN TS_27 H fun h ⟨S_2, S_3, H⟩ => ⟨(hcons rfl (hSt75 _ (still_N S_3 hat75 rfl)) (hcons rfl (hSt74 _ (still_N S_2 hat74 rfl)) (hskip rfl hnil))), ?_⟩
              refine alt_n rfl ?_ vp_none
              refine H_mkSl TZ_35 (by decide) rfl H rfl fun t76_2 h H => ⟨(hskip rfl (hskip rfl hnil)), ?_⟩
              refine tkP rfl ?_; refine R_assign (v := t76_2) rfl ⟨fun _ => trivial, ?_⟩
              refine vp_done ?_; exact H
            refine WPc_seq' ?_; refine W_region (by kernel_rfl) ?_; refine vl_n ?_; refine H_of_R (R_move (v := t60_2) rfl ?_)
            refine vl_n ?_; refine H_of_R (R_not H fun t62_7 H => ?_)
            refine vl_e ?_; obtain ⟨b_8, hc_8, H1, H2⟩ := H; refine WPc_cond hc_8 (fun hh => ?_) (fun hh => ?_)
            · have H := H1 hh; clear H1 H2
              refine WPc_seq' ?_; refine W_drawn [0, 1, 0, 4, 0, 0, 60, 127, 0, 0, 255, 1535, 4095, 8191] (.take 0 (.take 1 (.take 2 (.take 3 (.take 4 (.take 5 (.take 8 (.take 9 (.alt 6 (.take 7 (.alt 10 (.alt 11 (.alt 12 (.take 13 .done) .none) .none) .none)) .none))))))))) mixed (by kernel_rfl) ?_; refine tkP rfl ?_; refine R_fld TF_37_0 H fun t63_7 H => ⟨fun _ => trivial, ?_⟩
              refine tkL rfl ?_; refine R_load1 T1_25 H fun at64_7 t64_7 hat64_7 _ H => ?_; refine tkP rfl ?_; refine R_fld TF_37_1 H fun t65_7 H => ⟨fun _ => trivial, ?_⟩
              refine tkL rfl ?_; refine R_load1 T1_35 H fun at66_7 t66_7 hat66_7 _ H => ?_; refine tkP rfl ?_; refine R_move (v := (e 12)) rfl ⟨fun _ => trivial, ?_⟩
              refine tkL rfl ?_; refine R_loadN TN_37 H fun at68_7 xt68_7 hat68_7 _ H St68_7 hSt68_7 => ?_; refine tkP rfl ?_; refine R_build TB_27 rfl (by decide) H fun t71_7 H => ⟨fun _ => trivial, ?_⟩
              refine tkP rfl ?_; refine R_build TB_37 rfl (by decide) H fun t72_7 H => ⟨fun _ => trivial, ?_⟩
              refine alt_n rfl ?_ vp_none
              refine H_call HB_119 H fun t69_7 h ⟨S_10, H⟩ => ⟨(hskip rfl (hskip rfl (hcons rfl (still_1 S_10 hat64_7) hnil))), ?_⟩
              refine tkP rfl ?_; refine R_build TB_37 rfl (by decide) H fun t70_7 H => ⟨fun _ => trivial, ?_⟩
              refine alt_n rfl ?_ vp_none
              refine H_storeN TS_37 H fun h H => ⟨(hskip rfl hnil), ?_⟩
              refine alt_n rfl ?_ vp_none
              refine H_storeN TS_27 H fun h H => ⟨hnil, ?_⟩
              refine alt_n rfl ?_ vp_none
              refine H_storeN TS_37 H fun h H => ⟨hnil, ?_⟩
              refine tkP rfl ?_; refine R_assign (v := (.bool false)) rfl ⟨fun _ => trivial, ?_⟩
              refine vp_done ?_; refine WPc_ret ?_; refine resH_of rfl ?_; refine resL_N TN_37 ?_; refine loadN_imp H fun r8_7 H => ?_; refine resL_N TN_27 ?_; refine loadN_imp H fun r9_7 H => ?_; refine resL_N TN_37 ?_; refine loadN_imp H fun r10_7 H => ?_; refine resL_t ?_; exact H
            · have H := H2 hh; clear H1 H2
              refine WPc_skip ?_; exact H
          refine alt_n rfl ?_ vp_none
          have H := HA1; clear HA0 HA1
          refine H_alloc TV_37 H fun t18_7 h H => ⟨hnil, ?_⟩
          refine alt_n rfl ?_ vp_none
          refine H_alloc TV_27 H fun t17_7 h H => ⟨hnil, ?_⟩
          refine alt_n rfl ?_ vp_none
          refine H_storeN TS_37 H fun h H => ⟨hnil, ?_⟩
          refine alt_n rfl ?_ vp_none
          refine H_storeN TS_27 H fun h H => ⟨hnil, ?_⟩
          refine alt_n rfl ?_ vp_none
          refine H_storeN TS_37 H fun h H => ⟨hnil, ?_⟩
          refine tkP rfl ?_; refine R_assign (v := t60_2) rfl ⟨fun _ => trivial, ?_⟩
          refine vp_done ?_; refine WPc_seq (fun e h => s_put.j12 (e 1) (e 6) (e 8) (e 9) (e 10) (e 12) (e 14) (e 16) (e 17) (e 18) h Q) ?_ (fun e h H => ?_)
          rotate_left
          · unfold s_put.j12 at H
            refine W_drawn [0, 0, 0, 6, 1, 31] (.take 0 (.take 1 (.take 2 (.alt 3 (.alt 4 (.take 5 .done) .none) (.alt 4 (.alt 3 (.take 5 .done) .none) .none))))) mixed (by kernel_rfl) ?_; refine tkL rfl ?_; refine R_loadN TN_27 H fun at73 xt73 hat73 _ H St73 hSt73 => ?_; refine tkL rfl ?_; refine R_loadN TN_37 H fun at74 xt74 hat74 _ H St74 hSt74 => ?_; refine tkL rfl ?_; refine R_loadN TN_37 H fun at75 xt75 hat75 _ H St75 hSt75 => ?_; obtain ⟨HA0, HA1⟩ := H; refine alt_n rfl ?_ ?_
            · have H := HA0; clear HA0 HA1
              refine H_mkSl TZ_35 (by decide) rfl H rfl fun t76 h ⟨S, H⟩ => ⟨(hskip rfl (hskip rfl (hcons rfl (hSt73 _ (still_N S hat73 rfl)) hnil))), ?_⟩
              refine alt_n rfl ?_ vp_none
              refine H_storeN TS_27 H fun h H => ⟨(hskip rfl hnil), ?_⟩
              refine tkP rfl ?_; refine R_assign (v := t76) rfl ⟨fun _ => trivial, ?_⟩
              refine vp_done ?_; exact H
            refine alt_n rfl ?_ vp_none
            have H := HA1; clear HA0 HA1
            refine H_storeN TS_27 H fun h ⟨S_2, S_3, H⟩ => ⟨(hcons rfl (hSt75 _ (still_N S_3 hat75 rfl)) (hcons rfl (hSt74 _ (still_N S_2 hat74 rfl)) (hskip rfl hnil))), ?_⟩
            refine alt_n rfl ?_ vp_none
            refine H_mkSl TZ_35 (by decide) rfl H rfl fun t76_2 h H => ⟨(hskip rfl (hskip rfl hnil)), ?_⟩
            refine tkP rfl ?_; refine R_assign (v := t76_2) rfl ⟨fun _ => trivial, ?_⟩
            refine vp_done ?_; exact H
          refine WPc_seq' ?_; refine W_region (by kernel_rfl) ?_; refine vl_n ?_; refine H_of_R (R_move (v := t60_2) rfl ?_)
          refine vl_n ?_; refine H_of_R (R_not H fun t62_8 H => ?_)
          refine vl_e ?_; obtain ⟨b_9, hc_9, H1, H2⟩ := H; refine WPc_cond hc_9 (fun hh => ?_) (fun hh => ?_)
          · have H := H1 hh; clear H1 H2
            refine WPc_seq' ?_; refine W_drawn [0, 1, 0, 4, 0, 0, 60, 127, 0, 0, 255, 1535, 4095, 8191] (.take 0 (.take 1 (.take 2 (.take 3 (.take 4 (.take 5 (.take 8 (.take 9 (.alt 6 (.take 7 (.alt 10 (.alt 11 (.alt 12 (.take 13 .done) .none) .none) .none)) .none))))))))) mixed (by kernel_rfl) ?_; refine tkP rfl ?_; refine R_fld TF_37_0 H fun t63_8 H => ⟨fun _ => trivial, ?_⟩
            refine tkL rfl ?_; refine R_load1 T1_25 H fun at64_8 t64_8 hat64_8 _ H => ?_; refine tkP rfl ?_; refine R_fld TF_37_1 H fun t65_8 H => ⟨fun _ => trivial, ?_⟩
            refine tkL rfl ?_; refine R_load1 T1_35 H fun at66_8 t66_8 hat66_8 _ H => ?_; refine tkP rfl ?_; refine R_move (v := (e 12)) rfl ⟨fun _ => trivial, ?_⟩
            refine tkL rfl ?_; refine R_loadN TN_37 H fun at68_8 xt68_8 hat68_8 _ H St68_8 hSt68_8 => ?_; refine tkP rfl ?_; refine R_build TB_27 rfl (by decide) H fun t71_8 H => ⟨fun _ => trivial, ?_⟩
            refine tkP rfl ?_; refine R_build TB_37 rfl (by decide) H fun t72_8 H => ⟨fun _ => trivial, ?_⟩
            refine alt_n rfl ?_ vp_none
            refine H_call HB_119 H fun t69_8 h ⟨S_11, H⟩ => ⟨(hskip rfl (hskip rfl (hcons rfl (still_1 S_11 hat64_8) hnil))), ?_⟩
            refine tkP rfl ?_; refine R_build TB_37 rfl (by decide) H fun t70_8 H => ⟨fun _ => trivial, ?_⟩
            refine alt_n rfl ?_ vp_none
            refine H_storeN TS_37 H fun h H => ⟨(hskip rfl hnil), ?_⟩
            refine alt_n rfl ?_ vp_none
            refine H_storeN TS_27 H fun h H => ⟨hnil, ?_⟩
            refine alt_n rfl ?_ vp_none
            refine H_storeN TS_37 H fun h H => ⟨hnil, ?_⟩
            refine tkP rfl ?_; refine R_assign (v := (.bool false)) rfl ⟨fun _ => trivial, ?_⟩
            refine vp_done ?_; refine WPc_ret ?_; refine resH_of rfl ?_; refine resL_N TN_37 ?_; refine loadN_imp H fun r8_8 H => ?_; refine resL_N TN_27 ?_; refine loadN_imp H fun r9_8 H => ?_; refine resL_N TN_37 ?_; refine loadN_imp H fun r10_8 H => ?_; refine resL_t ?_; exact H
          · have H := H2 hh; clear H1 H2
            refine WPc_skip ?_; exact H
        refine alt_n rfl ?_ ?_
        · have H := HA1; clear HA0 HA1 HA2
          refine H_alloc TV_27 H fun t17_8 h ⟨S_12, S_13, S_14, H⟩ => ⟨(hcons rfl (hSt55 _ (still_N S_14 hat55 rfl)) (hcons rfl (hSt54 _ (still_N S_13 hat54 rfl)) (hcons rfl (still_1 S_12 hat51) hnil))), ?_⟩
          obtain ⟨HA0, HA1⟩ := H; refine alt_n rfl ?_ ?_
          · have H := HA0; clear HA0 HA1
            refine H_call HB_80 H fun t56_3 h H => ⟨(hskip rfl (hskip rfl (hskip rfl hnil))), ?_⟩
            refine tkP rfl ?_; refine R_move (v := t56_3) rfl ⟨fun _ => trivial, ?_⟩
            refine tkP rfl ?_; refine R_ext H fun t57_3 H => ⟨fun _ => trivial, ?_⟩
            refine tkP rfl ?_; refine R_ext H fun t58_3 H => ⟨fun _ => trivial, ?_⟩
            refine tkP rfl ?_; refine R_ext H fun t59_3 H => ⟨fun _ => trivial, ?_⟩
            refine tkP rfl ?_; refine R_ext H fun t60_3 H => ⟨fun _ => trivial, ?_⟩
            refine alt_n rfl ?_ vp_none
            refine H_alloc TV_37 H fun t18_8 h H => ⟨hnil, ?_⟩
            refine alt_n rfl ?_ vp_none
            refine H_storeN TS_37 H fun h H => ⟨hnil, ?_⟩
            refine alt_n rfl ?_ vp_none
            refine H_storeN TS_27 H fun h H => ⟨hnil, ?_⟩
            refine alt_n rfl ?_ vp_none
            refine H_storeN TS_37 H fun h H => ⟨hnil, ?_⟩
            refine tkP rfl ?_; refine R_assign (v := t60_3) rfl ⟨fun _ => trivial, ?_⟩
            refine vp_done ?_; refine WPc_seq (fun e h => s_put.j13 (e 1) (e 6) (e 8) (e 9) (e 10) (e 12) (e 14) (e 16) (e 17) (e 18) h Q) ?_ (fun e h H => ?_)
            rotate_left
            · unfold s_put.j13 at H
              refine W_drawn [0, 0, 0, 6, 1, 31] (.take 0 (.take 1 (.take 2 (.alt 3 (.alt 4 (.take 5 .done) .none) (.alt 4 (.alt 3 (.take 5 .done) .none) .none))))) mixed (by kernel_rfl) ?_; refine tkL rfl ?_; refine R_loadN TN_27 H fun at73 xt73 hat73 _ H St73 hSt73 => ?_; refine tkL rfl ?_; refine R_loadN TN_37 H fun at74 xt74 hat74 _ H St74 hSt74 => ?_; refine tkL rfl ?_; refine R_loadN TN_37 H fun at75 xt75 hat75 _ H St75 hSt75 => ?_; obtain ⟨HA0, HA1⟩ := H; refine alt_n rfl ?_ ?_
              · have H := HA0; clear HA0 HA1
                refine H_mkSl TZ_35 (by decide) rfl H rfl fun t76 h ⟨S, H⟩ => ⟨(hskip rfl (hskip rfl (hcons rfl (hSt73 _ (still_N S hat73 rfl)) hnil))), ?_⟩
                refine alt_n rfl ?_ vp_none
                refine H_storeN TS_27 H fun h H => ⟨(hskip rfl hnil), ?_⟩
                refine tkP rfl ?_; refine R_assign (v := t76) rfl ⟨fun _ => trivial, ?_⟩
                refine vp_done ?_; exact H
              refine alt_n rfl ?_ vp_none
              have H := HA1; clear HA0 HA1
              refine H_storeN TS_27 H fun h ⟨S_2, S_3, H⟩ => ⟨(hcons rfl (hSt75 _ (still_N S_3 hat75 rfl)) (hcons rfl (hSt74 _ (still_N S_2 hat74 rfl)) (hskip rfl hnil))), ?_⟩
              refine alt_n rfl ?_ vp_none
              refine H_mkSl TZ_35 (by decide) rfl H rfl fun t76_2 h H => ⟨(hskip rfl (hskip rfl hnil)), ?_⟩
              refine tkP rfl ?_; refine R_assign (v := t76_2) rfl ⟨fun _ => trivial, ?_⟩
              refine vp_done ?_; exact H
            refine WPc_seq' ?_; refine W_region (by kernel_rfl) ?_; refine vl_n ?_; refine H_of_R (R_move (v := t60_3) rfl ?_)
            refine vl_n ?_; refine H_of_R (R_not H fun t62_9 H => ?_)
            refine vl_e ?_; obtain ⟨b_10, hc_10, H1, H2⟩ := H; refine WPc_cond hc_10 (fun hh => ?_) (fun hh => ?_)
            · have H := H1 hh; clear H1 H2
              refine WPc_seq' ?_; refine W_drawn [0, 1, 0, 4, 0, 0, 60, 127, 0, 0, 255, 1535, 4095, 8191] (.take 0 (.take 1 (.take 2 (.take 3 (.take 4 (.take 5 (.take 8 (.take 9 (.alt 6 (.take 7 (.alt 10 (.alt 11 (.alt 12 (.take 13 .done) .none) .none) .none)) .none))))))))) mixed (by kernel_rfl) ?_; refine tkP rfl ?_; refine R_fld TF_37_0 H fun t63_9 H => ⟨fun _ => trivial, ?_⟩
              refine tkL rfl ?_; refine R_load1 T1_25 H fun at64_9 t64_9 hat64_9 _ H => ?_; refine tkP rfl ?_; refine R_fld TF_37_1 H fun t65_9 H => ⟨fun _ => trivial, ?_⟩
              refine tkL rfl ?_; refine R_load1 T1_35 H fun at66_9 t66_9 hat66_9 _ H => ?_; refine tkP rfl ?_; refine R_move (v := (e 12)) rfl ⟨fun _ => trivial, ?_⟩
              refine tkL rfl ?_; refine R_loadN TN_37 H fun at68_9 xt68_9 hat68_9 _ H St68_9 hSt68_9 => ?_; refine tkP rfl ?_; refine R_build TB_27 rfl (by decide) H fun t71_9 H => ⟨fun _ => trivial, ?_⟩
              refine tkP rfl ?_; refine R_build TB_37 rfl (by decide) H fun t72_9 H => ⟨fun _ => trivial, ?_⟩
              refine alt_n rfl ?_ vp_none
              refine H_call HB_119 H fun t69_9 h ⟨S_15, H⟩ => ⟨(hskip rfl (hskip rfl (hcons rfl (still_1 S_15 hat64_9) hnil))), ?_⟩
              refine tkP rfl ?_; refine R_build TB_37 rfl (by decide) H fun t70_9 H => ⟨fun _ => trivial, ?_⟩
              refine alt_n rfl ?_ vp_none
              refine H_storeN TS_37 H fun h H => ⟨(hskip rfl hnil), ?_⟩
              refine alt_n rfl ?_ vp_none
              refine H_storeN TS_27 H fun h H => ⟨hnil, ?_⟩
              refine alt_n rfl ?_ vp_none
              refine H_storeN TS_37 H fun h H => ⟨hnil, ?_⟩
              refine tkP rfl ?_; refine R_assign (v := (.bool false)) rfl ⟨fun _ => trivial, ?_⟩
              refine vp_done ?_; refine WPc_ret ?_; refine resH_of rfl ?_; refine resL_N TN_37 ?_; refine loadN_imp H fun r8_9 H => ?_; refine resL_N TN_27 ?_; refine loadN_imp H fun r9_9 H => ?_; refine resL_N TN_37 ?_; refine loadN_imp H fun r10_9 H => ?_; refine resL_t ?_; exact H
            · have H := H2 hh; clear H1 H2
              refine WPc_skip ?_; exact H
          refine alt_n rfl ?_ vp_none
          have H := HA1; clear HA0 HA1
          refine H_alloc TV_37 H fun t18_9 h ⟨S_16, S_17, S_18, H⟩ => ⟨(hcons rfl (hSt55 _ (still_N S_18 hat55 rfl)) (hcons rfl (hSt54 _ (still_N S_17 hat54 rfl)) (hcons rfl (still_1 S_16 hat51) hnil))), ?_⟩
          refine alt_n rfl ?_ vp_none
          refine H_call HB_80 H fun t56_4 h H => ⟨(hskip rfl (hskip rfl (hskip rfl hnil))), ?_⟩
          refine tkP rfl ?_; refine R_move (v := t56_4) rfl ⟨fun _ => trivial, ?_⟩
          refine tkP rfl ?_; refine R_ext H fun t57_4 H => ⟨fun _ => trivial, ?_⟩
          refine tkP rfl ?_; refine R_ext H fun t58_4 H => ⟨fun _ => trivial, ?_⟩
          refine tkP rfl ?_; refine R_ext H fun t59_4 H => ⟨fun _ => trivial, ?_⟩
          refine tkP rfl ?_; refine R_ext H fun t60_4 H => ⟨fun _ => trivial, ?_⟩
          refine alt_n rfl ?_ vp_none
          refine H_storeN TS_37 H fun h H => ⟨hnil, ?_⟩
          refine alt_n rfl ?_ vp_none
          refine H_storeN TS_27 H fun h H => ⟨hnil, ?_⟩
          refine alt_n rfl ?_ vp_none
          refine H_storeN TS_37 H fun h H => ⟨hnil, ?_⟩
          refine tkP rfl ?_; refine R_assign (v := t60_4) rfl ⟨fun _ => trivial, ?_⟩
          refine vp_done ?_; refine WPc_seq (fun e h => s_put.j14 (e 1) (e 6) (e 8) (e 9) (e 10) (e 12) (e 14) (e 16) (e 17) (e 18) h Q) ?_ (fun e h H => ?_)
          rotate_left
          · unfold s_put.j14 at H
            refine W_drawn [0, 0, 0, 6, 1, 31] (.take 0 (.take 1 (.take 2 (.alt 3 (.alt 4 (.take 5 .done) .none) (.alt 4 (.alt 3 (.take 5 .done) .none) .none))))) mixed (by kernel_rfl) ?_; refine tkL rfl ?_; refine R_loadN TN_27 H fun at73 xt73 hat73 _ H St73 hSt73 => ?_; refine tkL rfl ?_; refine R_loadN TN_37 H fun at74 xt74 hat74 _ H St74 hSt74 => ?_; refine tkL rfl ?_; refine R_loadN TN_37 H fun at75 xt75 hat75 _ H St75 hSt75 => ?_; obtain ⟨HA0, HA1⟩ := H; refine alt_n rfl ?_ ?_
            · have H := HA0; clear HA0 HA1
              refine H_mkSl TZ_35 (by decide) rfl H rfl fun t76 h ⟨S, H⟩ => ⟨(hskip rfl (hskip rfl (hcons rfl (hSt73 _ (still_N S hat73 rfl)) hnil))), ?_⟩
              refine alt_n rfl ?_ vp_none
              refine H_storeN TS_27 H fun h H => ⟨(hskip rfl hnil), ?_⟩
              refine tkP rfl ?_; refine R_assign (v := t76) rfl ⟨fun _ => trivial, ?_⟩
              refine vp_done ?_; exact H
            refine alt_n rfl ?_ vp_none
            have H := HA1; clear HA0 HA1
            refine H_storeN TS_27 H fun h ⟨S_2, S_3, H⟩ => ⟨(hcons rfl (hSt75 _ (still_N S_3 hat75 rfl)) (hcons rfl (hSt74 _ (still_N S_2 hat74 rfl)) (hskip rfl hnil))), ?_⟩
            refine alt_n rfl ?_ vp_none
            refine H_mkSl TZ_35 (by decide) rfl H rfl fun t76_2 h H => ⟨(hskip rfl (hskip rfl hnil)), ?_⟩
            refine tkP rfl ?_; refine R_assign (v := t76_2) rfl ⟨fun _ => trivial, ?_⟩
            refine vp_done ?_; exact H
          refine WPc_seq' ?_; refine W_region (by kernel_rfl) ?_; refine vl_n ?_; refine H_of_R (R_move (v := t60_4) rfl ?_)
          refine vl_n ?_; refine H_of_R (R_not H fun t62_10 H => ?_)
          refine vl_e ?_; obtain ⟨b_11, hc_11, H1, H2⟩ := H; refine WPc_cond hc_11 (fun hh => ?_) (fun hh => ?_)
          · have H := H1 hh; clear H1 H2
            refine WPc_seq' ?_; refine W_drawn [0, 1, 0, 4, 0, 0, 60, 127, 0, 0, 255, 1535, 4095, 8191] (.take 0 (.take 1 (.take 2 (.take 3 (.take 4 (.take 5 (.take 8 (.take 9 (.alt 6 (.take 7 (.alt 10 (.alt 11 (.alt 12 (.take 13 .done) .none) .none) .none)) .none))))))))) mixed (by kernel_rfl) ?_; refine tkP rfl ?_; refine R_fld TF_37_0 H fun t63_10 H => ⟨fun _ => trivial, ?_⟩
            refine tkL rfl ?_; refine R_load1 T1_25 H fun at64_10 t64_10 hat64_10 _ H => ?_; refine tkP rfl ?_; refine R_fld TF_37_1 H fun t65_10 H => ⟨fun _ => trivial, ?_⟩
            refine tkL rfl ?_; refine R_load1 T1_35 H fun at66_10 t66_10 hat66_10 _ H => ?_; refine tkP rfl ?_; refine R_move (v := (e 12)) rfl ⟨fun _ => trivial, ?_⟩
            refine tkL rfl ?_; refine R_loadN TN_37 H fun at68_10 xt68_10 hat68_10 _ H St68_10 hSt68_10 => ?_; refine tkP rfl ?_; refine R_build TB_27 rfl (by decide) H fun t71_10 H => ⟨fun _ => trivial, ?_⟩
            refine tkP rfl ?_; refine R_build TB_37 rfl (by decide) H fun t72_10 H => ⟨fun _ => trivial, ?_⟩
            refine alt_n rfl ?_ vp_none
            refine H_call HB_119 H fun t69_10 h ⟨S_19, H⟩ => ⟨(hskip rfl (hskip rfl (hcons rfl (still_1 S_19 hat64_10) hnil))), ?_⟩
            refine tkP rfl ?_; refine R_build TB_37 rfl (by decide) H fun t70_10 H => ⟨fun _ => trivial, ?_⟩
            refine alt_n rfl ?_ vp_none
            refine H_storeN TS_37 H fun h H => ⟨(hskip rfl hnil), ?_⟩
            refine alt_n rfl ?_ vp_none
            refine H_storeN TS_27 H fun h H => ⟨hnil, ?_⟩
            refine alt_n rfl ?_ vp_none
            refine H_storeN TS_37 H fun h H => ⟨hnil, ?_⟩
            refine tkP rfl ?_; refine R_assign (v := (.bool false)) rfl ⟨fun _ => trivial, ?_⟩
            refine vp_done ?_; refine WPc_ret ?_; refine resH_of rfl ?_; refine resL_N TN_37 ?_; refine loadN_imp H fun r8_10 H => ?_; refine resL_N TN_27 ?_; refine loadN_imp H fun r9_10 H => ?_; refine resL_N TN_37 ?_; refine loadN_imp H fun r10_10 H => ?_; refine resL_t ?_; exact H
          · have H := H2 hh; clear H1 H2
            refine WPc_skip ?_; exact H
        refine alt_n rfl ?_ vp_none
        have H := HA2; clear HA0 HA1 HA2
        refine H_alloc TV_37 H fun t18_10 h ⟨S_20, S_21, S_22, H⟩ => ⟨(hcons rfl (hSt55 _ (still_N S_22 hat55 rfl)) (hcons rfl (hSt54 _ (still_N S_21 hat54 rfl)) (hcons rfl (still_1 S_20 hat51) hnil))), ?_⟩
        obtain ⟨HA0, HA1⟩ := H; refine alt_n rfl ?_ ?_
        · have H := HA0; clear HA0 HA1
          refine H_call HB_80 H fun t56_5 h H => ⟨(hskip rfl (hskip rfl (hskip rfl hnil))), ?_⟩
          refine tkP rfl ?_; refine R_move (v := t56_5) rfl ⟨fun _ => trivial, ?_⟩
          refine tkP rfl ?_; refine R_ext H fun t57_5 H => ⟨fun _ => trivial, ?_⟩
          refine tkP rfl ?_; refine R_ext H fun t58_5 H => ⟨fun _ => trivial, ?_⟩
          refine tkP rfl ?_; refine R_ext H fun t59_5 H => ⟨fun _ => trivial, ?_⟩
          refine tkP rfl ?_; refine R_ext H fun t60_5 H => ⟨fun _ => trivial, ?_⟩
          refine alt_n rfl ?_ vp_none
          refine H_alloc TV_27 H fun t17_9 h H => ⟨hnil, ?_⟩
          refine alt_n rfl ?_ vp_none
          refine H_storeN TS_37 H fun h H => ⟨hnil, ?_⟩
          refine alt_n rfl ?_ vp_none
          refine H_storeN TS_27 H fun h H => ⟨hnil, ?_⟩
          refine alt_n rfl ?_ vp_none
          refine H_storeN TS_37 H fun h H => ⟨hnil, ?_⟩
          refine tkP rfl ?_; refine R_assign (v := t60_5) rfl ⟨fun _ => trivial, ?_⟩
          refine vp_done ?_; refine WPc_seq (fun e h => s_put.j15 (e 1) (e 6) (e 8) (e 9) (e 10) (e 12) (e 14) (e 16) (e 17) (e 18) h Q) ?_ (fun e h H => ?_)
          rotate_left
          · unfold s_put.j15 at H
            refine W_drawn [0, 0, 0, 6, 1, 31] (.take 0 (.take 1 (.take 2 (.alt 3 (.alt 4 (.take 5 .done) .none) (.alt 4 (.alt 3 (.take 5 .done) .none) .none))))) mixed (by kernel_rfl) ?_; refine tkL rfl ?_; refine R_loadN TN_27 H fun at73 xt73 hat73 _ H St73 hSt73 => ?_; refine tkL rfl ?_; refine R_loadN TN_37 H fun at74 xt74 hat74 _ H St74 hSt74 => ?_; refine tkL rfl ?_; refine R_loadN TN_37 H fun at75 xt75 hat75 _ H St75 hSt75 => ?_; obtain ⟨HA0, HA1⟩ := H; refine alt_n rfl ?_ ?_
            · have H := HA0; clear HA0 HA1
              refine H_mkSl TZ_35 (by decide) rfl H rfl fun t76 h ⟨S, H⟩ => ⟨(hskip rfl (hskip rfl (hcons rfl (hSt73 _ (still_N S hat73 rfl)) hnil))), ?_⟩
              refine alt_n rfl ?_ vp_none
              refine H_storeN TS_27 H fun h H => ⟨(hskip rfl hnil), ?_⟩
              refine tkP rfl ?_; refine R_assign (v := t76) rfl ⟨fun _ => trivial, ?_⟩
              refine vp_done ?_; exact H
            refine alt_n rfl ?_ vp_none
            have H := HA1; clear HA0 HA1
            refine H_storeN TS_27 H fun h ⟨S_2, S_3, H⟩ => ⟨(hcons rfl (hSt75 _ (still_N S_3 hat75 rfl)) (hcons rfl (hSt74 _ (still_N S_2 hat74 rfl)) (hskip rfl hnil))), ?_⟩
            refine alt_n rfl ?_ vp_none
            refine H_mkSl TZ_35 (by decide) rfl H rfl fun t76_2 h H => ⟨(hskip rfl (hskip rfl hnil)), ?_⟩
            refine tkP rfl ?_; refine R_assign (v := t76_2) rfl ⟨fun _ => trivial, ?_⟩
            refine vp_done ?_; exact H
          refine WPc_seq' ?_; refine W_region (by kernel_rfl) ?_; refine vl_n ?_; refine H_of_R (R_move (v := t60_5) rfl ?_)
          refine vl_n ?_; refine H_of_R (R_not H fun t62_11 H => ?_)
          refine vl_e ?_; obtain ⟨b_12, hc_12, H1, H2⟩ := H; refine WPc_cond hc_12 (fun hh => ?_) (fun hh => ?_)
          · have H := H1 hh; clear H1 H2
            refine WPc_seq' ?_; refine W_drawn [0, 1, 0, 4, 0, 0, 60, 127, 0, 0, 255, 1535, 4095, 8191] (.take 0 (.take 1 (.take 2 (.take 3 (.take 4 (.take 5 (.take 8 (.take 9 (.alt 6 (.take 7 (.alt 10 (.alt 11 (.alt 12 (.take 13 .done) .none) .none) .none)) .none))))))))) mixed (by kernel_rfl) ?_; refine tkP rfl ?_; refine R_fld TF_37_0 H fun t63_11 H => ⟨fun _ => trivial, ?_⟩
            refine tkL rfl ?_; refine R_load1 T1_25 H fun at64_11 t64_11 hat64_11 _ H => ?_; refine tkP rfl ?_; refine R_fld TF_37_1 H fun t65_11 H => ⟨fun _ => trivial, ?_⟩
            refine tkL rfl ?_; refine R_load1 T1_35 H fun at66_11 t66_11 hat66_11 _ H => ?_; refine tkP rfl ?_; refine R_move (v := (e 12)) rfl ⟨fun _ => trivial, ?_⟩
            refine tkL rfl ?_; refine R_loadN TN_37 H fun at68_11 xt68_11 hat68_11 _ H St68_11 hSt68_11 => ?_; refine tkP rfl ?_; refine R_build TB_27 rfl (by decide) H fun t71_11 H => ⟨fun _ => trivial, ?_⟩
            refine tkP rfl ?_; refine R_build TB_37 rfl (by decide) H fun t72_11 H => ⟨fun _ => trivial, ?_⟩
            refine alt_n rfl ?_ vp_none
            refine H_call HB_119 H fun t69_11 h ⟨S_23, H⟩ => ⟨(hskip rfl (hskip rfl (hcons rfl (still_1 S_23 hat64_11) hnil))), ?_⟩
            refine tkP rfl ?_; refine R_build TB_37 rfl (by decide) H fun t70_11 H => ⟨fun _ => trivial, ?_⟩
            refine alt_n rfl ?_ vp_none
            refine H_storeN TS_37 H fun h H => ⟨(hskip rfl hnil), ?_⟩
            refine alt_n rfl ?_ vp_none
            refine H_storeN TS_27 H fun h H => ⟨hnil, ?_⟩
            refine alt_n rfl ?_ vp_none
            refine H_storeN TS_37 H fun h H => ⟨hnil, ?_⟩
            refine tkP rfl ?_; refine R_assign (v := (.bool false)) rfl ⟨fun _ => trivial, ?_⟩
            refine vp_done ?_; refine WPc_ret ?_; refine resH_of rfl ?_; refine resL_N TN_37 ?_; refine loadN_imp H fun r8_11 H => ?_; refine resL_N TN_27 ?_; refine loadN_imp H fun r9_11 H => ?_; refine resL_N TN_37 ?_; refine loadN_imp H fun r10_11 H => ?_; refine resL_t ?_; exact H
          · have H := H2 hh; clear H1 H2
            refine WPc_skip ?_; exact H
        refine alt_n rfl ?_ vp_none
        have H := HA1; clear HA0 HA1
        refine H_alloc TV_27 H fun t17_10 h ⟨S_24, S_25, S_26, H⟩ => ⟨(hcons rfl (hSt55 _ (still_N S_26 hat55 rfl)) (hcons rfl (hSt54 _ (still_N S_25 hat54 rfl)) (hcons rfl (still_1 S_24 hat51) hnil))), ?_⟩
        refine alt_n rfl ?_ vp_none
        refine H_call HB_80 H fun t56_6 h H => ⟨(hskip rfl (hskip rfl (hskip rfl hnil))), ?_⟩
        refine tkP rfl ?_; refine R_move (v := t56_6) rfl ⟨fun _ => trivial, ?_⟩
        refine tkP rfl ?_; refine R_ext H fun t57_6 H => ⟨fun _ => trivial, ?_⟩
        refine tkP rfl ?_; refine R_ext H fun t58_6 H => ⟨fun _ => trivial, ?_⟩
        refine tkP rfl ?_; refine R_ext H fun t59_6 H => ⟨fun _ => trivial, ?_⟩
        refine tkP rfl ?_; refine R_ext H fun t60_6 H => ⟨fun _ => trivial, ?_⟩
        refine alt_n rfl ?_ vp_none
        refine H_storeN TS_37 H fun h H => ⟨hnil, ?_⟩
        refine alt_n rfl ?_ vp_none
        refine H_storeN TS_27 H fun h H => ⟨hnil, ?_⟩
        refine alt_n rfl ?_ vp_none
        refine H_storeN TS_37 H fun h H => ⟨hnil, ?_⟩
        refine tkP rfl ?_; refine R_assign (v := t60_6) rfl ⟨fun _ => trivial, ?_⟩
        refine vp_done ?_; refine WPc_seq (fun e h => s_put.j16 (e 1) (e 6) (e 8) (e 9) (e 10) (e 12) (e 14) (e 16) (e 17) (e 18) h Q) ?_ (fun e h H => ?_)
        rotate_left
        · unfold s_put.j16 at H
          refine W_drawn [0, 0, 0, 6, 1, 31] (.take 0 (.take 1 (.take 2 (.alt 3 (.alt 4 (.take 5 .done) .none) (.alt 4 (.alt 3 (.take 5 .done) .none) .none))))) mixed (by kernel_rfl) ?_; refine tkL rfl ?_; refine R_loadN TN_27 H fun at73 xt73 hat73 _ H St73 hSt73 => ?_; refine tkL rfl ?_; refine R_loadN TN_37 H fun at74 xt74 hat74 _ H St74 hSt74 => ?_; refine tkL rfl ?_; refine R_loadN TN_37 H fun at75 xt75 hat75 _ H St75 hSt75 => ?_; obtain ⟨HA0, HA1⟩ := H; refine alt_n rfl ?_ ?_
          · have H := HA0; clear HA0 HA1
            refine H_mkSl TZ_35 (by decide) rfl H rfl fun t76 h ⟨S, H⟩ => ⟨(hskip rfl (hskip rfl (hcons rfl (hSt73 _ (still_N S hat73 rfl)) hnil))), ?_⟩
            refine alt_n rfl ?_ vp_none
            refine H_storeN TS_27 H fun h H => ⟨(hskip rfl hnil), ?_⟩
            refine tkP rfl ?_; refine R_assign (v := t76) rfl ⟨fun _ => trivial, ?_⟩
            refine vp_done ?_; exact H
          refine alt_n rfl ?_ vp_none
          have H := HA1; clear HA0 HA1
          refine H_storeN TS_27 H fun h ⟨S_2, S_3, H⟩ => ⟨(hcons rfl (hSt75 _ (still_N S_3 hat75 rfl)) (hcons rfl (hSt74 _ (still_N S_2 hat74 rfl)) (hskip rfl hnil))), ?_⟩
          refine alt_n rfl ?_ vp_none
          refine H_mkSl TZ_35 (by decide) rfl H rfl fun t76_2 h H => ⟨(hskip rfl (hskip rfl hnil)), ?_⟩
          refine tkP rfl ?_; refine R_assign (v := t76_2) rfl ⟨fun _ => trivial, ?_⟩
          refine vp_done ?_; exact H
        refine WPc_seq' ?_; refine W_region (by kernel_rfl) ?_; refine vl_n ?_; refine H_of_R (R_move (v := t60_6) rfl ?_)
        refine vl_n ?_; refine H_of_R (R_not H fun t62_12 H => ?_)
        refine vl_e ?_; obtain ⟨b_13, hc_13, H1, H2⟩ := H; refine WPc_cond hc_13 (fun hh => ?_) (fun hh => ?_)
        · have H := H1 hh; clear H1 H2
          refine WPc_seq' ?_; refine W_drawn [0, 1, 0, 4, 0, 0, 60, 127, 0, 0, 255, 1535, 4095, 8191] (.take 0 (.take 1 (.take 2 (.take 3 (.take 4 (.take 5 (.take 8 (.take 9 (.alt 6 (.take 7 (.alt 10 (.alt 11 (.alt 12 (.take 13 .done) .none) .none) .none)) .none))))))))) mixed (by kernel_rfl) ?_; refine tkP rfl ?_; refine R_fld TF_37_0 H fun t63_12 H => ⟨fun _ => trivial, ?_⟩
          refine tkL rfl ?_; refine R_load1 T1_25 H fun at64_12 t64_12 hat64_12 _ H => ?_; refine tkP rfl ?_; refine R_fld TF_37_1 H fun t65_12 H => ⟨fun _ => trivial, ?_⟩
          refine tkL rfl ?_; refine R_load1 T1_35 H fun at66_12 t66_12 hat66_12 _ H => ?_; refine tkP rfl ?_; refine R_move (v := (e 12)) rfl ⟨fun _ => trivial, ?_⟩
          refine tkL rfl ?_; refine R_loadN TN_37 H fun at68_12 xt68_12 hat68_12 _ H St68_12 hSt68_12 => ?_; refine tkP rfl ?_; refine R_build TB_27 rfl (by decide) H fun t71_12 H => ⟨fun _ => trivial, ?_⟩
          refine tkP rfl ?_; refine R_build TB_37 rfl (by decide) H fun t72_12 H => ⟨fun _ => trivial, ?_⟩
          refine alt_n rfl ?_ vp_none
          refine H_call HB_119 H fun t69_12 h ⟨S_27, H⟩ => ⟨(hskip rfl (hskip rfl (hcons rfl (still_1 S_27 hat64_12) hnil))), ?_⟩
          refine tkP rfl ?_; refine R_build TB_37 rfl (by decide) H fun t70_12 H => ⟨fun _ => trivial, ?_⟩
          refine alt_n rfl ?_ vp_none
          refine H_storeN TS_37 H fun h H => ⟨(hskip rfl hnil), ?_⟩
          refine alt_n rfl ?_ vp_none
          refine H_storeN TS_27 H fun h H => ⟨hnil, ?_⟩
          refine alt_n rfl ?_ vp_none
          refine H_storeN TS_37 H fun h H => ⟨hnil, ?_⟩
          refine tkP rfl ?_; refine R_assign (v := (.bool false)) rfl ⟨fun _ => trivial, ?_⟩
          refine vp_done ?_; refine WPc_ret ?_; refine resH_of rfl ?_; refine resL_N TN_37 ?_; refine loadN_imp H fun r8_12 H => ?_; refine resL_N TN_27 ?_; refine loadN_imp H fun r9_12 H => ?_; refine resL_N TN_37 ?_; refine loadN_imp H fun r10_12 H => ?_; refine resL_t ?_; exact H
        · have H := H2 hh; clear H1 H2
          refine WPc_skip ?_; exact H
      refine alt_n rfl ?_ ?_
      · have H := HA2; clear HA0 HA1 HA2 HA3
        refine H_alloc TV_27 H fun t17_11 h ⟨S_28, S_29, S_30, H⟩ => ⟨(hcons rfl (hSt55 _ (still_N S_30 hat55 rfl)) (hcons rfl (hSt54 _ (still_N S_29 hat54 rfl)) (hcons rfl (still_1 S_28 hat51) hnil))), ?_⟩
        obtain ⟨HA0, HA1, HA2⟩ := H; refine alt_n rfl ?_ ?_
        · have H := HA0; clear HA0 HA1 HA2
          refine H_call HB_80 H fun t56_7 h H => ⟨(hskip rfl (hskip rfl (hskip rfl hnil))), ?_⟩
          refine tkP rfl ?_; refine R_move (v := t56_7) rfl ⟨fun _ => trivial, ?_⟩
          refine tkP rfl ?_; refine R_ext H fun t57_7 H => ⟨fun _ => trivial, ?_⟩
          refine tkP rfl ?_; refine R_ext H fun t58_7 H => ⟨fun _ => trivial, ?_⟩
          refine tkP rfl ?_; refine R_ext H fun t59_7 H => ⟨fun _ => trivial, ?_⟩
          refine tkP rfl ?_; refine R_ext H fun t60_7 H => ⟨fun _ => trivial, ?_⟩
          obtain ⟨HA0, HA1⟩ := H; refine alt_n rfl ?_ ?_
          · have H := HA0; clear HA0 HA1
            refine H_alloc TV_37 H fun t16_7 h H => ⟨hnil, ?_⟩
            refine alt_n rfl ?_ vp_none
            refine H_alloc TV_37 H fun t18_11 h H => ⟨hnil, ?_⟩
            refine alt_n rfl ?_ vp_none
            refine H_storeN TS_37 H fun h H => ⟨hnil, ?_⟩
            refine alt_n rfl ?_ vp_none
            refine H_storeN TS_27 H fun h H => ⟨hnil, ?_⟩
            refine alt_n rfl ?_ vp_none
            refine H_storeN TS_37 H fun h H => ⟨hnil, ?_⟩
            refine tkP rfl ?_; refine R_assign (v := t60_7) rfl ⟨fun _ => trivial, ?_⟩
            refine vp_done ?_; refine WPc_seq (fun e h => s_put.j17 (e 1) (e 6) (e 8) (e 9) (e 10) (e 12) (e 14) (e 16) (e 17) (e 18) h Q) ?_ (fun e h H => ?_)
            rotate_left
            · unfold s_put.j17 at H
              refine W_drawn [0, 0, 0, 6, 1, 31] (.take 0 (.take 1 (.take 2 (.alt 3 (.alt 4 (.take 5 .done) .none) (.alt 4 (.alt 3 (.take 5 .done) .none) .none))))) mixed (by kernel_rfl) ?_; refine tkL rfl ?_; refine R_loadN TN_27 H fun at73 xt73 hat73 _ H St73 hSt73 => ?_; refine tkL rfl ?_; refine R_loadN TN_37 H fun at74 xt74 hat74 _ H St74 hSt74 => ?_; refine tkL rfl ?_; refine R_loadN TN_37 H fun at75 xt75 hat75 _ H St75 hSt75 => ?_; obtain ⟨HA0, HA1⟩ := H; refine alt_n rfl ?_ ?_
              · have H := HA0; clear HA0 HA1
                refine H_mkSl TZ_35 (by decide) rfl H rfl fun t76 h ⟨S, H⟩ => ⟨(hskip rfl (hskip rfl (hcons rfl (hSt73 _ (still_N S hat73 rfl)) hnil))), ?_⟩
                refine alt_n rfl ?_ vp_none
                refine H_storeN TS_27 H fun h H => ⟨(hskip rfl hnil), ?_⟩
                refine tkP rfl ?_; refine R_assign (v := t76) rfl ⟨fun _ => trivial, ?_⟩
                refine vp_done ?_; exact H
              refine alt_n rfl ?_ vp_none
              have H := HA1; clear HA0 HA1
              refine H_storeN TS_27 H fun h ⟨S_2, S_3, H⟩ => ⟨(hcons rfl (hSt75 _ (still_N S_3 hat75 rfl)) (hcons rfl (hSt74 _ (still_N S_2 hat74 rfl)) (hskip rfl hnil))), ?_⟩
              refine alt_n rfl ?_ vp_none
              refine H_mkSl TZ_35 (by decide) rfl H rfl fun t76_2 h H => ⟨(hskip rfl (hskip rfl hnil)), ?_⟩
              refine tkP rfl ?_; refine R_assign (v := t76_2) rfl ⟨fun _ => trivial, ?_⟩
              refine vp_done ?_; exact H
            refine WPc_seq' ?_; refine W_region (by kernel_rfl) ?_; refine vl_n ?_; refine H_of_R (R_move (v := t60_7) rfl ?_)
            refine vl_n ?_; refine H_of_R (R_not H fun t62_13 H => ?_)
            refine vl_e ?_; obtain ⟨b_14, hc_14, H1, H2⟩ := H; refine WPc_cond hc_14 (fun hh => ?_) (fun hh => ?_)
            · have H := H1 hh; clear H1 H2
              refine WPc_seq' ?_; refine W_drawn [0, 1, 0, 4, 0, 0, 60, 127, 0, 0, 255, 1535, 4095, 8191] (.take 0 (.take 1 (.take 2 (.take 3 (.take 4 (.take 5 (.take 8 (.take 9 (.alt 6 (.take 7 (.alt 10 (.alt 11 (.alt 12 (.take 13 .done) .none) .none) .none)) .none))))))))) mixed (by kernel_rfl) ?_; refine tkP rfl ?_; refine R_fld TF_37_0 H fun t63_13 H => ⟨fun _ => trivial, ?_⟩
              refine tkL rfl ?_; refine R_load1 T1_25 H fun at64_13 t64_13 hat64_13 _ H => ?_; refine tkP rfl ?_; refine R_fld TF_37_1 H fun t65_13 H => ⟨fun _ => trivial, ?_⟩
              refine tkL rfl ?_; refine R_load1 T1_35 H fun at66_13 t66_13 hat66_13 _ H => ?_; refine tkP rfl ?_; refine R_move (v := (e 12)) rfl ⟨fun _ => trivial, ?_⟩
              refine tkL rfl ?_; refine R_loadN TN_37 H fun at68_13 xt68_13 hat68_13 _ H St68_13 hSt68_13 => ?_; refine tkP rfl ?_; refine R_build TB_27 rfl (by decide) H fun t71_13 H => ⟨fun _ => trivial, ?_⟩
              refine tkP rfl ?_; refine R_build TB_37 rfl (by decide) H fun t72_13 H => ⟨fun _ => trivial, ?_⟩
              refine alt_n rfl ?_ vp_none
              refine H_call HB_119 H fun t69_13 h ⟨S_31, H⟩ => ⟨(hskip rfl (hskip rfl (hcons rfl (still_1 S_31 hat64_13) hnil))), ?_⟩
              refine tkP rfl ?_; refine R_build TB_37 rfl (by decide) H fun t70_13 H => ⟨fun _ => trivial, ?_⟩
              refine alt_n rfl ?_ vp_none
              refine H_storeN TS_37 H fun h H => ⟨(hskip rfl hnil), ?_⟩
              refine alt_n rfl ?_ vp_none
              refine H_storeN TS_27 H fun h H => ⟨hnil, ?_⟩
              refine alt_n rfl ?_ vp_none
              refine H_storeN TS_37 H fun h H => ⟨hnil, ?_⟩
              refine tkP rfl ?_; refine R_assign (v := (.bool false)) rfl ⟨fun _ => trivial, ?_⟩
              refine vp_done ?_; refine WPc_ret ?_; refine resH_of rfl ?_; refine resL_N TN_37 ?_; refine loadN_imp H fun r8_13 H => ?_; refine resL_N TN_27 ?_; refine loadN_imp H fun r9_13 H => ?_; refine resL_N TN_37 ?_; refine loadN_imp H fun r10_13 H => ?_; refine resL_t ?_; exact H
            · have H := H2 hh; clear H1 H2
              refine WPc_skip ?_; exact H
          refine alt_n rfl ?_ vp_none
          have H := HA1; clear HA0 HA1
          refine H_alloc TV_37 H fun t18_12 h H => ⟨hnil, ?_⟩
          refine alt_n rfl ?_ vp_none
          refine H_alloc TV_37 H fun t16_8 h H => ⟨hnil, ?_⟩
          refine alt_n rfl ?_ vp_none
          refine H_storeN TS_37 H fun h H => ⟨hnil, ?_⟩
          refine alt_n rfl ?_ vp_none
          refine H_storeN TS_27 H fun h H => ⟨hnil, ?_⟩
          refine alt_n rfl ?_ vp_none
          refine H_storeN TS_37 H fun h H => ⟨hnil, ?_⟩
          refine tkP rfl ?_; refine R_assign (v := t60_7) rfl ⟨fun _ => trivial, ?_⟩
          refine vp_done ?_; refine WPc_seq (fun e h => s_put.j18 (e 1) (e 6) (e 8) (e 9) (e 10) (e 12) (e 14) (e 16) (e 17) (e 18) h Q) ?_ (fun e h H => ?_)
          rotate_left
          · unfold s_put.j18 at H
            refine W_drawn [0, 0, 0, 6, 1, 31] (.take 0 (.take 1 (.take 2 (.alt 3 (.alt 4 (.take 5 .done) .none) (.alt 4 (.alt 3 (.take 5 .done) .none) .none))))) mixed (by kernel_rfl) ?_; refine tkL rfl ?_; refine R_loadN TN_27 H fun at73 xt73 hat73 _ H St73 hSt73 => ?_; refine tkL rfl ?_; refine R_loadN TN_37 H fun at74 xt74 hat74 _ H St74 hSt74 => ?_; refine tkL rfl ?_; refine R_loadN TN_37 H fun at75 xt75 hat75 _ H St75 hSt75 => ?_; obtain ⟨HA0, HA1⟩ := H; refine alt_n rfl ?_ ?_
            · have H := HA0; clear HA0 HA1
              refine H_mkSl TZ_35 (by decide) rfl H rfl fun t76 h ⟨S, H⟩ => ⟨(hskip rfl (hskip rfl (hcons rfl (hSt73 _ (still_N S hat73 rfl)) hnil))), ?_⟩
              refine alt_n rfl ?_ vp_none
              refine H_storeN TS_27 H fun h H => ⟨(hskip rfl hnil), ?_⟩
              refine tkP rfl ?_; refine R_assign (v := t76) rfl ⟨fun _ => trivial, ?_⟩
              refine vp_done ?_; exact H
            refine alt_n rfl ?_ vp_none
            have H := HA1; clear HA0 HA1
            refine H_storeN TS_27 H fun h ⟨S_2, S_3, H⟩ => ⟨(hcons rfl (hSt75 _ (still_N S_3 hat75 rfl)) (hcons rfl (hSt74 _ (still_N S_2 hat74 rfl)) (hskip rfl hnil))), ?_⟩
            refine alt_n rfl ?_ vp_none
            refine H_mkSl TZ_35 (by decide) rfl H rfl fun t76_2 h H => ⟨(hskip rfl (hskip rfl hnil)), ?_⟩
            refine tkP rfl ?_; refine R_assign (v := t76_2) rfl ⟨fun _ => trivial, ?_⟩
            refine vp_done ?_; exact H
          refine WPc_seq' ?_; refine W_region (by kernel_rfl) ?_; refine vl_n ?_; refine H_of_R (R_move (v := t60_7) rfl ?_)
          refine vl_n ?_; refine H_of_R (R_not H fun t62_14 H => ?_)
          refine vl_e ?_; obtain ⟨b_15, hc_15, H1, H2⟩ := H; refine WPc_cond hc_15 (fun hh => ?_) (fun hh => ?_)
          · have H := H1 hh; clear H1 H2
            refine WPc_seq' ?_; refine W_drawn [0, 1, 0, 4, 0, 0, 60, 127, 0, 0, 255, 1535, 4095, 8191] (.take 0 (.take 1 (.take 2 (.take 3 (.take 4 (.take 5 (.take 8 (.take 9 (.alt 6 (.take 7 (.alt 10 (.alt 11 (.alt 12 (.take 13 .done) .none) .none) .none)) .none))))))))) mixed (by kernel_rfl) ?_; refine tkP rfl ?_; refine R_fld TF_37_0 H fun t63_14 H => ⟨fun _ => trivial, ?_⟩
            refine tkL rfl ?_; refine R_load1 T1_25 H fun at64_14 t64_14 hat64_14 _ H => ?_; refine tkP rfl ?_; refine R_fld TF_37_1 H fun t65_14 H => ⟨fun _ => trivial, ?_⟩
            refine tkL rfl ?_; refine R_load1 T1_35 H fun at66_14 t66_14 hat66_14 _ H => ?_; refine tkP rfl ?_; refine R_move (v := (e 12)) rfl ⟨fun _ => trivial, ?_⟩
            refine tkL rfl ?_; refine R_loadN TN_37 H fun at68_14 xt68_14 hat68_14 _ H St68_14 hSt68_14 => ?_; refine tkP rfl ?_; refine R_build TB_27 rfl (by decide) H fun t71_14 H => ⟨fun _ => trivial, ?_⟩
            refine tkP rfl ?_; refine R_build TB_37 rfl (by decide) H fun t72_14 H => ⟨fun _ => trivial, ?_⟩
            refine alt_n rfl ?_ vp_none
            refine H_call HB_119 H fun t69_14 h ⟨S_32, H⟩ => ⟨(hskip rfl (hskip rfl (hcons rfl (still_1 S_32 hat64_14) hnil))), ?_⟩
            refine tkP rfl ?_; refine R_build TB_37 rfl (by decide) H fun t70_14 H => ⟨fun _ => trivial, ?_⟩
            refine alt_n rfl ?_ vp_none
            refine H_storeN TS_37 H fun h H => ⟨(hskip rfl hnil), ?_⟩
            refine alt_n rfl ?_ vp_none
            refine H_storeN TS_27 H fun h H => ⟨hnil, ?_⟩
            refine alt_n rfl ?_ vp_none
            refine H_storeN TS_37 H fun h H => ⟨hnil, ?_⟩
            refine tkP rfl ?_; refine R_assign (v := (.bool false)) rfl ⟨fun _ => trivial, ?_⟩
            refine vp_done ?_; refine WPc_ret ?_; refine resH_of rfl ?_; refine resL_N TN_37 ?_; refine loadN_imp H fun r8_14 H => ?_; refine resL_N TN_27 ?_; refine loadN_imp H fun r9_14 H => ?_; refine resL_N TN_37 ?_; refine loadN_imp H fun r10_14 H => ?_; refine resL_t ?_; exact H
          · have H := H2 hh; clear H1 H2
            refine WPc_skip ?_; exact H
        refine alt_n rfl ?_ ?_
        · have H := HA1; clear HA0 HA1 HA2
          refine H_alloc TV_37 H fun t16_9 h ⟨S_33, S_34, S_35, H⟩ => ⟨(hcons rfl (hSt55 _ (still_N S_35 hat55 rfl)) (hcons rfl (hSt54 _ (still_N S_34 hat54 rfl)) (hcons rfl (still_1 S_33 hat51) hnil))), ?_⟩
          obtain ⟨HA0, HA1⟩ := H; refine alt_n rfl ?_ ?_
          · have H := HA0; clear HA0 HA1
            refine H_call HB_80 H fun t56_8 h H => ⟨(hskip rfl (hskip rfl (hskip rfl hnil))), ?_⟩
            refine tkP rfl ?_; refine R_move (v := t56_8) rfl ⟨fun _ => trivial, ?_⟩
            refine tkP rfl ?_; refine R_ext H fun t57_8 H => ⟨fun _ => trivial, ?_⟩
            refine tkP rfl ?_; refine R_ext H fun t58_8 H => ⟨fun _ => trivial, ?_⟩
            refine tkP rfl ?_; refine R_ext H fun t59_8 H => ⟨fun _ => trivial, ?_⟩
            refine tkP rfl ?_; refine R_ext H fun t60_8 H => ⟨fun _ => trivial, ?_⟩
            refine alt_n rfl ?_ vp_none
            refine H_alloc TV_37 H fun t18_13 h H => ⟨hnil, ?_⟩
            refine alt_n rfl ?_ vp_none
            refine H_storeN TS_37 H fun h H => ⟨hnil, ?_⟩
            refine alt_n rfl ?_ vp_none
            refine H_storeN TS_27 H fun h H => ⟨hnil, ?_⟩
            refine alt_n rfl ?_ vp_none
            refine H_storeN TS_37 H fun h H => ⟨hnil, ?_⟩
            refine tkP rfl ?_; refine R_assign (v := t60_8) rfl ⟨fun _ => trivial, ?_⟩
            refine vp_done ?_; refine WPc_seq (fun e h => s_put.j19 (e 1) (e 6) (e 8) (e 9) (e 10) (e 12) (e 14) (e 16) (e 17) (e 18) h Q) ?_ (fun e h H => ?_)
            rotate_left
            · unfold s_put.j19 at H
              refine W_drawn [0, 0, 0, 6, 1, 31] (.take 0 (.take 1 (.take 2 (.alt 3 (.alt 4 (.take 5 .done) .none) (.alt 4 (.alt 3 (.take 5 .done) .none) .none))))) mixed (by kernel_rfl) ?_; refine tkL rfl ?_; refine R_loadN TN_27 H fun at73 xt73 hat73 _ H St73 hSt73 => ?_; refine tkL rfl ?_; refine R_loadN TN_37 H fun at74 xt74 hat74 _ H St74 hSt74 => ?_; refine tkL rfl ?_; refine R_loadN TN_37 H fun at75 xt75 hat75 _ H St75 hSt75 => ?_; obtain ⟨HA0, HA1⟩ := H; refine alt_n rfl ?_ ?_
              · have H := HA0; clear HA0 HA1
                refine H_mkSl TZ_35 (by decide) rfl H rfl fun t76 h ⟨S, H⟩ => ⟨(hskip rfl (hskip rfl (hcons rfl (hSt73 _ (still_N S hat73 rfl)) hnil))), ?_⟩
                refine alt_n rfl ?_ vp_none
                refine H_storeN TS_27 H fun h H => ⟨(hskip rfl hnil), ?_⟩
                refine tkP rfl ?_; refine R_assign (v := t76) rfl ⟨fun _ => trivial, ?_⟩
                refine vp_done ?_; exact H
              refine alt_n rfl ?_ vp_none
              have H := HA1; clear HA0 HA1
              refine H_storeN TS_27 H fun h ⟨S_2, S_3, H⟩ => ⟨(hcons rfl (hSt75 _ (still_N S_3 hat75 rfl)) (hcons rfl (hSt74 _ (still_N S_2 hat74 rfl)) (hskip rfl hnil))), ?_⟩
              refine alt_n rfl ?_ vp_none
              refine H_mkSl TZ_35 (by decide) rfl H rfl fun t76_2 h H => ⟨(hskip rfl (hskip rfl hnil)), ?_⟩
              refine tkP rfl ?_; refine R_assign (v := t76_2) rfl ⟨fun _ => trivial, ?_⟩
              refine vp_done ?_; exact H
            refine WPc_seq' ?_; refine W_region (by kernel_rfl) ?_; refine vl_n ?_; refine H_of_R (R_move (v := t60_8) rfl ?_)
            refine vl_n ?_; refine H_of_R (R_not H fun t62_15 H => ?_)
            refine vl_e ?_; obtain ⟨b_16, hc_16, H1, H2⟩ := H; refine WPc_cond hc_16 (fun hh => ?_) (fun hh => ?_)
            · have H := H1 hh; clear H1 H2
              refine WPc_seq' ?_; refine W_drawn [0, 1, 0, 4, 0, 0, 60, 127, 0, 0, 255, 1535, 4095, 8191] (.take 0 (.take 1 (.take 2 (.take 3 (.take 4 (.take 5 (.take 8 (.take 9 (.alt 6 (.take 7 (.alt 10 (.alt 11 (.alt 12 (.take 13 .done) .none) .none) .none)) .none))))))))) mixed (by kernel_rfl) ?_; refine tkP rfl ?_; refine R_fld TF_37_0 H fun t63_15 H => ⟨fun _ => trivial, ?_⟩
              refine tkL rfl ?_; refine R_load1 T1_25 H fun at64_15 t64_15 hat64_15 _ H => ?_; refine tkP rfl ?_; refine R_fld TF_37_1 H fun t65_15 H => ⟨fun _ => trivial, ?_⟩
              refine tkL rfl ?_; refine R_load1 T1_35 H fun at66_15 t66_15 hat66_15 _ H => ?_; refine tkP rfl ?_; refine R_move (v := (e 12)) rfl ⟨fun _ => trivial, ?_⟩
              refine tkL rfl ?_; refine R_loadN TN_37 H fun at68_15 xt68_15 hat68_15 _ H St68_15 hSt68_15 => ?_; refine tkP rfl ?_; refine R_build TB_27 rfl (by decide) H fun t71_15 H => ⟨fun _ => trivial, ?_⟩
              refine tkP rfl ?_; refine R_build TB_37 rfl (by decide) H fun t72_15 H => ⟨fun _ => trivial, ?_⟩
              refine alt_n rfl ?_ vp_none
              refine H_call HB_119 H fun t69_15 h ⟨S_36, H⟩ => ⟨(hskip rfl (hskip rfl (hcons rfl (still_1 S_36 hat64_15) hnil))), ?_⟩
              refine tkP rfl ?_; refine R_build TB_37 rfl (by decide) H fun t70_15 H => ⟨fun _ => trivial, ?_⟩
              refine alt_n rfl ?_ vp_none
              refine H_storeN TS_37 H fun h H => ⟨(hskip rfl hnil), ?_⟩
              refine alt_n rfl ?_ vp_none
              refine H_storeN TS_27 H fun h H => ⟨hnil, ?_⟩
              refine alt_n rfl ?_ vp_none
              refine H_storeN TS_37 H fun h H => ⟨hnil, ?_⟩
              refine tkP rfl ?_; refine R_assign (v := (.bool false)) rfl ⟨fun _ => trivial, ?_⟩
              refine vp_done ?_; refine WPc_ret ?_; refine resH_of rfl ?_; refine resL_N TN_37 ?_; refine loadN_imp H fun r8_15 H => ?_; refine resL_N TN_27 ?_; refine loadN_imp H fun r9_15 H => ?_; refine resL_N TN_37 ?_; refine loadN_imp H fun r10_15 H => ?_; refine resL_t ?_; exact H
            · have H := H2 hh; clear H1 H2
              refine WPc_skip ?_; exact H
          refine alt_n rfl ?_ vp_none
          have H := HA1; clear HA0 HA1
          refine H_alloc TV_37 H fun t18_14 h ⟨S_37, S_38, S_39, H⟩ => ⟨(hcons rfl (hSt55 _ (still_N S_39 hat55 rfl)) (hcons rfl (hSt54 _ (still_N S_38 hat54 rfl)) (hcons rfl (still_1 S_37 hat51) hnil))), ?_⟩
          refine alt_n rfl ?_ vp_none
          refine H_call HB_80 H fun t56_9 h H => ⟨(hskip rfl (hskip rfl (hskip rfl hnil))), ?_⟩
          refine tkP rfl ?_; refine R_move (v := t56_9) rfl ⟨fun _ => trivial, ?_⟩
          refine tkP rfl ?_; refine R_ext H fun t57_9 H => ⟨fun _ => trivial, ?_⟩
          refine tkP rfl ?_; refine R_ext H fun t58_9 H => ⟨fun _ => trivial, ?_⟩
          refine tkP rfl ?_; refine R_ext H fun t59_9 H => ⟨fun _ => trivial, ?_⟩
          refine tkP rfl ?_; refine R_ext H fun t60_9 H => ⟨fun _ => trivial, ?_⟩
          refine alt_n rfl ?_ vp_none
          refine H_storeN TS_37 H fun h H => ⟨hnil, ?_⟩
          refine alt_n rfl ?_ vp_none
          refine H_storeN TS_27 H fun h H => ⟨hnil, ?_⟩
          refine alt_n rfl ?_ vp_none
          refine H_storeN TS_37 H fun h H => ⟨hnil, ?_⟩
          refine tkP rfl ?_; refine R_assign (v := t60_9) rfl ⟨fun _ => trivial, ?_⟩
          refine vp_done ?_; refine WPc_seq (fun e h => s_put.j20 (e 1) (e 6) (e 8) (e 9) (e 10) (e 12) (e 14) (e 16) (e 17) (e 18) h Q) ?_ (fun e h H => ?_)
          rotate_left
          · unfold s_put.j20 at H
            refine W_drawn [0, 0, 0, 6, 1, 31] (.take 0 (.take 1 (.take 2 (.alt 3 (.alt 4 (.take 5 .done) .none) (.alt 4 (.alt 3 (.take 5 .done) .none) .none))))) mixed (by kernel_rfl) ?_; refine tkL rfl ?_; refine R_loadN TN_27 H fun at73 xt73 hat73 _ H St73 hSt73 => ?_; refine tkL rfl ?_; refine R_loadN TN_37 H fun at74 xt74 hat74 _ H St74 hSt74 => ?_; refine tkL rfl ?_; refine R_loadN TN_37 H fun at75 xt75 hat75 _ H St75 hSt75 => ?_; obtain ⟨HA0, HA1⟩ := H; refine alt_n rfl ?_ ?_
            · have H := HA0; clear HA0 HA1
              refine H_mkSl TZ_35 (by decide) rfl H rfl fun t76 h ⟨S, H⟩ => ⟨(hskip rfl (hskip rfl (hcons rfl (hSt73 _ (still_N S hat73 rfl)) hnil))), ?_⟩
              refine alt_n rfl ?_ vp_none
              refine H_storeN TS_27 H fun h H => ⟨(hskip rfl hnil), ?_⟩
              refine tkP rfl ?_; refine R_assign (v := t76) rfl ⟨fun _ => trivial, ?_⟩
              refine vp_done ?_; exact H
            refine alt_n rfl ?_ vp_none
            have H := HA1; clear HA0 HA1
            refine H_storeN TS_27 H fun h ⟨S_2, S_3, H⟩ => ⟨(hcons rfl (hSt75 _ (still_N S_3 hat75 rfl)) (hcons rfl (hSt74 _ (still_N S_2 hat74 rfl)) (hskip rfl hnil))), ?_⟩
            refine alt_n rfl ?_ vp_none
            refine H_mkSl TZ_35 (by decide) rfl H rfl fun t76_2 h H => ⟨(hskip rfl (hskip rfl hnil)), ?_⟩
            refine tkP rfl ?_; refine R_assign (v := t76_2) rfl ⟨fun _ => trivial, ?_⟩
            refine vp_done ?_; exact H
          refine WPc_seq' ?_; refine W_region (by kernel_rfl) ?_; refine vl_n ?_; refine H_of_R (R_move (v := t60_9) rfl ?_)
          refine vl_n ?_; refine H_of_R (R_not H fun t62_16 H => ?_)
          refine vl_e ?_; obtain ⟨b_17, hc_17, H1, H2⟩ := H; refine WPc_cond hc_17 (fun hh => ?_) (fun hh => ?_)
          · have H := H1 hh; clear H1 H2
            refine WPc_seq' ?_; refine W_drawn [0, 1, 0, 4, 0, 0, 60, 127, 0, 0, 255, 1535, 4095, 8191] (.take 0 (.take 1 (.take 2 (.take 3 (.take 4 (.take 5 (.take 8 (.take 9 (.alt 6 (.take 7 (.alt 10 (.alt 11 (.alt 12 (.take 13 .done) .none) .none) .none)) .none))))))))) mixed (by kernel_rfl) ?_; refine tkP rfl ?_; refine R_fld TF_37_0 H fun t63_16 H => ⟨fun _ => trivial, ?_⟩
            refine tkL rfl ?_; refine R_load1 T1_25 H fun at64_16 t64_16 hat64_16 _ H => ?_; refine tkP rfl ?_; refine R_fld TF_37_1 H fun t65_16 H => ⟨fun _ => trivial, ?_⟩
            refine tkL rfl ?_; refine R_load1 T1_35 H fun at66_16 t66_16 hat66_16 _ H => ?_; refine tkP rfl ?_; refine R_move (v := (e 12)) rfl ⟨fun _ => trivial, ?_⟩
            refine tkL rfl ?_; refine R_loadN TN_37 H fun at68_16 xt68_16 hat68_16 _ H St68_16 hSt68_16 => ?_; refine tkP rfl ?_; refine R_build TB_27 rfl (by decide) H fun t71_16 H => ⟨fun _ => trivial, ?_⟩
            refine tkP rfl ?_; refine R_build TB_37 rfl (by decide) H fun t72_16 H => ⟨fun _ => trivial, ?_⟩
            refine alt_n rfl ?_ vp_none
            refine H_call HB_119 H fun t69_16 h ⟨S_40, H⟩ => ⟨(hskip rfl (hskip rfl (hcons rfl (still_1 S_40 hat64_16) hnil))), ?_⟩
            refine tkP rfl ?_; refine R_build TB_37 rfl (by decide) H fun t70_16 H => ⟨fun _ => trivial, ?_⟩
            refine alt_n rfl ?_ vp_none
            refine H_storeN TS_37 H fun h H => ⟨(hskip rfl hnil), ?_⟩
            refine alt_n rfl ?_ vp_none
            refine H_storeN TS_27 H fun h H => ⟨hnil, ?_⟩
            refine alt_n rfl ?_ vp_none
            refine H_storeN TS_37 H fun h H => ⟨hnil, ?_⟩
            refine tkP rfl ?_; refine R_assign (v := (.bool false)) rfl ⟨fun _ => trivial, ?_⟩
            refine vp_done ?_; refine WPc_ret ?_; refine resH_of rfl ?_; refine resL_N TN_37 ?_; refine loadN_imp H fun r8_16 H => ?_; refine resL_N TN_27 ?_; refine loadN_imp H fun r9_16 H => ?_; refine resL_N TN_37 ?_; refine loadN_imp H fun r10_16 H => ?_; refine resL_t ?_; exact H
          · have H := H2 hh; clear H1 H2
            refine WPc_skip ?_; exact H
        refine alt_n rfl ?_ vp_none
        have H := HA2; clear HA0 HA1 HA2
        refine H_alloc TV_37 H fun t18_15 h ⟨S_41, S_42, S_43, H⟩ => ⟨(hcons rfl (hSt55 _ (still_N S_43 hat55 rfl)) (hcons rfl (hSt54 _ (still_N S_42 hat54 rfl)) (hcons rfl (still_1 S_41 hat51) hnil))), ?_⟩
        obtain ⟨HA0, HA1⟩ := H; refine alt_n rfl ?_ ?_
        · have H := HA0; clear HA0 HA1
          refine H_call HB_80 H fun t56_10 h H => ⟨(hskip rfl (hskip rfl (hskip rfl hnil))), ?_⟩
          refine tkP rfl ?_; refine R_move (v := t56_10) rfl ⟨fun _ => trivial, ?_⟩
          refine tkP rfl ?_; refine R_ext H fun t57_10 H => ⟨fun _ => trivial, ?_⟩
          refine tkP rfl ?_; refine R_ext H fun t58_10 H => ⟨fun _ => trivial, ?_⟩
          refine tkP rfl ?_; refine R_ext H fun t59_10 H => ⟨fun _ => trivial, ?_⟩
          refine tkP rfl ?_; refine R_ext H fun t60_10 H => ⟨fun _ => trivial, ?_⟩
          refine alt_n rfl ?_ vp_none
          refine H_alloc TV_37 H fun t16_10 h H => ⟨hnil, ?_⟩
          refine alt_n rfl ?_ vp_none
          refine H_storeN TS_37 H fun h H => ⟨hnil, ?_⟩
          refine alt_n rfl ?_ vp_none
          refine H_storeN TS_27 H fun h H => ⟨hnil, ?_⟩
          refine alt_n rfl ?_ vp_none
          refine H_storeN TS_37 H fun h H => ⟨hnil, ?_⟩
          refine tkP rfl ?_; refine R_assign (v := t60_10) rfl ⟨fun _ => trivial, ?_⟩
          refine vp_done ?_; refine WPc_seq (fun e h => s_put.j21 (e 1) (e 6) (e 8) (e 9) (e 10) (e 12) (e 14) (e 16) (e 17) (e 18) h Q) ?_ (fun e h H => ?_)
          rotate_left
          · unfold s_put.j21 at H
            refine W_drawn [0, 0, 0, 6, 1, 31] (.take 0 (.take 1 (.take 2 (.alt 3 (.alt 4 (.take 5 .done) .none) (.alt 4 (.alt 3 (.take 5 .done) .none) .none))))) mixed (by kernel_rfl) ?_; refine tkL rfl ?_; refine R_loadN TN_27 H fun at73 xt73 hat73 _ H St73 hSt73 => ?_; refine tkL rfl ?_; refine R_loadN TN_37 H fun at74 xt74 hat74 _ H St74 hSt74 => ?_; refine tkL rfl ?_; refine R_loadN TN_37 H fun at75 xt75 hat75 _ H St75 hSt75 => ?_; obtain ⟨HA0, HA1⟩ := H; refine alt_n rfl ?_ ?_
            · have H := HA0; clear HA0 HA1
              refine H_mkSl TZ_35 (by decide) rfl H rfl fun t76 h ⟨S, H⟩ => ⟨(hskip rfl (hskip rfl (hcons rfl (hSt73 _ (still_N S hat73 rfl)) hnil))), ?_⟩
              refine alt_n rfl ?_ vp_none
              refine H_storeN TS_27 H fun h H => ⟨(hskip rfl hnil), ?_⟩
              refine tkP rfl ?_; refine R_assign (v := t76) rfl ⟨fun _ => trivial, ?_⟩
              refine vp_done ?_; exact H
            refine alt_n rfl ?_ vp_none
            have H := HA1; clear HA0 HA1
            refine H_storeN TS_27 H fun h ⟨S_2, S_3, H⟩ => ⟨(hcons rfl (hSt75 _ (still_N S_3 hat75 rfl)) (hcons rfl (hSt74 _ (still_N S_2 hat74 rfl)) (hskip rfl hnil))), ?_⟩
            refine alt_n rfl ?_ vp_none
            refine H_mkSl TZ_35 (by decide) rfl H rfl fun t76_2 h H => ⟨(hskip rfl (hskip rfl hnil)), ?_⟩
            refine tkP rfl ?_; refine R_assign (v := t76_2) rfl ⟨fun _ => trivial, ?_⟩
            refine vp_done ?_; exact H
          refine WPc_seq' ?_; refine W_region (by kernel_rfl) ?_; refine vl_n ?_; refine H_of_R (R_move (v := t60_10) rfl ?_)
          refine vl_n ?_; refine H_of_R (R_not H fun t62_17 H => ?_)
          refine vl_e ?_; obtain ⟨b_18, hc_18, H1, H2⟩ := H; refine WPc_cond hc_18 (fun hh => ?_) (fun hh => ?_)
          · have H := H1 hh; clear H1 H2
            refine WPc_seq' ?_; refine W_drawn [0, 1, 0, 4, 0, 0, 60, 127, 0, 0, 255, 1535, 4095, 8191] (.take 0 (.take 1 (.take 2 (.take 3 (.take 4 (.take 5 (.take 8 (.take 9 (.alt 6 (.take 7 (.alt 10 (.alt 11 (.alt 12 (.take 13 .done) .none) .none) .none)) .none))))))))) mixed (by kernel_rfl) ?_; refine tkP rfl ?_; refine R_fld TF_37_0 H fun t63_17 H => ⟨fun _ => trivial, ?_⟩
            refine tkL rfl ?_; refine R_load1 T1_25 H fun at64_17 t64_17 hat64_17 _ H => ?_; refine tkP rfl ?_; refine R_fld TF_37_1 H fun t65_17 H => ⟨fun _ => trivial, ?_⟩
            refine tkL rfl ?_; refine R_load1 T1_35 H fun at66_17 t66_17 hat66_17 _ H => ?_; refine tkP rfl ?_; refine R_move (v := (e 12)) rfl ⟨fun _ => trivial, ?_⟩
            refine tkL rfl ?_; refine R_loadN TN_37 H fun at68_17 xt68_17 hat68_17 _ H St68_17 hSt68_17 => ?_; refine tkP rfl ?_; refine R_build TB_27 rfl (by decide) H fun t71_17 H => ⟨fun _ => trivial, ?_⟩
            refine tkP rfl ?_; refine R_build TB_37 rfl (by decide) H fun t72_17 H => ⟨fun _ => trivial, ?_⟩
            refine alt_n rfl ?_ vp_none
            refine H_call HB_119 H fun t69_17 h ⟨S_44, H⟩ => ⟨(hskip rfl (hskip rfl (hcons rfl (still_1 S_44 hat64_17) hnil))), ?_⟩
            refine tkP rfl ?_; refine R_build TB_37 rfl (by decide) H fun t70_17 H => ⟨fun _ => trivial, ?_⟩
            refine alt_n rfl ?_ vp_none
            refine H_storeN TS_37 H fun h H => ⟨(hskip rfl hnil), ?_⟩
            refine alt_n rfl ?_ vp_none
            refine H_storeN TS_27 H fun h H => ⟨hnil, ?_⟩
            refine alt_n rfl ?_ vp_none
            refine H_storeN TS_37 H fun h H => ⟨hnil, ?_⟩
            refine tkP rfl ?_; refine R_assign (v := (.bool false)) rfl ⟨fun _ => trivial, ?_⟩
            refine vp_done ?_; refine WPc_ret ?_; refine resH_of rfl ?_; refine resL_N TN_37 ?_; refine loadN_imp H fun r8_17 H => ?_; refine resL_N TN_27 ?_; refine loadN_imp H fun r9_17 H => ?_; refine resL_N TN_37 ?_; refine loadN_imp H fun r10_17 H => ?_; refine resL_t ?_; exact H
          · have H := H2 hh; clear H1 H2
            refine WPc_skip ?_; exact H
        refine alt_n rfl ?_ vp_none
        have H := HA1; clear HA0 HA1
        refine H_alloc TV_37 H fun t16_11 h ⟨S_45, S_46, S_47, H⟩ => ⟨(hcons rfl (hSt55 _ (still_N S_47 hat55 rfl)) (hcons rfl (hSt54 _ (still_N S_46 hat54 rfl)) (hcons rfl (still_1 S_45 hat51) hnil))), ?_⟩
        refine alt_n rfl ?_ vp_none
        refine H_call HB_80 H fun t56_11 h H => ⟨(hskip rfl (hskip rfl (hskip rfl hnil))), ?_⟩
        refine tkP rfl ?_; refine R_move (v := t56_11) rfl ⟨fun _ => trivial, ?_⟩
        refine tkP rfl ?_; refine R_ext H fun t57_11 H => ⟨fun _ => trivial, ?_⟩
        refine tkP rfl ?_; refine R_ext H fun t58_11 H => ⟨fun _ => trivial, ?_⟩
        refine tkP rfl ?_; refine R_ext H fun t59_11 H => ⟨fun _ => trivial, ?_⟩
        refine tkP rfl ?_; refine R_ext H fun t60_11 H => ⟨fun _ => trivial, ?_⟩
        refine alt_n rfl ?_ vp_none
        refine H_storeN TS_37 H fun h H => ⟨hnil, ?_⟩
        refine alt_n rfl ?_ vp_none
        refine H_storeN TS_27 H fun h H => ⟨hnil, ?_⟩
        refine alt_n rfl ?_ vp_none
        refine H_storeN TS_37 H fun h H => ⟨hnil, ?_⟩
        refine tkP rfl ?_; refine R_assign (v := t60_11) rfl ⟨fun _ => trivial, ?_⟩
        refine vp_done ?_; refine WPc_seq (fun e h => s_put.j22 (e 1) (e 6) (e 8) (e 9) (e 10) (e 12) (e 14) (e 16) (e 17) (e 18) h Q) ?_ (fun e h H => ?_)
        rotate_left
        · unfold s_put.j22 at H
          refine W_drawn [0, 0, 0, 6, 1, 31] (.take 0 (.take 1 (.take 2 (.alt 3 (.alt 4 (.take 5 .done) .none) (.alt 4 (.alt 3 (.take 5 .done) .none) .none))))) mixed (by kernel_rfl) ?_; refine tkL rfl ?_; refine R_loadN TN_27 H fun at73 xt73 hat73 _ H St73 hSt73 => ?_; refine tkL rfl ?_; refine R_loadN TN_37 H fun at74 xt74 hat74 _ H St74 hSt74 => ?_; refine tkL rfl ?_; refine R_loadN TN_37 H fun at75 xt75 hat75 _ H St75 hSt75 => ?_; obtain ⟨HA0, HA1⟩ := H; refine alt_n rfl ?_ ?_
          · have H := HA0; clear HA0 HA1
            refine H_mkSl TZ_35 (by decide) rfl H rfl fun t76 h ⟨S, H⟩ => ⟨(hskip rfl (hskip rfl (hcons rfl (hSt73 _ (still_N S hat73 rfl)) hnil))), ?_⟩
            refine alt_n rfl ?_ vp_none
            refine H_storeN TS_27 H fun h H => ⟨(hskip rfl hnil), ?_⟩
            refine tkP rfl ?_; refine R_assign (v := t76) rfl ⟨fun _ => trivial, ?_⟩
            refine vp_done ?_; exact H
          refine alt_n rfl ?_ vp_none
          have H := HA1; clear HA0 HA1
          refine H_storeN TS_27 H fun h ⟨S_2, S_3, H⟩ => ⟨(hcons rfl (hSt75 _ (still_N S_3 hat75 rfl)) (hcons rfl (hSt74 _ (still_N S_2 hat74 rfl)) (hskip rfl hnil))), ?_⟩
          refine alt_n rfl ?_ vp_none
          refine H_mkSl TZ_35 (by decide) rfl H rfl fun t76_2 h H => ⟨(hskip rfl (hskip rfl hnil)), ?_⟩
          refine tkP rfl ?_; refine R_assign (v := t76_2) rfl ⟨fun _ => trivial, ?_⟩
          refine vp_done ?_; exact H
        refine WPc_seq' ?_; refine W_region (by kernel_rfl) ?_; refine vl_n ?_; refine H_of_R (R_move (v := t60_11) rfl ?_)
        refine vl_n ?_; refine H_of_R (R_not H fun t62_18 H => ?_)
        refine vl_e ?_; obtain ⟨b_19, hc_19, H1, H2⟩ := H; refine WPc_cond hc_19 (fun hh => ?_) (fun hh => ?_)
        · have H := H1 hh; clear H1 H2
          refine WPc_seq' ?_; refine W_drawn [0, 1, 0, 4, 0, 0, 60, 127, 0, 0, 255, 1535, 4095, 8191] (.take 0 (.take 1 (.take 2 (.take 3 (.take 4 (.take 5 (.take 8 (.take 9 (.alt 6 (.take 7 (.alt 10 (.alt 11 (.alt 12 (.take 13 .done) .none) .none) .none)) .none))))))))) mixed (by kernel_rfl) ?_; refine tkP rfl ?_; refine R_fld TF_37_0 H fun t63_18 H => ⟨fun _ => trivial, ?_⟩
          refine tkL rfl ?_; refine R_load1 T1_25 H fun at64_18 t64_18 hat64_18 _ H => ?_; refine tkP rfl ?_; refine R_fld TF_37_1 H fun t65_18 H => ⟨fun _ => trivial, ?_⟩
          refine tkL rfl ?_; refine R_load1 T1_35 H fun at66_18 t66_18 hat66_18 _ H => ?_; refine tkP rfl ?_; refine R_move (v := (e 12)) rfl ⟨fun _ => trivial, ?_⟩
          refine tkL rfl ?_; refine R_loadN TN_37 H fun at68_18 xt68_18 hat68_18 _ H St68_18 hSt68_18 => ?_; refine tkP rfl ?_; refine R_build TB_27 rfl (by decide) H fun t71_18 H => ⟨fun _ => trivial, ?_⟩
          refine tkP rfl ?_; refine R_build TB_37 rfl (by decide) H fun t72_18 H => ⟨fun _ => trivial, ?_⟩
          refine alt_n rfl ?_ vp_none
          refine H_call HB_119 H fun t69_18 h ⟨S_48, H⟩ => ⟨(hskip rfl (hskip rfl (hcons rfl (still_1 S_48 hat64_18) hnil))), ?_⟩
          refine tkP rfl ?_; refine R_build TB_37 rfl (by decide) H fun t70_18 H => ⟨fun _ => trivial, ?_⟩
          refine alt_n rfl ?_ vp_none
          refine H_storeN TS_37 H fun h H => ⟨(hskip rfl hnil), ?_⟩
          refine alt_n rfl ?_ vp_none
          refine H_storeN TS_27 H fun h H => ⟨hnil, ?_⟩
          refine alt_n rfl ?_ vp_none
          refine H_storeN TS_37 H fun h H => ⟨hnil, ?_⟩
          refine tkP rfl ?_; refine R_assign (v := (.bool false)) rfl ⟨fun _ => trivial, ?_⟩
          refine vp_done ?_; refine WPc_ret ?_; refine resH_of rfl ?_; refine resL_N TN_37 ?_; refine loadN_imp H fun r8_18 H => ?_; refine resL_N TN_27 ?_; refine loadN_imp H fun r9_18 H => ?_; refine resL_N TN_37 ?_; refine loadN_imp H fun r10_18 H => ?_; refine resL_t ?_; exact H
        · have H := H2 hh; clear H1 H2
          refine WPc_skip ?_; exact H
      refine alt_n rfl ?_ vp_none
      have H := HA3; clear HA0 HA1 HA2 HA3
      refine H_alloc TV_37 H fun t18_16 h ⟨S_49, S_50, S_51, H⟩ => ⟨(hcons rfl (hSt55 _ (still_N S_51 hat55 rfl)) (hcons rfl (hSt54 _ (still_N S_50 hat54 rfl)) (hcons rfl (still_1 S_49 hat51) hnil))), ?_⟩
      obtain ⟨HA0, HA1, HA2⟩ := H; refine alt_n rfl ?_ ?_
      · have H := HA0; clear HA0 HA1 HA2
        refine H_call HB_80 H fun t56_12 h H => ⟨(hskip rfl (hskip rfl (hskip rfl hnil))), ?_⟩
        refine tkP rfl ?_; refine R_move (v := t56_12) rfl ⟨fun _ => trivial, ?_⟩
        refine tkP rfl ?_; refine R_ext H fun t57_12 H => ⟨fun _ => trivial, ?_⟩
        refine tkP rfl ?_; refine R_ext H fun t58_12 H => ⟨fun _ => trivial, ?_⟩
        refine tkP rfl ?_; refine R_ext H fun t59_12 H => ⟨fun _ => trivial, ?_⟩
        refine tkP rfl ?_; refine R_ext H fun t60_12 H => ⟨fun _ => trivial, ?_⟩
        obtain ⟨HA0, HA1⟩ := H; refine alt_n rfl ?_ ?_
        · have H := HA0; clear HA0 HA1
          refine H_alloc TV_37 H fun t16_12 h H => ⟨hnil, ?_⟩
          refine alt_n rfl ?_ vp_none
          refine H_alloc TV_27 H fun t17_12 h H => ⟨hnil, ?_⟩
          refine alt_n rfl ?_ vp_none
          refine H_storeN TS_37 H fun h H => ⟨hnil, ?_⟩
          refine alt_n rfl ?_ vp_none
          refine H_storeN TS_27 H fun h H => ⟨hnil, ?_⟩
          refine alt_n rfl ?_ vp_none
          refine H_storeN TS_37 H fun h H => ⟨hnil, ?_⟩
          refine tkP rfl ?_; refine R_assign (v := t60_12) rfl ⟨fun _ => trivial, ?_⟩
          refine vp_done ?_; refine WPc_seq (fun e h => s_put.j23 (e 1) (e 6) (e 8) (e 9) (e 10) (e 12) (e 14) (e 16) (e 17) (e 18) h Q) ?_ (fun e h H => ?_)
          rotate_left
          · unfold s_put.j23 at H
            refine W_drawn [0, 0, 0, 6, 1, 31] (.take 0 (.take 1 (.take 2 (.alt 3 (.alt 4 (.take 5 .done) .none) (.alt 4 (.alt 3 (.take 5 .done) .none) .none))))) mixed (by kernel_rfl) ?_; refine tkL rfl ?_; refine R_loadN TN_27 H fun at73 xt73 hat73 _ H St73 hSt73 => ?_; refine tkL rfl ?_; refine R_loadN TN_37 H fun at74 xt74 hat74 _ H St74 hSt74 => ?_; refine tkL rfl ?_; refine R_loadN TN_37 H fun at75 xt75 hat75 _ H St75 hSt75 => ?_; obtain ⟨HA0, HA1⟩ := H; refine alt_n rfl ?_ ?_
            · have H := HA0; clear HA0 HA1
              refine H_mkSl TZ_35 (by decide) rfl H rfl fun t76 h ⟨S, H⟩ => ⟨(hskip rfl (hskip rfl (hcons rfl (hSt73 _ (still_N S hat73 rfl)) hnil))), ?_⟩
              refine alt_n rfl ?_ vp_none
              refine H_storeN TS_27 H fun h H => ⟨(hskip rfl hnil), ?_⟩
              refine tkP rfl ?_; refine R_assign (v := t76) rfl ⟨fun _ => trivial, ?_⟩
              refine vp_done ?_; exact H
            refine alt_n rfl ?_ vp_none
            have H := HA1; clear HA0 HA1
            refine H_storeN TS_27 H fun h ⟨S_2, S_3, H⟩ => ⟨(hcons rfl (hSt75 _ (still_N S_3 hat75 rfl)) (hcons rfl (hSt74 _ (still_N S_2 hat74 rfl)) (hskip rfl hnil))), ?_⟩
            refine alt_n rfl ?_ vp_none
            refine H_mkSl TZ_35 (by decide) rfl H rfl fun t76_2 h H => ⟨(hskip rfl (hskip rfl hnil)), ?_⟩
            refine tkP rfl ?_; refine R_assign (v := t76_2) rfl ⟨fun _ => trivial, ?_⟩
            refine vp_done ?_; exact H
          refine WPc_seq' ?_; refine W_region (by kernel_rfl) ?_; refine vl_n ?_; refine H_of_R (R_move (v := t60_12) rfl ?_)
          refine vl_n ?_; refine H_of_R (R_not H fun t62_19 H => ?_)
          refine vl_e ?_; obtain ⟨b_20, hc_20, H1, H2⟩ := H; refine WPc_cond hc_20 (fun hh => ?_) (fun hh => ?_)
          · have H := H1 hh; clear H1 H2
            refine WPc_seq' ?_; refine W_drawn [0, 1, 0, 4, 0, 0, 60, 127, 0, 0, 255, 1535, 4095, 8191] (.take 0 (.take 1 (.take 2 (.take 3 (.take 4 (.take 5 (.take 8 (.take 9 (.alt 6 (.take 7 (.alt 10 (.alt 11 (.alt 12 (.take 13 .done) .none) .none) .none)) .none))))))))) mixed (by kernel_rfl) ?_; refine tkP rfl ?_; refine R_fld TF_37_0 H fun t63_19 H => ⟨fun _ => trivial, ?_⟩
            refine tkL rfl ?_; refine R_load1 T1_25 H fun at64_19 t64_19 hat64_19 _ H => ?_; refine tkP rfl ?_; refine R_fld TF_37_1 H fun t65_19 H => ⟨fun _ => trivial, ?_⟩
            refine tkL rfl ?_; refine R_load1 T1_35 H fun at66_19 t66_19 hat66_19 _ H => ?_; refine tkP rfl ?_; refine R_move (v := (e 12)) rfl ⟨fun _ => trivial, ?_⟩
            refine tkL rfl ?_; refine R_loadN TN_37 H fun at68_19 xt68_19 hat68_19 _ H St68_19 hSt68_19 => ?_; refine tkP rfl ?_; refine R_build TB_27 rfl (by decide) H fun t71_19 H => ⟨fun _ => trivial, ?_⟩
            refine tkP rfl ?_; refine R_build TB_37 rfl (by decide) H fun t72_19 H => ⟨fun _ => trivial, ?_⟩
            refine alt_n rfl ?_ vp_none
            refine H_call HB_119 H fun t69_19 h ⟨S_52, H⟩ => ⟨(hskip rfl (hskip rfl (hcons rfl (still_1 S_52 hat64_19) hnil))), ?_⟩
            refine tkP rfl ?_; refine R_build TB_37 rfl (by decide) H fun t70_19 H => ⟨fun _ => trivial, ?_⟩
            refine alt_n rfl ?_ vp_none
            refine H_storeN TS_37 H fun h H => ⟨(hskip rfl hnil), ?_⟩
            refine alt_n rfl ?_ vp_none
            refine H_storeN TS_27 H fun h H => ⟨hnil, ?_⟩
            refine alt_n rfl ?_ vp_none
            refine H_storeN TS_37 H fun h H => ⟨hnil, ?_⟩
            refine tkP rfl ?_; refine R_assign (v := (.bool false)) rfl ⟨fun _ => trivial, ?_⟩
            refine vp_done ?_; refine WPc_ret ?_; refine resH_of rfl ?_; refine resL_N TN_37 ?_; refine loadN_imp H fun r8_19 H => ?_; refine resL_N TN_27 ?_; refine loadN_imp H fun r9_19 H => ?_; refine resL_N TN_37 ?_; refine loadN_imp H fun r10_19 H => ?_; refine resL_t ?_; exact H
          · have H := H2 hh; clear H1 H2
            refine WPc_skip ?_; exact H
        refine alt_n rfl ?_ vp_none
        have H := HA1; clear HA0 HA1
        refine H_alloc TV_27 H fun t17_13 h H => ⟨hnil, ?_⟩
        refine alt_n rfl ?_ vp_none
        refine H_alloc TV_37 H fun t16_13 h H => ⟨hnil, ?_⟩
        refine alt_n rfl ?_ vp_none
        refine H_storeN TS_37 H fun h H => ⟨hnil, ?_⟩
        refine alt_n rfl ?_ vp_none
        refine H_storeN TS_27 H fun h H => ⟨hnil, ?_⟩
        refine alt_n rfl ?_ vp_none
        refine H_storeN TS_37 H fun h H => ⟨hnil, ?_⟩
        refine tkP rfl ?_; refine R_assign (v := t60_12) rfl ⟨fun _ => trivial, ?_⟩
        refine vp_done ?_; refine WPc_seq (fun e h => s_put.j24 (e 1) (e 6) (e 8) (e 9) (e 10) (e 12) (e 14) (e 16) (e 17) (e 18) h Q) ?_ (fun e h H => ?_)
        rotate_left
        · unfold s_put.j24 at H
          refine W_drawn [0, 0, 0, 6, 1, 31] (.take 0 (.take 1 (.take 2 (.alt 3 (.alt 4 (.take 5 .done) .none) (.alt 4 (.alt 3 (.take 5 .done) .none) .none))))) mixed (by kernel_rfl) ?_; refine tkL rfl ?_; refine R_loadN TN_27 H fun at73 xt73 hat73 _ H St73 hSt73 => ?_; refine tkL rfl ?_; refine R_loadN TN_37 H fun at74 xt74 hat74 _ H St74 hSt74 => ?_; refine tkL rfl ?_; refine R_loadN TN_37 H fun at75 xt75 hat75 _ H St75 hSt75 => ?_; obtain ⟨HA0, HA1⟩ := H; refine alt_n rfl ?_ ?_
          · have H := HA0; clear HA0 HA1
            refine H_mkSl TZ_35 (by decide) rfl H rfl fun t76 h ⟨S, H⟩ => ⟨(hskip rfl (hskip rfl (hcons rfl (hSt73 _ (still_N S hat73 rfl)) hnil))), ?_⟩
            refine alt_n rfl ?_ vp_none
            refine H_storeN TS_27 H fun h H => ⟨(hskip rfl hnil), ?_⟩
            refine tkP rfl ?_; refine R_assign (v := t76) rfl ⟨fun _ => trivial, ?_⟩
            refine vp_done ?_; exact H
          refine alt_n rfl ?_ vp_none
          have H := HA1; clear HA0 HA1
          refine H_storeN TS_27 H fun h ⟨S_2, S_3, H⟩ => ⟨(hcons rfl (hSt75 _ (still_N S_3 hat75 rfl)) (hcons rfl (hSt74 _ (still_N S_2 hat74 rfl)) (hskip rfl hnil))), ?_⟩
          refine alt_n rfl ?_ vp_none
          refine H_mkSl TZ_35 (by decide) rfl H rfl fun t76_2 h H => ⟨(hskip rfl (hskip rfl hnil)), ?_⟩
          refine tkP rfl ?_; refine R_assign (v := t76_2) rfl ⟨fun _ => trivial, ?_⟩
          refine vp_done ?_; exact H
        refine WPc_seq' ?_; refine W_region (by kernel_rfl) ?_; refine vl_n ?_; refine H_of_R (R_move (v := t60_12) rfl ?_)
        refine vl_n ?_; refine H_of_R (R_not H fun t62_20 H => ?_)
        refine vl_e ?_; obtain ⟨b_21, hc_21, H1, H2⟩ := H; refine WPc_cond hc_21 (fun hh => ?_) (fun hh => ?_)
        · have H := H1 hh; clear H1 H2
          refine WPc_seq' ?_; refine W_drawn [0, 1, 0, 4, 0, 0, 60, 127, 0, 0, 255, 1535, 4095, 8191] (.take 0 (.take 1 (.take 2 (.take 3 (.take 4 (.take 5 (.take 8 (.take 9 (.alt 6 (.take 7 (.alt 10 (.alt 11 (.alt 12 (.take 13 .done) .none) .none) .none)) .none))))))))) mixed (by kernel_rfl) ?_; refine tkP rfl ?_; refine R_fld TF_37_0 H fun t63_20 H => ⟨fun _ => trivial, ?_⟩
          refine tkL rfl ?_; refine R_load1 T1_25 H fun at64_20 t64_20 hat64_20 _ H => ?_; refine tkP rfl ?_; refine R_fld TF_37_1 H fun t65_20 H => ⟨fun _ => trivial, ?_⟩
          refine tkL rfl ?_; refine R_load1 T1_35 H fun at66_20 t66_20 hat66_20 _ H => ?_; refine tkP rfl ?_; refine R_move (v := (e 12)) rfl ⟨fun _ => trivial, ?_⟩
          refine tkL rfl ?_; refine R_loadN TN_37 H fun at68_20 xt68_20 hat68_20 _ H St68_20 hSt68_20 => ?_; refine tkP rfl ?_; refine R_build TB_27 rfl (by decide) H fun t71_20 H => ⟨fun _ => trivial, ?_⟩
          refine tkP rfl ?_; refine R_build TB_37 rfl (by decide) H fun t72_20 H => ⟨fun _ => trivial, ?_⟩
          refine alt_n rfl ?_ vp_none
          refine H_call HB_119 H fun t69_20 h ⟨S_53, H⟩ => ⟨(hskip rfl (hskip rfl (hcons rfl (still_1 S_53 hat64_20) hnil))), ?_⟩
          refine tkP rfl ?_; refine R_build TB_37 rfl (by decide) H fun t70_20 H => ⟨fun _ => trivial, ?_⟩
          refine alt_n rfl ?_ vp_none
          refine H_storeN TS_37 H fun h H => ⟨(hskip rfl hnil), ?_⟩
          refine alt_n rfl ?_ vp_none
          refine H_storeN TS_27 H fun h H => ⟨hnil, ?_⟩
          refine alt_n rfl ?_ vp_none
          refine H_storeN TS_37 H fun h H => ⟨hnil, ?_⟩
          refine tkP rfl ?_; refine R_assign (v := (.bool false)) rfl ⟨fun _ => trivial, ?_⟩
          refine vp_done ?_; refine WPc_ret ?_; refine resH_of rfl ?_; refine resL_N TN_37 ?_; refine loadN_imp H fun r8_20 H => ?_; refine resL_N TN_27 ?_; refine loadN_imp H fun r9_20 H => ?_; refine resL_N TN_37 ?_; refine loadN_imp H fun r10_20 H => ?_; refine resL_t ?_; exact H
        · have H := H2 hh; clear H1 H2
          refine WPc_skip ?_; exact H
      refine alt_n rfl ?_ ?_
      · have H := HA1; clear HA0 HA1 HA2
        refine H_alloc TV_37 H fun t16_14 h ⟨S_54, S_55, S_56, H⟩ => ⟨(hcons rfl (hSt55 _ (still_N S_56 hat55 rfl)) (hcons rfl (hSt54 _ (still_N S_55 hat54 rfl)) (hcons rfl (still_1 S_54 hat51) hnil))), ?_⟩
        obtain ⟨HA0, HA1⟩ := H; refine alt_n rfl ?_ ?_
        · have H := HA0; clear HA0 HA1
          refine H_call HB_80 H fun t56_13 h H => ⟨(hskip rfl (hskip rfl (hskip rfl hnil))), ?_⟩
          refine tkP rfl ?_; refine R_move (v := t56_13) rfl ⟨fun _ => trivial, ?_⟩
          refine tkP rfl ?_; refine R_ext H fun t57_13 H => ⟨fun _ => trivial, ?_⟩
          refine tkP rfl ?_; refine R_ext H fun t58_13 H => ⟨fun _ => trivial, ?_⟩
          refine tkP rfl ?_; refine R_ext H fun t59_13 H => ⟨fun _ => trivial, ?_⟩
          refine tkP rfl ?_; refine R_ext H fun t60_13 H => ⟨fun _ => trivial, ?_⟩
          refine alt_n rfl ?_ vp_none
          refine H_alloc TV_27 H fun t17_14 h H => ⟨hnil, ?_⟩
          refine alt_n rfl ?_ vp_none
          refine H_storeN TS_37 H fun h H => ⟨hnil, ?_⟩
          refine alt_n rfl ?_ vp_none
          refine H_storeN TS_27 H fun h H => ⟨hnil, ?_⟩
          refine alt_n rfl ?_ vp_none
          refine H_storeN TS_37 H fun h H => ⟨hnil, ?_⟩
          refine tkP rfl ?_; refine R_assign (v := t60_13) rfl ⟨fun _ => trivial, ?_⟩
          refine vp_done ?_; refine WPc_seq (fun e h => s_put.j25 (e 1) (e 6) (e 8) (e 9) (e 10) (e 12) (e 14) (e 16) (e 17) (e 18) h Q) ?_ (fun e h H => ?_)
          rotate_left
          · unfold s_put.j25 at H
            refine W_drawn [0, 0, 0, 6, 1, 31] (.take 0 (.take 1 (.take 2 (.alt 3 (.alt 4 (.take 5 .done) .none) (.alt 4 (.alt 3 (.take 5 .done) .none) .none))))) mixed (by kernel_rfl) ?_; refine tkL rfl ?_; refine R_loadN TN_27 H fun at73 xt73 hat73 _ H St73 hSt73 => ?_; refine tkL rfl ?_; refine R_loadN TN_37 H fun at74 xt74 hat74 _ H St74 hSt74 => ?_; refine tkL rfl ?_; refine R_loadN TN_37 H fun at75 xt75 hat75 _ H St75 hSt75 => ?_; obtain ⟨HA0, HA1⟩ := H; refine alt_n rfl ?_ ?_
            · have H := HA0; clear HA0 HA1
              refine H_mkSl TZ_35 (by decide) rfl H rfl fun t76 h ⟨S, H⟩ => ⟨(hskip rfl (hskip rfl (hcons rfl (hSt73 _ (still_N S hat73 rfl)) hnil))), ?_⟩
              refine alt_n rfl ?_ vp_none
              refine H_storeN TS_27 H fun h H => ⟨(hskip rfl hnil), ?_⟩
              refine tkP rfl ?_; refine R_assign (v := t76) rfl ⟨fun _ => trivial, ?_⟩
              refine vp_done ?_; exact H
            refine alt_n rfl ?_ vp_none
            have H := HA1; clear HA0 HA1
            refine H_storeN TS_27 H fun h ⟨S_2, S_3, H⟩ => ⟨(hcons rfl (hSt75 _ (still_N S_3 hat75 rfl)) (hcons rfl (hSt74 _ (still_N S_2 hat74 rfl)) (hskip rfl hnil))), ?_⟩
            refine alt_n rfl ?_ vp_none
            refine H_mkSl TZ_35 (by decide) rfl H rfl fun t76_2 h H => ⟨(hskip rfl (hskip rfl hnil)), ?_⟩
            refine tkP rfl ?_; refine R_assign (v := t76_2) rfl ⟨fun _ => trivial, ?_⟩
            refine vp_done ?_; exact H
          refine WPc_seq' ?_; refine W_region (by kernel_rfl) ?_; refine vl_n ?_; refine H_of_R (R_move (v := t60_13) rfl ?_)
          refine vl_n ?_; refine H_of_R (R_not H fun t62_21 H => ?_)
          refine vl_e ?_; obtain ⟨b_22, hc_22, H1, H2⟩ := H; refine WPc_cond hc_22 (fun hh => ?_) (fun hh => ?_)
          · have H := H1 hh; clear H1 H2
            refine WPc_seq' ?_; refine W_drawn [0, 1, 0, 4, 0, 0, 60, 127, 0, 0, 255, 1535, 4095, 8191] (.take 0 (.take 1 (.take 2 (.take 3 (.take 4 (.take 5 (.take 8 (.take 9 (.alt 6 (.take 7 (.alt 10 (.alt 11 (.alt 12 (.take 13 .done) .none) .none) .none)) .none))))))))) mixed (by kernel_rfl) ?_; refine tkP rfl ?_; refine R_fld TF_37_0 H fun t63_21 H => ⟨fun _ => trivial, ?_⟩
            refine tkL rfl ?_; refine R_load1 T1_25 H fun at64_21 t64_21 hat64_21 _ H => ?_; refine tkP rfl ?_; refine R_fld TF_37_1 H fun t65_21 H => ⟨fun _ => trivial, ?_⟩
            refine tkL rfl ?_; refine R_load1 T1_35 H fun at66_21 t66_21 hat66_21 _ H => ?_; refine tkP rfl ?_; refine R_move (v := (e 12)) rfl ⟨fun _ => trivial, ?_⟩
            refine tkL rfl ?_; refine R_loadN TN_37 H fun at68_21 xt68_21 hat68_21 _ H St68_21 hSt68_21 => ?_; refine tkP rfl ?_; refine R_build TB_27 rfl (by decide) H fun t71_21 H => ⟨fun _ => trivial, ?_⟩
            refine tkP rfl ?_; refine R_build TB_37 rfl (by decide) H fun t72_21 H => ⟨fun _ => trivial, ?_⟩
            refine alt_n rfl ?_ vp_none
            refine H_call HB_119 H fun t69_21 h ⟨S_57, H⟩ => ⟨(hskip rfl (hskip rfl (hcons rfl (still_1 S_57 hat64_21) hnil))), ?_⟩
            refine tkP rfl ?_; refine R_build TB_37 rfl (by decide) H fun t70_21 H => ⟨fun _ => trivial, ?_⟩
            refine alt_n rfl ?_ vp_none
            refine H_storeN TS_37 H fun h H => ⟨(hskip rfl hnil), ?_⟩
            refine alt_n rfl ?_ vp_none
            refine H_storeN TS_27 H fun h H => ⟨hnil, ?_⟩
            refine alt_n rfl ?_ vp_none
            refine H_storeN TS_37 H fun h H => ⟨hnil, ?_⟩
            refine tkP rfl ?_; refine R_assign (v := (.bool false)) rfl ⟨fun _ => trivial, ?_⟩
            refine vp_done ?_; refine WPc_ret ?_; refine resH_of rfl ?_; refine resL_N TN_37 ?_; refine loadN_imp H fun r8_21 H => ?_; refine resL_N TN_27 ?_; refine loadN_imp H fun r9_21 H => ?_; refine resL_N TN_37 ?_; refine loadN_imp H fun r10_21 H => ?_; refine resL_t ?_; exact H
          · have H := H2 hh; clear H1 H2
            refine WPc_skip ?_; exact H
        refine alt_n rfl ?_ vp_none
        have H := HA1; clear HA0 HA1
        refine H_alloc TV_27 H fun t17_15 h ⟨S_58, S_59, S_60, H⟩ => ⟨(hcons rfl (hSt55 _ (still_N S_60 hat55 rfl)) (hcons rfl (hSt54 _ (still_N S_59 hat54 rfl)) (hcons rfl (still_1 S_58 hat51) hnil))), ?_⟩
        refine alt_n rfl ?_ vp_none
        refine H_call HB_80 H fun t56_14 h H => ⟨(hskip rfl (hskip rfl (hskip rfl hnil))), ?_⟩
        refine tkP rfl ?_; refine R_move (v := t56_14) rfl ⟨fun _ => trivial, ?_⟩
        refine tkP rfl ?_; refine R_ext H fun t57_14 H => ⟨fun _ => trivial, ?_⟩
        refine tkP rfl ?_; refine R_ext H fun t58_14 H => ⟨fun _ => trivial, ?_⟩
        refine tkP rfl ?_; refine R_ext H fun t59_14 H => ⟨fun _ => trivial, ?_⟩
        refine tkP rfl ?_; refine R_ext H fun t60_14 H => ⟨fun _ => trivial, ?_⟩
        refine alt_n rfl ?_ vp_none
        refine H_storeN TS_37 H fun h H => ⟨hnil, ?_⟩
        refine alt_n rfl ?_ vp_none
        refine H_storeN TS_27 H fun h H => ⟨hnil, ?_⟩
        refine alt_n rfl ?_ vp_none
        refine H_storeN TS_37 H fun h H => ⟨hnil, ?_⟩
        refine tkP rfl ?_; refine R_assign (v := t60_14) rfl ⟨fun _ => trivial, ?_⟩
        refine vp_done ?_; refine WPc_seq (fun e h => s_put.j26 (e 1) (e 6) (e 8) (e 9) (e 10) (e 12) (e 14) (e 16) (e 17) (e 18) h Q) ?_ (fun e h H => ?_)
        rotate_left
        · unfold s_put.j26 at H
          refine W_drawn [0, 0, 0, 6, 1, 31] (.take 0 (.take 1 (.take 2 (.alt 3 (.alt 4 (.take 5 .done) .none) (.alt 4 (.alt 3 (.take 5 .done) .none) .none))))) mixed (by kernel_rfl) ?_; refine tkL rfl ?_; refine R_loadN TN_27 H fun at73 xt73 hat73 _ H St73 hSt73 => ?_; refine tkL rfl ?_; refine R_loadN TN_37 H fun at74 xt74 hat74 _ H St74 hSt74 => ?_; refine tkL rfl ?_; refine R_loadN TN_37 H fun at75 xt75 hat75 _ H St75 hSt75 => ?_; obtain ⟨HA0, HA1⟩ := H; refine alt_n rfl ?_ ?_
          · have H := HA0; clear HA0 HA1
            refine H_mkSl TZ_35 (by decide) rfl H rfl fun t76 h ⟨S, H⟩ => ⟨(hskip rfl (hskip rfl (hcons rfl (hSt73 _ (still_N S hat73 rfl)) hnil))), ?_⟩
            refine alt_n rfl ?_ vp_none
            refine H_storeN TS_27 H fun h H => ⟨(hskip rfl hnil), ?_⟩
            refine tkP rfl ?_; refine R_assign (v := t76) rfl ⟨fun _ => trivial, ?_⟩
            refine vp_done ?_; exact H
          refine alt_n rfl ?_ vp_none
          have H := HA1; clear HA0 HA1
          refine H_storeN TS_27 H fun h ⟨S_2, S_3, H⟩ => ⟨(hcons rfl (hSt75 _ (still_N S_3 hat75 rfl)) (hcons rfl (hSt74 _ (still_N S_2 hat74 rfl)) (hskip rfl hnil))), ?_⟩
          refine alt_n rfl ?_ vp_none
          refine H_mkSl TZ_35 (by decide) rfl H rfl fun t76_2 h H => ⟨(hskip rfl (hskip rfl hnil)), ?_⟩
          refine tkP rfl ?_; refine R_assign (v := t76_2) rfl ⟨fun _ => trivial, ?_⟩
          refine vp_done ?_; exact H
        refine WPc_seq' ?_; refine W_region (by kernel_rfl) ?_; refine vl_n ?_; refine H_of_R (R_move (v := t60_14) rfl ?_)
        refine vl_n ?_; refine H_of_R (R_not H fun t62_22 H => ?_)
        refine vl_e ?_; obtain ⟨b_23, hc_23, H1, H2⟩ := H; refine WPc_cond hc_23 (fun hh => ?_) (fun hh => ?_)
        · have H := H1 hh; clear H1 H2
          refine WPc_seq' ?_; refine W_drawn [0, 1, 0, 4, 0, 0, 60, 127, 0, 0, 255, 1535, 4095, 8191] (.take 0 (.take 1 (.take 2 (.take 3 (.take 4 (.take 5 (.take 8 (.take 9 (.alt 6 (.take 7 (.alt 10 (.alt 11 (.alt 12 (.take 13 .done) .none) .none) .none)) .none))))))))) mixed (by kernel_rfl) ?_; refine tkP rfl ?_; refine R_fld TF_37_0 H fun t63_22 H => ⟨fun _ => trivial, ?_⟩
          refine tkL rfl ?_; refine R_load1 T1_25 H fun at64_22 t64_22 hat64_22 _ H => ?_; refine tkP rfl ?_; refine R_fld TF_37_1 H fun t65_22 H => ⟨fun _ => trivial, ?_⟩
          refine tkL rfl ?_; refine R_load1 T1_35 H fun at66_22 t66_22 hat66_22 _ H => ?_; refine tkP rfl ?_; refine R_move (v := (e 12)) rfl ⟨fun _ => trivial, ?_⟩
          refine tkL rfl ?_; refine R_loadN TN_37 H fun at68_22 xt68_22 hat68_22 _ H St68_22 hSt68_22 => ?_; refine tkP rfl ?_; refine R_build TB_27 rfl (by decide) H fun t71_22 H => ⟨fun _ => trivial, ?_⟩
          refine tkP rfl ?_; refine R_build TB_37 rfl (by decide) H fun t72_22 H => ⟨fun _ => trivial, ?_⟩
          refine alt_n rfl ?_ vp_none
          refine H_call HB_119 H fun t69_22 h ⟨S_61, H⟩ => ⟨(hskip rfl (hskip rfl (hcons rfl (still_1 S_61 hat64_22) hnil))), ?_⟩
          refine tkP rfl ?_; refine R_build TB_37 rfl (by decide) H fun t70_22 H => ⟨fun _ => trivial, ?_⟩
          refine alt_n rfl ?_ vp_none
          refine H_storeN TS_37 H fun h H => ⟨(hskip rfl hnil), ?_⟩
          refine alt_n rfl ?_ vp_none
          refine H_storeN TS_27 H fun h H => ⟨hnil, ?_⟩
          refine alt_n rfl ?_ vp_none
          refine H_storeN TS_37 H fun h H => ⟨hnil, ?_⟩
          refine tkP rfl ?_; refine R_assign (v := (.bool false)) rfl ⟨fun _ => trivial, ?_⟩
          refine vp_done ?_; refine WPc_ret ?_; refine resH_of rfl ?_; refine resL_N TN_37 ?_; refine loadN_imp H fun r8_22 H => ?_; refine resL_N TN_27 ?_; refine loadN_imp H fun r9_22 H => ?_; refine resL_N TN_37 ?_; refine loadN_imp H fun r10_22 H => ?_; refine resL_t ?_; exact H
        · have H := H2 hh; clear H1 H2
          refine WPc_skip ?_; exact H
      refine alt_n rfl ?_ vp_none
      have H := HA2; clear HA0 HA1 HA2
      refine H_alloc TV_27 H fun t17_16 h ⟨S_62, S_63, S_64, H⟩ => ⟨(hcons rfl (hSt55 _ (still_N S_64 hat55 rfl)) (hcons rfl (hSt54 _ (still_N S_63 hat54 rfl)) (hcons rfl (still_1 S_62 hat51) hnil))), ?_⟩
      obtain ⟨HA0, HA1⟩ := H; refine alt_n rfl ?_ ?_
      · have H := HA0; clear HA0 HA1
        refine H_call HB_80 H fun t56_15 h H => ⟨(hskip rfl (hskip rfl (hskip rfl hnil))), ?_⟩
        refine tkP rfl ?_; refine R_move (v := t56_15) rfl ⟨fun _ => trivial, ?_⟩
        refine tkP rfl ?_; refine R_ext H fun t57_15 H => ⟨fun _ => trivial, ?_⟩
        refine tkP rfl ?_; refine R_ext H fun t58_15 H => ⟨fun _ => trivial, ?_⟩
        refine tkP rfl ?_; refine R_ext H fun t59_15 H => ⟨fun _ => trivial, ?_⟩
        refine tkP rfl ?_; refine R_ext H fun t60_15 H => ⟨fun _ => trivial, ?_⟩
        refine alt_n rfl ?_ vp_none
        refine H_alloc TV_37 H fun t16_15 h H => ⟨hnil, ?_⟩
        refine alt_n rfl ?_ vp_none
        refine H_storeN TS_37 H fun h H => ⟨hnil, ?_⟩
        refine alt_n rfl ?_ vp_none
        refine H_storeN TS_27 H fun h H => ⟨hnil, ?_⟩
        refine alt_n rfl ?_ vp_none
        refine H_storeN TS_37 H fun h H => ⟨hnil, ?_⟩
        refine tkP rfl ?_; refine R_assign (v := t60_15) rfl ⟨fun _ => trivial, ?_⟩
        refine vp_done ?_; refine WPc_seq (fun e h => s_put.j27 (e 1) (e 6) (e 8) (e 9) (e 10) (e 12) (e 14) (e 16) (e 17) (e 18) h Q) ?_ (fun e h H => ?_)
        rotate_left
        · unfold s_put.j27 at H
          refine W_drawn [0, 0, 0, 6, 1, 31] (.take 0 (.take 1 (.take 2 (.alt 3 (.alt 4 (.take 5 .done) .none) (.alt 4 (.alt 3 (.take 5 .done) .none) .none))))) mixed (by kernel_rfl) ?_; refine tkL rfl ?_; refine R_loadN TN_27 H fun at73 xt73 hat73 _ H St73 hSt73 => ?_; refine tkL rfl ?_; refine R_loadN TN_37 H fun at74 xt74 hat74 _ H St74 hSt74 => ?_; refine tkL rfl ?_; refine R_loadN TN_37 H fun at75 xt75 hat75 _ H St75 hSt75 => ?_; obtain ⟨HA0, HA1⟩ := H; refine alt_n rfl ?_ ?_
          · have H := HA0; clear HA0 HA1
            refine H_mkSl TZ_35 (by decide) rfl H rfl fun t76 h ⟨S, H⟩ => ⟨(hskip rfl (hskip rfl (hcons rfl (hSt73 _ (still_N S hat73 rfl)) hnil))), ?_⟩
            refine alt_n rfl ?_ vp_none
            refine H_storeN TS_27 H fun h H => ⟨(hskip rfl hnil), ?_⟩
            refine tkP rfl ?_; refine R_assign (v := t76) rfl ⟨fun _ => trivial, ?_⟩
            refine vp_done ?_; exact H
          refine alt_n rfl ?_ vp_none
          have H := HA1; clear HA0 HA1
          refine H_storeN TS_27 H fun h ⟨S_2, S_3, H⟩ => ⟨(hcons rfl (hSt75 _ (still_N S_3 hat75 rfl)) (hcons rfl (hSt74 _ (still_N S_2 hat74 rfl)) (hskip rfl hnil))), ?_⟩
          refine alt_n rfl ?_ vp_none
          refine H_mkSl TZ_35 (by decide) rfl H rfl fun t76_2 h H => ⟨(hskip rfl (hskip rfl hnil)), ?_⟩
          refine tkP rfl ?_; refine R_assign (v := t76_2) rfl ⟨fun _ => trivial, ?_⟩
          refine vp_done ?_; exact H
        refine WPc_seq' ?_; refine W_region (by kernel_rfl) ?_; refine vl_n ?_; refine H_of_R (R_move (v := t60_15) rfl ?_)
        refine vl_n ?_; refine H_of_R (R_not H fun t62_23 H => ?_)
        refine vl_e ?_; obtain ⟨b_24, hc_24, H1, H2⟩ := H; refine WPc_cond hc_24 (fun hh => ?_) (fun hh => ?_)
        · have H := H1 hh; clear H1 H2
          refine WPc_seq' ?_; refine W_drawn [0, 1, 0, 4, 0, 0, 60, 127, 0, 0, 255, 1535, 4095, 8191] (.take 0 (.take 1 (.take 2 (.take 3 (.take 4 (.take 5 (.take 8 (.take 9 (.alt 6 (.take 7 (.alt 10 (.alt 11 (.alt 12 (.take 13 .done) .none) .none) .none)) .none))))))))) mixed (by kernel_rfl) ?_; refine tkP rfl ?_; refine R_fld TF_37_0 H fun t63_23 H => ⟨fun _ => trivial, ?_⟩
          refine tkL rfl ?_; refine R_load1 T1_25 H fun at64_23 t64_23 hat64_23 _ H => ?_; refine tkP rfl ?_; refine R_fld TF_37_1 H fun t65_23 H => ⟨fun _ => trivial, ?_⟩
          refine tkL rfl ?_; refine R_load1 T1_35 H fun at66_23 t66_23 hat66_23 _ H => ?_; refine tkP rfl ?_; refine R_move (v := (e 12)) rfl ⟨fun _ => trivial, ?_⟩
          refine tkL rfl ?_; refine R_loadN TN_37 H fun at68_23 xt68_23 hat68_23 _ H St68_23 hSt68_23 => ?_; refine tkP rfl ?_; refine R_build TB_27 rfl (by decide) H fun t71_23 H => ⟨fun _ => trivial, ?_⟩
          refine tkP rfl ?_; refine R_build TB_37 rfl (by decide) H fun t72_23 H => ⟨fun _ => trivial, ?_⟩
          refine alt_n rfl ?_ vp_none
          refine H_call HB_119 H fun t69_23 h ⟨S_65, H⟩ => ⟨(hskip rfl (hskip rfl (hcons rfl (still_1 S_65 hat64_23) hnil))), ?_⟩
          refine tkP rfl ?_; refine R_build TB_37 rfl (by decide) H fun t70_23 H => ⟨fun _ => trivial, ?_⟩
          refine alt_n rfl ?_ vp_none
          refine H_storeN TS_37 H fun h H => ⟨(hskip rfl hnil), ?_⟩
          refine alt_n rfl ?_ vp_none
          refine H_storeN TS_27 H fun h H => ⟨hnil, ?_⟩
          refine alt_n rfl ?_ vp_none
          refine H_storeN TS_37 H fun h H => ⟨hnil, ?_⟩
          refine tkP rfl ?_; refine R_assign (v := (.bool false)) rfl ⟨fun _ => trivial, ?_⟩
          refine vp_done ?_; refine WPc_ret ?_; refine resH_of rfl ?_; refine resL_N TN_37 ?_; refine loadN_imp H fun r8_23 H => ?_; refine resL_N TN_27 ?_; refine loadN_imp H fun r9_23 H => ?_; refine resL_N TN_37 ?_; refine loadN_imp H fun r10_23 H => ?_; refine resL_t ?_; exact H
        · have H := H2 hh; clear H1 H2
          refine WPc_skip ?_; exact H
      refine alt_n rfl ?_ vp_none
      have H := HA1; clear HA0 HA1
      refine H_alloc TV_37 H fun t16_16 h ⟨S_66, S_67, S_68, H⟩ => ⟨(hcons rfl (hSt55 _ (still_N S_68 hat55 rfl)) (hcons rfl (hSt54 _ (still_N S_67 hat54 rfl)) (hcons rfl (still_1 S_66 hat51) hnil))), ?_⟩
      refine alt_n rfl ?_ vp_none
      refine H_call HB_80 H fun t56_16 h H => ⟨(hskip rfl (hskip rfl (hskip rfl hnil))), ?_⟩
      refine tkP rfl ?_; refine R_move (v := t56_16) rfl ⟨fun _ => trivial, ?_⟩
      refine tkP rfl ?_; refine R_ext H fun t57_16 H => ⟨fun _ => trivial, ?_⟩
      refine tkP rfl ?_; refine R_ext H fun t58_16 H => ⟨fun _ => trivial, ?_⟩
      refine tkP rfl ?_; refine R_ext H fun t59_16 H => ⟨fun _ => trivial, ?_⟩
      refine tkP rfl ?_; refine R_ext H fun t60_16 H => ⟨fun _ => trivial, ?_⟩
      refine alt_n rfl ?_ vp_none
      refine H_storeN TS_37 H fun h H => ⟨hnil, ?_⟩
      refine alt_n rfl ?_ vp_none
      refine H_storeN TS_27 H fun h H => ⟨hnil, ?_⟩
      refine alt_n rfl ?_ vp_none
      refine H_storeN TS_37 H fun h H => ⟨hnil, ?_⟩
      refine tkP rfl ?_; refine R_assign (v := t60_16) rfl ⟨fun _ => trivial, ?_⟩
      refine vp_done ?_; refine WPc_seq (fun e h => s_put.j28 (e 1) (e 6) (e 8) (e 9) (e 10) (e 12) (e 14) (e 16) (e 17) (e 18) h Q) ?_ (fun e h H => ?_)
      rotate_left
      · unfold s_put.j28 at H
        refine W_drawn [0, 0, 0, 6, 1, 31] (.take 0 (.take 1 (.take 2 (.alt 3 (.alt 4 (.take 5 .done) .none) (.alt 4 (.alt 3 (.take 5 .done) .none) .none))))) mixed (by kernel_rfl) ?_; refine tkL rfl ?_; refine R_loadN TN_27 H fun at73 xt73 hat73 _ H St73 hSt73 => ?_; refine tkL rfl ?_; refine R_loadN TN_37 H fun at74 xt74 hat74 _ H St74 hSt74 => ?_; refine tkL rfl ?_; refine R_loadN TN_37 H fun at75 xt75 hat75 _ H St75 hSt75 => ?_; obtain ⟨HA0, HA1⟩ := H; refine alt_n rfl ?_ ?_
        · have H := HA0; clear HA0 HA1
          refine H_mkSl TZ_35 (by decide) rfl H rfl fun t76 h ⟨S, H⟩ => ⟨(hskip rfl (hskip rfl (hcons rfl (hSt73 _ (still_N S hat73 rfl)) hnil))), ?_⟩
          refine alt_n rfl ?_ vp_none
          refine H_storeN TS_27 H fun h H => ⟨(hskip rfl hnil), ?_⟩
          refine tkP rfl ?_; refine R_assign (v := t76) rfl ⟨fun _ => trivial, ?_⟩
          refine vp_done ?_; exact H
        refine alt_n rfl ?_ vp_none
        have H := HA1; clear HA0 HA1
        refine H_storeN TS_27 H fun h ⟨S_2, S_3, H⟩ => ⟨(hcons rfl (hSt75 _ (still_N S_3 hat75 rfl)) (hcons rfl (hSt74 _ (still_N S_2 hat74 rfl)) (hskip rfl hnil))), ?_⟩
        refine alt_n rfl ?_ vp_none
        refine H_mkSl TZ_35 (by decide) rfl H rfl fun t76_2 h H => ⟨(hskip rfl (hskip rfl hnil)), ?_⟩
        refine tkP rfl ?_; refine R_assign (v := t76_2) rfl ⟨fun _ => trivial, ?_⟩
        refine vp_done ?_; exact H
      refine WPc_seq' ?_; refine W_region (by kernel_rfl) ?_; refine vl_n ?_; refine H_of_R (R_move (v := t60_16) rfl ?_)
      refine vl_n ?_; refine H_of_R (R_not H fun t62_24 H => ?_)
      refine vl_e ?_; obtain ⟨b_25, hc_25, H1, H2⟩ := H; refine WPc_cond hc_25 (fun hh => ?_) (fun hh => ?_)
      · have H := H1 hh; clear H1 H2
        refine WPc_seq' ?_; refine W_drawn [0, 1, 0, 4, 0, 0, 60, 127, 0, 0, 255, 1535, 4095, 8191] (.take 0 (.take 1 (.take 2 (.take 3 (.take 4 (.take 5 (.take 8 (.take 9 (.alt 6 (.take 7 (.alt 10 (.alt 11 (.alt 12 (.take 13 .done) .none) .none) .none)) .none))))))))) mixed (by kernel_rfl) ?_; refine tkP rfl ?_; refine R_fld TF_37_0 H fun t63_24 H => ⟨fun _ => trivial, ?_⟩
        refine tkL rfl ?_; refine R_load1 T1_25 H fun at64_24 t64_24 hat64_24 _ H => ?_; refine tkP rfl ?_; refine R_fld TF_37_1 H fun t65_24 H => ⟨fun _ => trivial, ?_⟩
        refine tkL rfl ?_; refine R_load1 T1_35 H fun at66_24 t66_24 hat66_24 _ H => ?_; refine tkP rfl ?_; refine R_move (v := (e 12)) rfl ⟨fun _ => trivial, ?_⟩
        refine tkL rfl ?_; refine R_loadN TN_37 H fun at68_24 xt68_24 hat68_24 _ H St68_24 hSt68_24 => ?_; refine tkP rfl ?_; refine R_build TB_27 rfl (by decide) H fun t71_24 H => ⟨fun _ => trivial, ?_⟩
        refine tkP rfl ?_; refine R_build TB_37 rfl (by decide) H fun t72_24 H => ⟨fun _ => trivial, ?_⟩
        refine alt_n rfl ?_ vp_none
        refine H_call HB_119 H fun t69_24 h ⟨S_69, H⟩ => ⟨(hskip rfl (hskip rfl (hcons rfl (still_1 S_69 hat64_24) hnil))), ?_⟩
        refine tkP rfl ?_; refine R_build TB_37 rfl (by decide) H fun t70_24 H => ⟨fun _ => trivial, ?_⟩
        refine alt_n rfl ?_ vp_none
        refine H_storeN TS_37 H fun h H => ⟨(hskip rfl hnil), ?_⟩
        refine alt_n rfl ?_ vp_none
        refine H_storeN TS_27 H fun h H => ⟨hnil, ?_⟩
        refine alt_n rfl ?_ vp_none
        refine H_storeN TS_37 H fun h H => ⟨hnil, ?_⟩
        refine tkP rfl ?_; refine R_assign (v := (.bool false)) rfl ⟨fun _ => trivial, ?_⟩
        refine vp_done ?_; refine WPc_ret ?_; refine resH_of rfl ?_; refine resL_N TN_37 ?_; refine loadN_imp H fun r8_24 H => ?_; refine resL_N TN_27 ?_; refine loadN_imp H fun r9_24 H => ?_; refine resL_N TN_37 ?_; refine loadN_imp H fun r10_24 H => ?_; refine resL_t ?_; exact H
      · have H := H2 hh; clear H1 H2
        refine WPc_skip ?_; exact H
    · have H := H2 hh; clear H1 H2
      refine WPc_skip ?_; exact H
  refine WPc_seq' ?_; refine W_region (by kernel_rfl) ?_; refine vl_n ?_; refine H_of_R (R_move (v := t29) rfl ?_)
  refine vl_e ?_; obtain ⟨b, hc, H1, H2⟩ := H; refine WPc_cond hc (fun hh => ?_) (fun hh => ?_)
  · have H := H1 hh; clear H1 H2
    refine WPc_seq' ?_; refine W_drawn [0, 1, 0, 0, 15, 0, 32, 127, 0, 0, 255, 1535, 4095, 8191] (.take 0 (.take 1 (.take 2 (.take 3 (.take 5 (.take 6 (.take 8 (.take 9 (.alt 4 (.take 7 (.alt 10 (.alt 11 (.alt 12 (.take 13 .done) .none) .none) .none)) .none))))))))) mixed (by kernel_rfl) ?_; refine tkP rfl ?_; refine R_fld TF_37_0 H fun t31 H => ⟨fun _ => trivial, ?_⟩
    refine tkL rfl ?_; refine R_load1 T1_25 H fun at32 t32 hat32 _ H => ?_; refine tkP rfl ?_; refine R_move (v := t28) rfl ⟨fun _ => trivial, ?_⟩
    refine tkL rfl ?_; refine R_loadN TN_27 H fun at34 xt34 hat34 _ H St34 hSt34 => ?_; refine tkP rfl ?_; refine R_fld TF_37_1 H fun t36 H => ⟨fun _ => trivial, ?_⟩
    refine tkL rfl ?_; refine R_load1 T1_35 H fun at37 t37 hat37 _ H => ?_; refine tkP rfl ?_; refine R_build TB_27 rfl (by decide) H fun t39 H => ⟨fun _ => trivial, ?_⟩
    refine tkP rfl ?_; refine R_build TB_37 rfl (by decide) H fun t40 H => ⟨fun _ => trivial, ?_⟩
    refine alt_n rfl ?_ vp_none
    refine H_call HB_118 H fun t35 h ⟨S, H⟩ => ⟨(hcons rfl (still_1 S hat37) (hskip rfl (hskip rfl hnil))), ?_⟩
    refine tkP rfl ?_; refine R_build TB_37 rfl (by decide) H fun t38 H => ⟨fun _ => trivial, ?_⟩
    refine alt_n rfl ?_ vp_none
    refine H_storeN TS_37 H fun h H => ⟨(hskip rfl hnil), ?_⟩
    refine alt_n rfl ?_ vp_none
    refine H_storeN TS_27 H fun h H => ⟨hnil, ?_⟩
    refine alt_n rfl ?_ vp_none
    refine H_storeN TS_37 H fun h H => ⟨hnil, ?_⟩
    refine tkP rfl ?_; refine R_assign (v := (.bool false)) rfl ⟨fun _ => trivial, ?_⟩
    refine vp_done ?_; refine WPc_ret ?_; refine resH_of rfl ?_; refine resL_N TN_37 ?_; refine loadN_imp H fun r8 H => ?_; refine resL_N TN_27 ?_; refine loadN_imp H fun r9 H => ?_; refine resL_N TN_37 ?_; refine loadN_imp H fun r10 H => ?_; refine resL_t ?_; exact H
  · have H := H2 hh; clear H1 H2
    refine WPc_skip ?_; exact H
end Go.Proofs.Ytljecmjdmdjldaa
end
