/-
  Texts of this claim, laid together: S19 S2 S20 S3 S4 S9 K0Ii KaIi KbIi KcIi KdIi KeIi KfIi KqIi.
  Conditions: as each of them tells.
-/
import Derived.Test.YtkkappjbcgnacaaRMRisingB2
section
namespace Go.Proofs.Ytkkappjbcgnacaa
open Go.Hp
set_option maxRecDepth 100000
set_option maxHeartbeats 8000000
set_option linter.unusedVariables false
set_option linter.unusedSimpArgs false

/-! ### impl.stepMap -/
def i_stepMap.j1 (s4 s6 s7 s8 : Value) (h : Heap) (Q : Value → Heap → Prop) : Prop := i_pair.call #[s6, s7, s8] h fun b h=>storeN 3 s4 b h fun h=>loadN 3 s4 h fun d=>Q (.tuple #[d, (.slice none 0 0)]) h
def i_stepMap.sh (a0 a1 : Value) (h : Heap) (Q : Value → Heap → Prop) : Prop := box 144 a1 h fun b h=>alloc [(.int .i64 0), (.int .i64 0), (.bool false)] 32 h fun d h=>fld 2 b fun g=>fld 0 g fun i=>load1 i h fun j=>fld 0 b fun k=>load1 k h fun l=>cmpI (fun a b=>a == b) l (.int .i64 0) fun m=>ifV m (fld 2 b fun n=>fld 1 n fun o=>load1 o h fun p=>Map_ii_Set.call #[a0, j, p] h fun q h=>extr 0 q fun u=>extr 1 q fun v=>i_stepMap.j1 d j u v h Q) (cmpI (fun a b=>a == b) l (.int .i64 1) fun w=>ifV w (Map_ii_Max.call #[a0] h fun x h=>extr 0 x fun y=>extr 1 x fun z=>extr 2 x fun b0=>notV b0 fun b1=>br b1 false (cmpI (fun a b=>decide (a ≥ b)) j y fun b2=>ifV b2 (fld 2 b fun b3=>fld 1 b3 fun b4=>load1 b4 h fun b5=>Map_ii_Load.call #[a0, j, b5] h fun b6 h=>extr 0 b6 fun b7=>extr 1 b6 fun b8=>i_stepMap.j1 d j b7 b8 h Q) (i_stepMap.j1 d j (.int .i64 0) (.bool false) h Q)) (fld 2 b fun b9=>fld 1 b9 fun d0=>load1 d0 h fun d1=>Map_ii_Load.call #[a0, j, d1] h fun d2 h=>extr 0 d2 fun d3=>extr 1 d2 fun d4=>i_stepMap.j1 d j d3 d4 h Q)) (cmpI (fun a b=>a == b) l (.int .i64 2) fun d5=>ifV d5 (Map_ii_Get.call #[a0, j] h fun d6 h=>extr 0 d6 fun d7=>extr 1 d6 fun d8=>i_stepMap.j1 d j d7 d8 h Q) (cmpI (fun a b=>a == b) l (.int .i64 3) fun d9=>ifV d9 (Map_ii_Delete.call #[a0, j] h fun g0 h=>extr 0 g0 fun g1=>extr 1 g0 fun g2=>i_stepMap.j1 d j g1 g2 h Q) (cmpI (fun a b=>a == b) l (.int .i64 4) fun g3=>ifV g3 (Map_ii_Min.call #[a0] h fun g4 h=>extr 0 g4 fun g5=>extr 1 g4 fun g6=>extr 2 g4 fun g7=>i_stepMap.j1 d g5 g6 g7 h Q) (cmpI (fun a b=>a == b) l (.int .i64 5) fun g8=>ifV g8 (Map_ii_Max.call #[a0] h fun g9 h=>extr 0 g9 fun i0=>extr 1 g9 fun i1=>extr 2 g9 fun i2=>i_stepMap.j1 d i0 i1 i2 h Q) (cmpI (fun a b=>a == b) l (.int .i64 6) fun i3=>ifV i3 (Map_ii_PopMin.call #[a0] h fun i4 h=>extr 0 i4 fun i5=>extr 1 i4 fun i6=>extr 2 i4 fun i7=>i_stepMap.j1 d i5 i6 i7 h Q) (cmpI (fun a b=>a == b) l (.int .i64 7) fun i8=>ifV i8 (Map_ii_PopMax.call #[a0] h fun i9 h=>extr 0 i9 fun j0=>extr 1 i9 fun j1=>extr 2 i9 fun j2=>i_stepMap.j1 d j0 j1 j2 h Q) (cmpI (fun a b=>a == b) l (.int .i64 8) fun j3=>ifV j3 (fld 6 b fun j4=>load1 j4 h fun j5=>Map_ii_GetAt.call #[a0, j5] h fun j6 h=>extr 0 j6 fun j7=>extr 1 j6 fun j8=>extr 2 j6 fun j9=>i_stepMap.j1 d j7 j8 j9 h Q) (cmpI (fun a b=>a == b) l (.int .i64 9) fun k0=>ifV k0 (fld 6 b fun k1=>load1 k1 h fun k2=>Map_ii_DeleteAt.call #[a0, k2] h fun k3 h=>extr 0 k3 fun k4=>extr 1 k3 fun k5=>extr 2 k3 fun k6=>i_stepMap.j1 d k4 k5 k6 h Q) (cmpI (fun a b=>a == b) l (.int .i64 11) fun k7=>ifV k7 (Map_ii_Clear.call #[a0] h fun k8 h=>i_stepMap.j1 d j (.int .i64 0) (.bool false) h Q) (cmpI (fun a b=>a == b) l (.int .i64 13) fun k9=>ifV k9 (buildV [(.int .i64 0), (.int .i64 0), (.bool false)] [] fun l0=>i_entries.call #[a0] h fun l1 h=>storeN 3 d l0 h fun h=>loadN 3 d h fun l2=>Q (.tuple #[l2, l1]) h) (buildV [(.int .i64 0), (.int .i64 0), (.bool false)] [] fun l3=>loadN 9 b h fun l4=>i_handedMap.call #[a0, l4] h fun l5 h=>storeN 3 d l3 h fun h=>loadN 3 d h fun l6=>Q (.tuple #[l6, l5]) h))))))))))))
theorem i_stepMap.body (a0 a1 : Value) (h : Heap) (Q : Value → Heap → Prop) (H : i_stepMap.sh a0 a1 h Q) : i_stepMap.call #[a0, a1] h Q := by
  refine callsH_of (args := [a0, a1]) Try.func149 rfl rfl ?_
  unfold i_stepMap.sh at H
  refine sR <| vl_n <| H_box H fun _ h H => vl_n <| H_alloc TV_32 H fun _ h H => nS (.slice none 0 0) rfl <| vl_e <| sR <| nP (R_fld TF_144_2) H fun _ H => nP (R_fld TF_27_0) H fun _ H => nL T1_3 H fun t14 H => nS t14 rfl <| nS (.int .i64 0) rfl <| nS (.bool false) rfl <| vl_e ?_
  refine WPc_seq (fun e h => i_stepMap.j1 (e 4) (e 6) (e 7) (e 8) h Q) ?_ (fun e h H => ?_)
  rotate_left
  · unfold i_stepMap.j1 at H
    exact sR <| nM (e 6) rfl <| nM (e 7) rfl <| nM (e 8) rfl <| vl_n <| H_call HB_64 H fun _ h H => vl_n <| H_storeN TS_32 H fun h H => nS (.slice none 0 0) rfl <| vl_e <| WPc_ret <| resH_of rfl <| resL_N TN_32 <| loadN_imp H fun r4 H => resL_t <| H
  refine sR <| nP (R_fld TF_144_0) H fun _ H => nL T1_3 H fun _ H => vl_e <| WPc_block <| sR <| nP R_eqI H fun t22 H => nS t22 rfl <| vl_e ?_
  refine cI H (fun H => ?_) fun H => ?_
  · exact W_region (by kernel_rfl) <| nM a0 rfl <| nM t14 rfl <| nP (R_fld TF_144_2) H fun _ H => nP (R_fld TF_27_1) H fun _ H => nL T1_3 H fun _ H => vl_n <| H_call HB_63 H fun t29 h H => nM t29 rfl <| nP R_ext H fun t30 H => nP R_ext H fun t31 H => nS t30 rfl <| nS t31 rfl <| vl_e <| H
  · refine sR <| nP R_eqI H fun t33 H => nS t33 rfl <| vl_e ?_
    refine cI H (fun H => ?_) fun H => ?_
    · refine sR <| nM a0 rfl <| vl_n <| H_call HB_203 H fun t36 h H => nM t36 rfl <| nP R_ext H fun t37 H => nP R_ext H fun t38 H => nP R_ext H fun t39 H => nS t37 rfl <| nS t38 rfl <| nS t39 rfl <| vl_e <| sR <| nM t39 rfl <| nP R_not H fun t41 H => ?_
      refine nM t41 rfl ?_
      obtain ⟨b_3, hb, H1, H2⟩ := H
      cases b_3
      · have H := H1 rfl
        clear H1 H2
        refine vl_y rfl hb ?_
        refine H_of_R (R_move (v := t14) rfl ?_)
        refine vl_y rfl hb ?_
        refine H_of_R (R_move (v := t37) rfl ?_)
        refine vl_y rfl hb ?_
        refine H_of_R (R_geq H fun t45 H => ?_)
        refine nA (R_pickC (v := t45) false hb rfl) <| vl_e ?_
        refine cI H (fun H => ?_) fun H => ?_
        · exact W_region (by kernel_rfl) <| nM a0 rfl <| nM t14 rfl <| nP (R_fld TF_144_2) H fun _ H => nP (R_fld TF_27_1) H fun _ H => nL T1_3 H fun _ H => vl_n <| H_call HB_204 H fun t53 h H => nM t53 rfl <| nP R_ext H fun t54 H => nP R_ext H fun t55 H => nS t54 rfl <| nS t55 rfl <| vl_e <| H
        · exact WPc_skip <| H
      · have H := H2 rfl
        clear H1 H2
        refine vl_s rfl (nbF hb) ?_
        refine vl_s rfl (nbF hb) ?_
        refine vl_s rfl (nbF hb) ?_
        refine nA (R_pickC (v := (.bool true)) true hb rfl) <| vl_e ?_
        refine WPc_cond (t := true) rfl (fun _ => ?_) (fun hh => by cases hh)
        exact W_region (by kernel_rfl) <| nM a0 rfl <| nM t14 rfl <| nP (R_fld TF_144_2) H fun _ H => nP (R_fld TF_27_1) H fun _ H => nL T1_3 H fun _ H => vl_n <| H_call HB_204 H fun t53_2 h H => nM t53_2 rfl <| nP R_ext H fun t54_2 H => nP R_ext H fun t55_2 H => nS t54_2 rfl <| nS t55_2 rfl <| vl_e <| H
    · refine sR <| nP R_eqI H fun t57 H => nS t57 rfl <| vl_e ?_
      refine cI H (fun H => ?_) fun H => ?_
      · exact W_region (by kernel_rfl) <| nM a0 rfl <| nM t14 rfl <| vl_n <| H_call HB_75 H fun t61 h H => nM t61 rfl <| nP R_ext H fun t62 H => nP R_ext H fun t63 H => nS t62 rfl <| nS t63 rfl <| vl_e <| H
      · refine sR <| nP R_eqI H fun t65 H => nS t65 rfl <| vl_e ?_
        refine cI H (fun H => ?_) fun H => ?_
        · exact W_region (by kernel_rfl) <| nM a0 rfl <| nM t14 rfl <| vl_n <| H_call HB_76 H fun t69 h H => nM t69 rfl <| nP R_ext H fun t70 H => nP R_ext H fun t71 H => nS t70 rfl <| nS t71 rfl <| vl_e <| H
        · refine sR <| nP R_eqI H fun t73 H => nS t73 rfl <| vl_e ?_
          refine cI H (fun H => ?_) fun H => ?_
          · exact W_region (by kernel_rfl) <| nM a0 rfl <| vl_n <| H_call HB_205 H fun t76 h H => nM t76 rfl <| nP R_ext H fun t77 H => nP R_ext H fun t78 H => nP R_ext H fun t79 H => nS t77 rfl <| nS t78 rfl <| nS t79 rfl <| vl_e <| H
          · refine sR <| nP R_eqI H fun t81 H => nS t81 rfl <| vl_e ?_
            refine cI H (fun H => ?_) fun H => ?_
            · exact W_region (by kernel_rfl) <| nM a0 rfl <| vl_n <| H_call HB_203 H fun t84 h H => nM t84 rfl <| nP R_ext H fun t85 H => nP R_ext H fun t86 H => nP R_ext H fun t87 H => nS t85 rfl <| nS t86 rfl <| nS t87 rfl <| vl_e <| H
            · refine sR <| nP R_eqI H fun t89 H => nS t89 rfl <| vl_e ?_
              refine cI H (fun H => ?_) fun H => ?_
              · exact W_region (by kernel_rfl) <| nM a0 rfl <| vl_n <| H_call HB_79 H fun t92 h H => nM t92 rfl <| nP R_ext H fun t93 H => nP R_ext H fun t94 H => nP R_ext H fun t95 H => nS t93 rfl <| nS t94 rfl <| nS t95 rfl <| vl_e <| H
              · refine sR <| nP R_eqI H fun t97 H => nS t97 rfl <| vl_e ?_
                refine cI H (fun H => ?_) fun H => ?_
                · exact W_region (by kernel_rfl) <| nM a0 rfl <| vl_n <| H_call HB_78 H fun t100 h H => nM t100 rfl <| nP R_ext H fun t101 H => nP R_ext H fun t102 H => nP R_ext H fun t103 H => nS t101 rfl <| nS t102 rfl <| nS t103 rfl <| vl_e <| H
                · refine sR <| nP R_eqI H fun t105 H => nS t105 rfl <| vl_e ?_
                  refine cI H (fun H => ?_) fun H => ?_
                  · exact W_region (by kernel_rfl) <| nM a0 rfl <| nP (R_fld TF_144_4) H fun _ H => nL T1_3 H fun _ H => vl_n <| H_call HB_206 H fun t110 h H => nM t110 rfl <| nP R_ext H fun t111 H => nP R_ext H fun t112 H => nP R_ext H fun t113 H => nS t111 rfl <| nS t112 rfl <| nS t113 rfl <| vl_e <| H
                  · refine sR <| nP R_eqI H fun t115 H => nS t115 rfl <| vl_e ?_
                    refine cI H (fun H => ?_) fun H => ?_
                    · exact W_region (by kernel_rfl) <| nM a0 rfl <| nP (R_fld TF_144_4) H fun _ H => nL T1_3 H fun _ H => vl_n <| H_call HB_207 H fun t120 h H => nM t120 rfl <| nP R_ext H fun t121 H => nP R_ext H fun t122 H => nP R_ext H fun t123 H => nS t121 rfl <| nS t122 rfl <| nS t123 rfl <| vl_e <| H
                    · refine sR <| nP R_eqI H fun t125 H => nS t125 rfl <| vl_e ?_
                      refine cI H (fun H => ?_) fun H => ?_
                      · exact W_region (by kernel_rfl) <| nM a0 rfl <| vl_n <| H_call HB_208 H fun _ h H => vl_e <| H
                      · refine sR <| nP R_eqI H fun t129 H => nS t129 rfl <| vl_e ?_
                        refine cI H (fun H => ?_) fun H => ?_
                        · exact sR <| nP (R_build TB_32 rfl (by decide)) H fun _ H => nM a0 rfl <| vl_n <| H_call HB_77 H fun t132 h H => vl_n <| H_storeN TS_32 H fun h H => nS t132 rfl <| vl_e <| WPc_ret <| resH_of rfl <| resL_N TN_32 <| loadN_imp H fun r4 H => resL_t <| H
                        · exact sR <| nP (R_build TB_32 rfl (by decide)) H fun _ H => nM a0 rfl <| nLN TN_144 H fun _ H => vl_n <| H_call HB_209 H fun t20 h H => vl_n <| H_storeN TS_32 H fun h H => nS t20 rfl <| vl_e <| WPc_ret <| resH_of rfl <| resL_N TN_32 <| loadN_imp H fun r4_2 H => resL_t <| H
/-! ### impl.playMap -/
def i_playMap.j1 (s6 s7 : Value) (h : Heap) (Q : Value → Heap → Prop) : Prop := Q (.tuple #[s6, s7]) h
def i_playMap.j4 (s6 s7 s16 s17 s18 : Value) (h : Heap) (K1 : List Value → Heap → Prop) (Q : Value → Heap → Prop) : Prop := arith (· + ·) s18 (.int .i64 1) fun b=>K1 [s6, s7, b] h
def i_playMap.j5 (s6 s7 s9 s10 s16 s17 s18 : Value) (h : Heap) (K1 : List Value → Heap → Prop) (Q : Value → Heap → Prop) : Prop := loadN 9 s9 h fun b=>i_stepMap.call #[s10, b] h fun d h=>extr 0 d fun g=>extr 1 d fun i=>alloc [(.int .i64 0), (.int .i64 0), (.bool false)] 32 h fun j h=>storeN 3 j g h fun h=>fld 0 j fun k=>loadN 2 k h fun l=>fld 2 j fun m=>load1 m h fun n=>Map_ii_Len.call #[s10] h fun o h=>stillN 2 k l h ∧ still1 m n h ∧ buildV [(.int .i64 0), (.int .i64 0), (.bool false), (.int .i64 0), (.slice none 0 0)] [(0, 2, l), (2, 1, n), (3, 1, o), (4, 1, i)] fun p=>mkSl (if 1 * 5 = 0 then [] else zeros [(.int .i64 0), (.int .i64 0), (.bool false), (.int .i64 0), (.slice none 0 0)] 1) 1 [(0 * 5, 5, p)] 153 h fun q h=>app 153 5 56 [(.int .i64 0), (.int .i64 0), (.bool false), (.int .i64 0), (.slice none 0 0)] s7 q h fun u h=>i_playMap.j4 s6 u s16 s17 s18 h K1 Q
def i_playMap.j3 (s6 s7 s16 s17 s18 : Value) (h : Heap) (K1 : List Value → Heap → Prop) (Q : Value → Heap → Prop) : Prop := idx 9 s16 s18 fun b=>loadN 9 b h fun d=>alloc [(.int .i64 0), (.int .i64 0), (.int .i64 0), (.int .i64 0), (.int .i64 0), (.int .i64 0), (.int .i64 0), (.bool false), (.bool false)] 144 h fun g h=>storeN 9 g d h fun h=>fld 1 g fun i=>load1 i h fun j=>lenV s6 fun k=>i_remainder.call #[j, k] h fun l h=>idx 1 s6 l fun m=>load1 m h fun n=>fld 0 g fun o=>load1 o h fun p=>cmpI (fun a b=>a == b) p (.int .i64 10) fun q=>ifV q (fld 8 g fun u=>load1 u h fun v=>i_twinMap.call #[n, v] h fun w h=>mkSl (if 1 * 1 = 0 then [] else zeros [(.pointer none)] 1) 1 [(0 * 1, 1, w)] 117 h fun x h=>app 117 1 8 [(.pointer none)] s6 x h fun y h=>i_playMap.j5 y s7 g n s16 s17 s18 h K1 Q) (i_playMap.j5 s6 s7 g n s16 s17 s18 h K1 Q)
def i_playMap.l2.b (c16 c17 s6 s7 s18 : Value) (h : Heap) (K1 : List Value → Heap → Prop) (Q : Value → Heap → Prop) : Prop := cmpI (fun a b=>decide (a < b)) s18 c17 fun b=>ifV b (i_playMap.j3 s6 s7 c16 c17 s18 h K1 Q) (i_playMap.j1 s6 s7 h Q)
def i_playMap.sh (a0 a1 : Value) (h : Heap) (Q : Value → Heap → Prop) : Prop := i_growMap.call #[a0, (.slice none 0 0)] h fun b h=>mkSl (if 1 * 1 = 0 then [] else zeros [(.pointer none)] 1) 1 [(0 * 1, 1, b)] 117 h fun d h=>lenV a1 fun g=>loopC (fun c s h K1=>i_playMap.l2.b (c.getD 0 undef) (c.getD 1 undef) (s.getD 0 undef) (s.getD 1 undef) (s.getD 2 undef) h K1 Q) [a1, g] [d, (.slice none 0 0), (.int .i64 0)] h
theorem i_playMap.body (a0 a1 : Value) (h : Heap) (Q : Value → Heap → Prop) (H : i_playMap.sh a0 a1 h Q) : i_playMap.call #[a0, a1] h Q := by
  refine callsH_of (args := [a0, a1]) Try.func81 rfl rfl ?_
  unfold i_playMap.sh at H
  refine sR <| nS (.slice none 0 0) rfl <| nS (.slice none 0 0) rfl <| vl_e <| sR <| nM a0 rfl <| vl_n <| H_call HB_74 H fun _ h H => vl_n <| H_mkSl TZ_138 (by decide) rfl H rfl fun t15 h H => nS t15 rfl <| vl_e <| sR <| nS (.slice none 0 0) rfl <| vl_e ?_
  refine WPc_seq (fun e h => i_playMap.j1 (e 6) (e 7) h Q) ?_ (fun e h H => ?_)
  rotate_left
  · unfold i_playMap.j1 at H
    exact sR <| nM (e 6) rfl <| nM (e 7) rfl <| nS (e 6) rfl <| nS (e 7) rfl <| vl_e <| WPc_ret <| resH_of rfl <| H
  refine sR <| nM a1 rfl <| nP (R_len Try.underlying57) H fun _ H => nM (.int .i64 0) rfl <| vl_e <| WPc_block ?_
  refine loop_at (fun e => [e 6, e 7, e 18]) (fun e => [e 16, e 17]) H rfl rfl ?_
  intro K1 e1 h H hin1
  replace H : i_playMap.l2.b (e1 16) (e1 17) (e1 6) (e1 7) (e1 18) h K1 Q := H
  unfold i_playMap.l2.b at H
  clear hin1
  refine sR <| nP R_lss H fun _ H => vl_e ?_
  refine WPc_seq (fun e h => i_playMap.j3 (e 6) (e 7) (e 16) (e 17) (e 18) h K1 Q ∧ [e1 16, e1 17] = [e 16, e 17]) ?_ (fun e h ⟨H, hq1⟩ => ?_)
  rotate_left
  · unfold i_playMap.j3 at H
    refine WPc_seq (fun e h => i_playMap.j4 (e 6) (e 7) (e 16) (e 17) (e 18) h K1 Q ∧ [e1 16, e1 17] = [e 16, e 17]) ?_ (fun e h ⟨H, hq1⟩ => ?_)
    rotate_left
    · unfold i_playMap.j4 at H
      refine W_region (by kernel_rfl) <| nP R_add H fun t57 H => nM t57 rfl <| vl_e ?_
      exact ⟨H, hq1⟩
    refine WPc_block <| sR <| nP (R_idx TE_57) H fun _ H => nLN TN_144 H fun _ H => vl_n <| H_alloc TV_144 H fun _ h H => vl_n <| H_storeN TS_144 H fun h H => vl_e <| sR <| nM (e 6) rfl <| nP (R_fld TF_144_1) H fun _ H => nL T1_3 H fun _ H => nM (e 6) rfl <| nP (R_len Try.underlying138) H fun _ H => vl_n <| H_call HB_147 H fun _ h H => ?_
    refine nP (R_idx TE_138) H fun _ H => nL T1_117 H fun t29 H => nS t29 rfl <| vl_e ?_
    refine WPc_seq (fun e h => i_playMap.j5 (e 6) (e 7) (e 9) (e 10) (e 16) (e 17) (e 18) h K1 Q ∧ [e1 16, e1 17] = [e 16, e 17]) ?_ (fun e h ⟨H, hq1⟩ => ?_)
    rotate_left
    · unfold i_playMap.j5 at H
      refine sR <| nM (e 10) rfl <| nLN TN_144 H fun _ H => vl_n <| H_call HB_149 H fun t43 h H => nM t43 rfl <| nP R_ext H fun _ H => nP R_ext H fun t45 H => vl_n <| H_alloc TV_32 H fun _ h H => vl_n <| H_storeN TS_32 H fun h H => nS t45 rfl <| vl_e <| W_drawn [0, 0, 2, 0, 8, 0, 32, 0, 254, 510, 1023, 2047] (.take 0 (.take 1 (.take 2 (.take 3 (.take 4 (.take 5 (.take 7 (.alt 6 (.take 8 (.alt 9 (.alt 10 (.take 11 .done) .none) .none)) .none)))))))) mixed (by kernel_rfl) <| pM (e 7) rfl rfl <| pP rfl (R_fld TF_32_0) H fun _ H => ?_
      refine tkL rfl <| R_loadN TN_27 H fun _ _ hat48 _ H _ hSt48 => pP rfl (R_fld TF_32_1) H fun _ H => pL rfl T1_4 H fun _ _ hat50 H => pM (e 10) rfl rfl <| pM t45 rfl rfl <| aE rfl <| H_call HB_83 H fun _ h ⟨S, S_2, H⟩ => ⟨(hcons rfl (still_1 S_2 hat50) (hcons rfl (hSt48 _ (still_N S hat48 rfl)) hnil)), pP rfl (R_build TB_153 rfl (by decide)) H fun _ H => aE rfl <| H_mkSl TZ_139 (by decide) rfl H rfl fun _ h H => ⟨(hskip rfl (hskip rfl hnil)), aE rfl <| H_app TZ_139 TU_139 H fun t56 h H => ⟨hnil, pS t56 rfl rfl <| vp_done ?_⟩⟩⟩
      exact ⟨H, hq1⟩
    refine sR <| nP (R_fld TF_144_0) H fun _ H => nL T1_3 H fun _ H => nP R_eqI H fun _ H => vl_e ?_
    refine cI H (fun H => ?_) fun H => ?_
    · refine W_region (by kernel_rfl) <| nM (e 6) rfl <| nM t29 rfl <| nP (R_fld TF_144_6) H fun _ H => nL T1_4 H fun _ H => vl_n <| H_call HB_148 H fun _ h H => vl_n <| H_mkSl TZ_138 (by decide) rfl H rfl fun _ h H => vl_n <| H_app TZ_138 TU_138 H fun t39 h H => nS t39 rfl <| vl_e ?_
      exact ⟨H, hq1⟩
    · refine WPc_skip ?_
      exact ⟨H, hq1⟩
  refine cI H (fun H => ?_) fun H => ?_
  · refine WPc_skip ?_
    exact ⟨H, rfl⟩
  · refine WPc_exit ?_
    exact H
/-! ### impl.MShapes -/
def i_MShapes.j1 (s7 : Value) (h : Heap) (Q : Value → Heap → Prop) : Prop := Q s7 h
def i_MShapes.j4 (s7 s16 s17 s18 : Value) (h : Heap) (K1 : List Value → Heap → Prop) (Q : Value → Heap → Prop) : Prop := arith (· + ·) s18 (.int .i64 1) fun b=>K1 [s7, b] h
def i_MShapes.j3 (s7 s16 s17 s18 : Value) (h : Heap) (K1 : List Value → Heap → Prop) (Q : Value → Heap → Prop) : Prop := idx 1 s16 s18 fun b=>load1 b h fun d=>Map_ii_Height.call #[d] h fun g h=>Map_ii_Len.call #[d] h fun i h=>buildV [(.int .i64 0), (.int .i64 0), (.slice none 0 0)] [(0, 1, g), (1, 1, i)] fun j=>mkSl (if 1 * 3 = 0 then [] else zeros [(.int .i64 0), (.int .i64 0), (.slice none 0 0)] 1) 1 [(0 * 3, 3, j)] 64 h fun k h=>app 64 3 40 [(.int .i64 0), (.int .i64 0), (.slice none 0 0)] s7 k h fun l h=>i_MShapes.j4 l s16 s17 s18 h K1 Q
def i_MShapes.l2.b (c16 c17 s7 s18 : Value) (h : Heap) (K1 : List Value → Heap → Prop) (Q : Value → Heap → Prop) : Prop := cmpI (fun a b=>decide (a < b)) s18 c17 fun b=>ifV b (i_MShapes.j3 s7 c16 c17 s18 h K1 Q) (i_MShapes.j1 s7 h Q)
def i_MShapes.sh (a0 a1 : Value) (h : Heap) (Q : Value → Heap → Prop) : Prop := i_playMap.call #[a0, a1] h fun b h=>extr 0 b fun d=>extr 1 b fun g=>lenV d fun i=>loopC (fun c s h K1=>i_MShapes.l2.b (c.getD 0 undef) (c.getD 1 undef) (s.getD 0 undef) (s.getD 1 undef) h K1 Q) [d, i] [(.slice none 0 0), (.int .i64 0)] h
theorem i_MShapes.body (a0 a1 : Value) (h : Heap) (Q : Value → Heap → Prop) (H : i_MShapes.sh a0 a1 h Q) : i_MShapes.call #[a0, a1] h Q := by
  refine callsH_of (args := [a0, a1]) Try.func26 rfl rfl ?_
  unfold i_MShapes.sh at H
  refine sR <| nS (.slice none 0 0) rfl <| vl_e <| sR <| nM a0 rfl <| nM a1 rfl <| vl_n <| H_call HB_81 H fun t13 h H => nM t13 rfl <| nP R_ext H fun t14 H => nP R_ext H fun t15 H => nS t14 rfl <| nS t15 rfl <| vl_e <| sR ?_
  refine nS (.slice none 0 0) rfl <| vl_e ?_
  refine WPc_seq (fun e h => i_MShapes.j1 (e 7) h Q) ?_ (fun e h H => ?_)
  rotate_left
  · unfold i_MShapes.j1 at H
    exact sR <| nM (e 7) rfl <| nS (e 7) rfl <| vl_e <| WPc_ret <| resH_of rfl <| H
  refine sR <| nM t14 rfl <| nP (R_len Try.underlying138) H fun _ H => nM (.int .i64 0) rfl <| vl_e <| WPc_block ?_
  refine loop_at (fun e => [e 7, e 18]) (fun e => [e 16, e 17]) H rfl rfl ?_
  intro K1 e1 h H hin1
  replace H : i_MShapes.l2.b (e1 16) (e1 17) (e1 7) (e1 18) h K1 Q := H
  unfold i_MShapes.l2.b at H
  clear hin1
  refine sR <| nP R_lss H fun _ H => vl_e ?_
  refine WPc_seq (fun e h => i_MShapes.j3 (e 7) (e 16) (e 17) (e 18) h K1 Q ∧ [e1 16, e1 17] = [e 16, e 17]) ?_ (fun e h ⟨H, hq1⟩ => ?_)
  rotate_left
  · unfold i_MShapes.j3 at H
    refine WPc_seq (fun e h => i_MShapes.j4 (e 7) (e 16) (e 17) (e 18) h K1 Q ∧ [e1 16, e1 17] = [e 16, e 17]) ?_ (fun e h ⟨H, hq1⟩ => ?_)
    rotate_left
    · unfold i_MShapes.j4 at H
      refine W_region (by kernel_rfl) <| nP R_add H fun t30 H => nM t30 rfl <| vl_e ?_
      exact ⟨H, hq1⟩
    refine WPc_block <| sR <| nP (R_idx TE_138) H fun _ H => nL T1_117 H fun t21 H => nS t21 rfl <| vl_e <| W_region (by kernel_rfl) <| nM (e 7) rfl <| nM t21 rfl <| vl_n <| H_call HB_82 H fun _ h H => nM t21 rfl <| vl_n <| H_call HB_83 H fun _ h H => nP (R_build TB_64 rfl (by decide)) H fun _ H => vl_n <| H_mkSl TZ_55 (by decide) rfl H rfl fun _ h H => ?_
    refine vl_n <| H_app TZ_55 TU_55 H fun t29 h H => nS t29 rfl <| vl_e ?_
    exact ⟨H, hq1⟩
  refine cI H (fun H => ?_) fun H => ?_
  · refine WPc_skip ?_
    exact ⟨H, rfl⟩
  · refine WPc_exit ?_
    exact H
/-! ### laws.exCosts -/
def l_exCosts.j1 (s1 : Value) (h : Heap) (Q : Value → Heap → Prop) : Prop := buildV [(.int .i64 0), (.int .i64 0)] [(0, 1, (.int .i64 9))] fun b=>buildV [(.int .i64 0), (.int .i64 0), (.int .i64 0), (.int .i64 0), (.int .i64 0), (.int .i64 0), (.int .i64 0), (.bool false), (.bool false)] [(0, 1, (.int .i64 2)), (2, 2, b)] fun d=>buildV [(.int .i64 0), (.int .i64 0), (.int .i64 0), (.int .i64 0), (.int .i64 0), (.int .i64 0), (.int .i64 0), (.bool false), (.bool false)] [(0, 1, (.int .i64 4))] fun g=>mkSl (if 2 * 9 = 0 then [] else zeros [(.int .i64 0), (.int .i64 0), (.int .i64 0), (.int .i64 0), (.int .i64 0), (.int .i64 0), (.int .i64 0), (.bool false), (.bool false)] 2) 2 [(0 * 9, 9, d), (1 * 9, 9, g)] 144 h fun i h=>app 144 9 64 [(.int .i64 0), (.int .i64 0), (.int .i64 0), (.int .i64 0), (.int .i64 0), (.int .i64 0), (.int .i64 0), (.bool false), (.bool false)] s1 i h fun j h=>Q j h
def l_exCosts.j4 (s1 s4 s5 s6 : Value) (h : Heap) (K1 : List Value → Heap → Prop) (Q : Value → Heap → Prop) : Prop := arith (· + ·) s6 (.int .i64 1) fun b=>K1 [s1, b] h
def l_exCosts.j3 (s1 s4 s5 s6 : Value) (h : Heap) (K1 : List Value → Heap → Prop) (Q : Value → Heap → Prop) : Prop := idx 2 s4 s6 fun b=>loadN 2 b h fun d=>alloc [(.int .i64 0), (.int .i64 0)] 27 h fun g h=>storeN 2 g d h fun h=>loadN 2 g h fun i=>buildV [(.int .i64 0), (.int .i64 0), (.int .i64 0), (.int .i64 0), (.int .i64 0), (.int .i64 0), (.int .i64 0), (.bool false), (.bool false)] [(0, 1, (.int .i64 0)), (2, 2, i)] fun j=>mkSl (if 1 * 9 = 0 then [] else zeros [(.int .i64 0), (.int .i64 0), (.int .i64 0), (.int .i64 0), (.int .i64 0), (.int .i64 0), (.int .i64 0), (.bool false), (.bool false)] 1) 1 [(0 * 9, 9, j)] 144 h fun k h=>app 144 9 64 [(.int .i64 0), (.int .i64 0), (.int .i64 0), (.int .i64 0), (.int .i64 0), (.int .i64 0), (.int .i64 0), (.bool false), (.bool false)] s1 k h fun l h=>l_exCosts.j4 l s4 s5 s6 h K1 Q
def l_exCosts.l2.b (c4 c5 s1 s6 : Value) (h : Heap) (K1 : List Value → Heap → Prop) (Q : Value → Heap → Prop) : Prop := cmpI (fun a b=>decide (a < b)) s6 c5 fun b=>ifV b (l_exCosts.j3 s1 c4 c5 s6 h K1 Q) (l_exCosts.j1 s1 h Q)
def l_exCosts.sh (h : Heap) (Q : Value → Heap → Prop) : Prop := l_exItems.call #[] h fun b h=>lenV b fun d=>loopC (fun c s h K1=>l_exCosts.l2.b (c.getD 0 undef) (c.getD 1 undef) (s.getD 0 undef) (s.getD 1 undef) h K1 Q) [b, d] [(.slice none 0 0), (.int .i64 0)] h
theorem l_exCosts.body (h : Heap) (Q : Value → Heap → Prop) (H : l_exCosts.sh h Q) : l_exCosts.call #[] h Q := by
  refine callsH_of (args := []) Try.func27 rfl rfl ?_
  unfold l_exCosts.sh at H
  refine sR <| nS (.slice none 0 0) rfl <| vl_e <| sR <| nS (.slice none 0 0) rfl <| vl_e ?_
  refine WPc_seq (fun e h => l_exCosts.j1 (e 1) h Q) ?_ (fun e h H => ?_)
  rotate_left
  · unfold l_exCosts.j1 at H
    exact sR <| nM (e 1) rfl <| nP (R_build TB_27 rfl (by decide)) H fun _ H => nP (R_build TB_144 rfl (by decide)) H fun _ H => nP (R_build TB_144 rfl (by decide)) H fun _ H => vl_n <| H_mkSl TZ_57 (by decide) rfl H rfl fun _ h H => vl_n <| H_app TZ_57 TU_57 H fun t21 h H => nS t21 rfl <| vl_e <| WPc_ret <| resH_of rfl <| H
  refine sR <| vl_n <| H_call HB_73 H fun _ h H => nP (R_len Try.underlying22) H fun _ H => nM (.int .i64 0) rfl <| vl_e <| WPc_block ?_
  refine loop_at (fun e => [e 1, e 6]) (fun e => [e 4, e 5]) H rfl rfl ?_
  intro K1 e1 h H hin1
  replace H : l_exCosts.l2.b (e1 4) (e1 5) (e1 1) (e1 6) h K1 Q := H
  unfold l_exCosts.l2.b at H
  clear hin1
  refine sR <| nP R_lss H fun _ H => vl_e ?_
  refine WPc_seq (fun e h => l_exCosts.j3 (e 1) (e 4) (e 5) (e 6) h K1 Q ∧ [e1 4, e1 5] = [e 4, e 5]) ?_ (fun e h ⟨H, hq1⟩ => ?_)
  rotate_left
  · unfold l_exCosts.j3 at H
    refine WPc_seq (fun e h => l_exCosts.j4 (e 1) (e 4) (e 5) (e 6) h K1 Q ∧ [e1 4, e1 5] = [e 4, e 5]) ?_ (fun e h ⟨H, hq1⟩ => ?_)
    rotate_left
    · unfold l_exCosts.j4 at H
      refine W_region (by kernel_rfl) <| nP R_add H fun t15 H => nM t15 rfl <| vl_e ?_
      exact ⟨H, hq1⟩
    refine WPc_block <| sR <| nP (R_idx TE_22) H fun _ H => nLN TN_27 H fun _ H => vl_n <| H_alloc TV_27 H fun _ h H => vl_n <| H_storeN TS_27 H fun h H => vl_e <| W_region (by kernel_rfl) <| nM (e 1) rfl <| nLN TN_27 H fun _ H => nP (R_build TB_144 rfl (by decide)) H fun _ H => vl_n <| H_mkSl TZ_57 (by decide) rfl H rfl fun _ h H => vl_n <| H_app TZ_57 TU_57 H fun t14 h H => nS t14 rfl ?_
    refine vl_e ?_
    exact ⟨H, hq1⟩
  refine cI H (fun H => ?_) fun H => ?_
  · refine WPc_skip ?_
    exact ⟨H, rfl⟩
  · refine WPc_exit ?_
    exact H
/-! ### laws.rising -/
def l_rising.j1 (s5 : Value) (h : Heap) (Q : Value → Heap → Prop) : Prop := Q s5 h
def l_rising.j4 (s0 s1 s5 s8 s9 : Value) (h : Heap) (K1 : List Value → Heap → Prop) (Q : Value → Heap → Prop) : Prop := arith (· + ·) s9 (.int .i64 1) fun b=>K1 [s5, b] h
def l_rising.j5 (s0 s1 s5 s7 s8 s9 : Value) (h : Heap) (K1 : List Value → Heap → Prop) (Q : Value → Heap → Prop) : Prop := loadN 9 s7 h fun b=>mkSl (if 1 * 9 = 0 then [] else zeros [(.int .i64 0), (.int .i64 0), (.int .i64 0), (.int .i64 0), (.int .i64 0), (.int .i64 0), (.int .i64 0), (.bool false), (.bool false)] 1) 1 [(0 * 9, 9, b)] 144 h fun d h=>app 144 9 64 [(.int .i64 0), (.int .i64 0), (.int .i64 0), (.int .i64 0), (.int .i64 0), (.int .i64 0), (.int .i64 0), (.bool false), (.bool false)] s5 d h fun g h=>l_rising.j4 s0 s1 g s8 s9 h K1 Q
def l_rising.j3 (s0 s1 s5 s8 s9 : Value) (h : Heap) (K1 : List Value → Heap → Prop) (Q : Value → Heap → Prop) : Prop := buildV [(.int .i64 0), (.int .i64 0)] [(0, 1, s9)] fun b=>cmpI (fun a b=>a == b) s1 (.int .u8 1) fun d=>buildV [(.int .i64 0), (.int .i64 0), (.int .i64 0), (.int .i64 0), (.int .i64 0), (.int .i64 0), (.int .i64 0), (.bool false), (.bool false)] [(0, 1, (.int .i64 0)), (2, 2, b), (7, 1, d)] fun g=>alloc [(.int .i64 0), (.int .i64 0), (.int .i64 0), (.int .i64 0), (.int .i64 0), (.int .i64 0), (.int .i64 0), (.bool false), (.bool false)] 144 h fun i h=>storeN 9 i g h fun h=>cmpI (fun a b=>a == b) s1 (.int .u8 2) fun j=>ifV j (fld 0 i fun k=>store1 k (.int .i64 1) h fun h=>l_rising.j5 s0 s1 s5 i s8 s9 h K1 Q) (cmpI (fun a b=>a == b) s1 (.int .u8 3) fun l=>ifV l (arith (· - ·) s0 (.int .i64 1) fun m=>arith (· - ·) m s9 fun n=>fld 2 i fun o=>fld 0 o fun p=>store1 p n h fun h=>l_rising.j5 s0 s1 s5 i s8 s9 h K1 Q) (l_rising.j5 s0 s1 s5 i s8 s9 h K1 Q))
def l_rising.l2.b (c0 c1 c8 s5 s9 : Value) (h : Heap) (K1 : List Value → Heap → Prop) (Q : Value → Heap → Prop) : Prop := cmpI (fun a b=>decide (a < b)) s9 c8 fun b=>ifV b (l_rising.j3 c0 c1 s5 c8 s9 h K1 Q) (l_rising.j1 s5 h Q)
def l_rising.sh (a0 a1 : Value) (h : Heap) (Q : Value → Heap → Prop) : Prop := loopC (fun c s h K1=>l_rising.l2.b (c.getD 0 undef) (c.getD 1 undef) (c.getD 2 undef) (s.getD 0 undef) (s.getD 1 undef) h K1 Q) [a0, a1, a0] [(.slice none 0 0), (.int .i64 0)] h
theorem l_rising.body (a0 a1 : Value) (h : Heap) (Q : Value → Heap → Prop) (H : l_rising.sh a0 a1 h Q) : l_rising.call #[a0, a1] h Q := by
  refine callsH_of (args := [a0, a1]) Try.func28 rfl rfl ?_
  unfold l_rising.sh at H
  refine sR <| nS (.slice none 0 0) rfl <| vl_e <| sR <| nS (.slice none 0 0) rfl <| vl_e ?_
  refine WPc_seq (fun e h => l_rising.j1 (e 5) h Q) ?_ (fun e h H => ?_)
  rotate_left
  · unfold l_rising.j1 at H
    exact sR <| nM (e 5) rfl <| nS (e 5) rfl <| vl_e <| WPc_ret <| resH_of rfl <| H
  refine sR <| nM a0 rfl <| nM (.int .i64 0) rfl <| vl_e <| WPc_block ?_
  refine loop_at (fun e => [e 5, e 9]) (fun e => [e 0, e 1, e 8]) H rfl rfl ?_
  intro K1 e1 h H hin1
  replace H : l_rising.l2.b (e1 0) (e1 1) (e1 8) (e1 5) (e1 9) h K1 Q := H
  unfold l_rising.l2.b at H
  clear hin1
  refine sR <| nP R_lss H fun _ H => vl_e ?_
  refine WPc_seq (fun e h => l_rising.j3 (e 0) (e 1) (e 5) (e 8) (e 9) h K1 Q ∧ [e1 0, e1 1, e1 8] = [e 0, e 1, e 8]) ?_ (fun e h ⟨H, hq1⟩ => ?_)
  rotate_left
  · unfold l_rising.j3 at H
    refine WPc_seq (fun e h => l_rising.j4 (e 0) (e 1) (e 5) (e 8) (e 9) h K1 Q ∧ [e1 0, e1 1, e1 8] = [e 0, e 1, e 8]) ?_ (fun e h ⟨H, hq1⟩ => ?_)
    rotate_left
    · unfold l_rising.j4 at H
      refine W_region (by kernel_rfl) <| nP R_add H fun t33 H => nM t33 rfl <| vl_e ?_
      exact ⟨H, hq1⟩
    refine WPc_block <| sR <| nM (e 9) rfl <| nS (e 9) rfl <| vl_e <| sR <| nM (e 9) rfl <| nP (R_build TB_27 rfl (by decide)) H fun _ H => nM (e 1) rfl <| nP R_eqI H fun _ H => nP (R_build TB_144 rfl (by decide)) H fun _ H => vl_n <| H_alloc TV_144 H fun _ h H => vl_n <| H_storeN TS_144 H fun h H => vl_e ?_
    refine WPc_seq (fun e h => l_rising.j5 (e 0) (e 1) (e 5) (e 7) (e 8) (e 9) h K1 Q ∧ [e1 0, e1 1, e1 8] = [e 0, e 1, e 8]) ?_ (fun e h ⟨H, hq1⟩ => ?_)
    rotate_left
    · unfold l_rising.j5 at H
      refine W_region (by kernel_rfl) <| nM (e 5) rfl <| nLN TN_144 H fun _ H => vl_n <| H_mkSl TZ_57 (by decide) rfl H rfl fun _ h H => vl_n <| H_app TZ_57 TU_57 H fun t32 h H => nS t32 rfl <| vl_e ?_
      exact ⟨H, hq1⟩
    refine sR <| nM (e 1) rfl <| vl_e <| WPc_block <| sR <| nP R_eqI H fun t19 H => nS t19 rfl <| vl_e ?_
    refine cI H (fun H => ?_) fun H => ?_
    · refine W_region (by kernel_rfl) <| nP (R_fld TF_144_0) H fun _ H => vl_n <| H_store1 TS_3 H fun h H => vl_e ?_
      exact ⟨H, hq1⟩
    · refine sR <| nP R_eqI H fun t22 H => nS t22 rfl <| vl_e ?_
      refine cI H (fun H => ?_) fun H => ?_
      · refine W_region (by kernel_rfl) <| nM (e 0) rfl <| nP R_sub H fun _ H => nM (e 9) rfl <| nP R_sub H fun _ H => nP (R_fld TF_144_2) H fun _ H => nP (R_fld TF_27_0) H fun _ H => vl_n <| H_store1 TS_3 H fun h H => vl_e ?_
        exact ⟨H, hq1⟩
      · refine WPc_skip ?_
        exact ⟨H, hq1⟩
  refine cI H (fun H => ?_) fun H => ?_
  · refine WPc_skip ?_
    exact ⟨H, rfl⟩
  · refine WPc_exit ?_
    exact H
/-! ### spec.Rows -/
def s_Rows.j2 (s6 s7 : Value) (h : Heap) (Q : Value → Heap → Prop) : Prop := Q (.tuple #[s6, s7]) h
def s_Rows.j5 (s0 s6 s7 s8 : Value) (h : Heap) (K1 : List Value → Heap → Prop) (Q : Value → Heap → Prop) : Prop := arith (· - ·) s8 (.int .i64 1) fun b=>divi b s0 fun d=>max2V (.int .i64 1) d fun g=>K1 [s7, g] h
def s_Rows.j4 (s0 s6 s7 s8 : Value) (h : Heap) (K1 : List Value → Heap → Prop) (Q : Value → Heap → Prop) : Prop := arith (· + ·) s7 (.int .i64 1) fun b=>s_Rows.j5 s0 s6 b s8 h K1 Q
def s_Rows.l3.b (c0 c6 s7 s8 : Value) (h : Heap) (K1 : List Value → Heap → Prop) (Q : Value → Heap → Prop) : Prop := cmpI (fun a b=>decide (a > b)) s8 (.int .i64 1) fun b=>ifV b (s_Rows.j4 c0 c6 s7 s8 h K1 Q) (s_Rows.j2 c6 s7 h Q)
def s_Rows.j1 (s0 s1 : Value) (h : Heap) (Q : Value → Heap → Prop) : Prop := divi s1 s0 fun b=>max2V (.int .i64 1) b fun d=>loopC (fun c s h K1=>s_Rows.l3.b (c.getD 0 undef) (c.getD 1 undef) (s.getD 0 undef) (s.getD 1 undef) h K1 Q) [s0, d] [(.int .i64 1), d] h
def s_Rows.sh (a0 a1 : Value) (h : Heap) (Q : Value → Heap → Prop) : Prop := cmpI (fun a b=>decide (a < b)) a1 (.int .i64 1) fun b=>ifV b (Q (.tuple #[(.int .i64 0), (.int .i64 0)]) h) (s_Rows.j1 a0 a1 h Q)
theorem s_Rows.body (a0 a1 : Value) (h : Heap) (Q : Value → Heap → Prop) (H : s_Rows.sh a0 a1 h Q) : s_Rows.call #[a0, a1] h Q := by
  refine callsH_of (args := [a0, a1]) Try.func29 rfl rfl ?_
  unfold s_Rows.sh at H
  refine sR <| nS (.int .i64 0) rfl <| nS (.int .i64 0) rfl <| vl_e ?_
  refine WPc_seq (fun e h => s_Rows.j1 (e 0) (e 1) h Q) ?_ (fun e h H => ?_)
  rotate_left
  · unfold s_Rows.j1 at H
    refine sR <| nM (e 1) rfl <| nM (e 0) rfl <| nP R_quo H fun _ H => nP R_max H fun t14 H => nS t14 rfl <| vl_e <| sR <| nS (.int .i64 1) rfl <| vl_e ?_
    refine WPc_seq (fun e h => s_Rows.j2 (e 6) (e 7) h Q) ?_ (fun e h H => ?_)
    rotate_left
    · unfold s_Rows.j2 at H
      exact sR <| nM (e 6) rfl <| nM (e 7) rfl <| nS (e 6) rfl <| nS (e 7) rfl <| vl_e <| WPc_ret <| resH_of rfl <| H
    refine sR <| nM t14 rfl <| nS t14 rfl <| vl_e <| WPc_block ?_
    refine loop_at (fun e => [e 7, e 8]) (fun e => [e 0, e 6]) H rfl rfl ?_
    intro K1 e1 h H hin1
    replace H : s_Rows.l3.b (e1 0) (e1 6) (e1 7) (e1 8) h K1 Q := H
    unfold s_Rows.l3.b at H
    clear hin1
    refine WPc_seq (fun e h => s_Rows.j4 (e 0) (e 6) (e 7) (e 8) h K1 Q ∧ [e1 0, e1 6] = [e 0, e 6]) ?_ (fun e h ⟨H, hq1⟩ => ?_)
    rotate_left
    · unfold s_Rows.j4 at H
      refine WPc_seq (fun e h => s_Rows.j5 (e 0) (e 6) (e 7) (e 8) h K1 Q ∧ [e1 0, e1 6] = [e 0, e 6]) ?_ (fun e h ⟨H, hq1⟩ => ?_)
      rotate_left
      · unfold s_Rows.j5 at H
        refine W_region (by kernel_rfl) <| nM (e 8) rfl <| nP R_sub H fun _ H => nM (e 0) rfl <| nP R_quo H fun _ H => nP R_max H fun t22 H => nS t22 rfl <| vl_e ?_
        exact ⟨H, hq1⟩
      refine WPc_block <| W_region (by kernel_rfl) <| nM (e 7) rfl <| nP R_add H fun t24 H => nS t24 rfl <| vl_e ?_
      exact ⟨H, hq1⟩
    refine sR <| nM (e1 8) rfl <| nP R_gtr H fun _ H => vl_e ?_
    refine cI H (fun H => ?_) fun H => ?_
    · refine WPc_skip ?_
      exact ⟨H, rfl⟩
    · refine WPc_exit ?_
      exact H
  refine sR <| nM a1 rfl <| nP R_lss H fun _ H => vl_e ?_
  refine cI H (fun H => ?_) fun H => ?_
  · exact sR <| nS (.int .i64 0) rfl <| nS (.int .i64 0) rfl <| vl_e <| WPc_ret <| resH_of rfl <| H
  · exact WPc_skip <| H

end Go.Proofs.Ytkkappjbcgnacaa
end
section
namespace Go.Proofs.Ytkkappjbcgnacaa
open Go.Hp
set_option maxRecDepth 100000
set_option maxHeartbeats 8000000
set_option linter.unusedVariables false
set_option linter.unusedSimpArgs false

/-! ### (*pub/tidwallbtree.Map[int, int]).isoLoad -/
def Map_ii_isoLoad.j1 (s1 : Value) (h : Heap) (Q : Value → Heap → Prop) : Prop := nilck s1 fun b=>load1 b h fun d=>Q d h
def Map_ii_isoLoad.sh (a0 a1 a2 : Value) (h : Heap) (Q : Value → Heap → Prop) : Prop := br a2 true (nilck a1 fun b=>load1 b h fun d=>nilck d fun g=>fld 0 g fun i=>load1 i h fun j=>nilck a0 fun k=>fld 0 k fun l=>load1 l h fun m=>cmpI (fun a b=>a != b) j m fun n=>ifV n (nilck a1 fun o=>load1 o h fun p=>Map_ii_copy.call #[a0, p] h fun q h=>nilck a1 fun u=>store1 u q h fun h=>Map_ii_isoLoad.j1 a1 h Q) (Map_ii_isoLoad.j1 a1 h Q)) (Map_ii_isoLoad.j1 a1 h Q)
theorem Map_ii_isoLoad.body (a0 a1 a2 : Value) (h : Heap) (Q : Value → Heap → Prop) (H : Map_ii_isoLoad.sh a0 a1 a2 h Q) : Map_ii_isoLoad.call #[a0, a1, a2] h Q := by
  refine callsH_of (args := [a0, a1, a2]) Try.func146 rfl rfl ?_
  unfold Map_ii_isoLoad.sh at H
  refine sR <| nS (.pointer none) rfl <| vl_e ?_
  refine WPc_seq (fun e h => Map_ii_isoLoad.j1 (e 1) h Q) ?_ (fun e h H => ?_)
  rotate_left
  · unfold Map_ii_isoLoad.j1 at H
    exact sR <| nM (e 1) rfl <| nP R_nil H fun _ H => nL T1_211 H fun t30 H => nS t30 rfl <| vl_e <| WPc_ret <| resH_of rfl <| H
  refine WPc_seq' <| W_drawn [0, 1, 3, 7, 15, 31, 63, 127, 3, 259, 771, 1795, 4095, 8191] (.take 0 (.take 1 (.take 2 (.take 3 (.take 4 (.take 5 (.take 6 (.take 7 (.take 8 (.take 9 (.take 10 (.take 11 (.take 12 (.take 13 .done)))))))))))))) mixed (by kernel_rfl) <| pM a2 rfl rfl <| pM a2 rfl rfl ?_
  obtain ⟨b, hb, H1, H2⟩ := H
  cases b
  · have H := H2 rfl
    clear H1 H2
    refine tk_s rfl rfl (nbT hb) ?_
    refine tk_s rfl rfl (nbT hb) ?_
    refine tk_s rfl rfl (nbT hb) ?_
    refine tk_s rfl rfl (nbT hb) ?_
    refine tk_s rfl rfl (nbT hb) ?_
    refine tk_s rfl rfl (nbT hb) ?_
    refine tk_s rfl rfl (nbT hb) ?_
    refine tk_s rfl rfl (nbT hb) ?_
    refine tk_s rfl rfl (nbT hb) ?_
    refine tk_s rfl rfl (nbT hb) ?_
    refine tk_s rfl rfl (nbT hb) ?_
    refine pA rfl (R_pickC (v := (.bool false)) false hb rfl) <| vp_done ?_
    refine WPc_cond (t := false) rfl (fun hh => by cases hh) (fun _ => ?_)
    exact WPc_skip <| H
  · have H := H1 rfl
    clear H1 H2
    refine tkPy rfl rfl hb ?_
    refine R_move (v := a1) rfl ⟨fun _ => trivial, ?_⟩
    refine tkPy rfl rfl hb ?_
    refine R_nil H fun _ H => ⟨fun _ => trivial, ?_⟩
    refine tkLy rfl rfl hb ?_
    refine R_load1 T1_211 H fun _ _ _ _ H => ?_
    refine tkPy rfl rfl hb ?_
    refine R_nil H fun _ H => ⟨fun _ => trivial, ?_⟩
    refine tkPy rfl rfl hb ?_
    refine R_fld TF_225_0 H fun _ H => ⟨fun _ => trivial, ?_⟩
    refine tkLy rfl rfl hb ?_
    refine R_load1 T1_192 H fun _ _ _ _ H => ?_
    refine tkPy rfl rfl hb ?_
    refine R_move (v := a0) rfl ⟨fun _ => trivial, ?_⟩
    refine tkPy rfl rfl hb ?_
    refine R_nil H fun _ H => ⟨fun _ => trivial, ?_⟩
    refine tkPy rfl rfl hb ?_
    refine R_fld TF_219_0 H fun _ H => ⟨fun _ => trivial, ?_⟩
    refine tkLy rfl rfl hb ?_
    refine R_load1 T1_192 H fun _ _ _ _ H => ?_
    refine tkPy rfl rfl hb ?_
    refine R_neI H fun t19 H => ⟨fun _ => trivial, ?_⟩
    refine pA rfl (R_pickC (v := t19) true hb rfl) <| vp_done ?_
    refine cI H (fun H => ?_) fun H => ?_
    · exact W_region (by kernel_rfl) <| nM a1 rfl <| nM a0 rfl <| nM a1 rfl <| nP R_nil H fun _ H => nL T1_211 H fun _ H => vl_n <| H_call HB_201 H fun _ h H => nP R_nil H fun _ H => vl_n <| H_store1 TS_211 H fun h H => vl_e <| H
    · exact WPc_skip <| H
end Go.Proofs.Ytkkappjbcgnacaa
end
section
namespace Go.Proofs.Ytkkappjbcgnacaa
open Go.Hp
set_option maxRecDepth 100000
set_option maxHeartbeats 8000000
set_option linter.unusedVariables false
set_option linter.unusedSimpArgs false

/-! ### laws.FnMRising -/
def l_FnMRising.j1 (s0 s1 s2 : Value) (h : Heap) (Q : Value → Heap → Prop) : Prop := cvI .i64 s1 fun b=>l_rising.call #[b, s2] h fun d h=>i_MShapes.call #[s0, d] h fun g h=>cvI .i64 s1 fun i=>s_Rows.call #[s0, i] h fun j h=>extr 0 j fun k=>extr 1 j fun l=>lenV g fun m=>cmpI (fun a b=>a == b) m (.int .i64 1) fun n=>br n true (idx 3 g (.int .i64 0) fun o=>fld 0 o fun p=>load1 p h fun q=>cmpI (fun a b=>a == b) q l fun u=>br u true (idx 3 g (.int .i64 0) fun v=>fld 1 v fun w=>load1 w h fun x=>cvI .i64 s1 fun y=>cmpI (fun a b=>a == b) x y fun z=>br z true (l_exCosts.call #[] h fun b0 h=>i_MShapes.call #[(.int .i64 2), b0] h fun b1 h=>l_aliveShapes.call #[b1] h fun b2 h=>Q b2 h) (Q (.bool false) h)) (Q (.bool false) h)) (Q (.bool false) h)
def l_FnMRising.sh (a0 a1 a2 : Value) (h : Heap) (Q : Value → Heap → Prop) : Prop := l_fit.call #[a0] h fun b h=>notV b fun d=>br d false (cmpI (fun a b=>decide (a > b)) a1 (.int .u16 4000) fun g=>ifV g (l_exCosts.call #[] h fun i h=>i_MShapes.call #[(.int .i64 2), i] h fun j h=>l_aliveShapes.call #[j] h fun k h=>Q k h) (l_FnMRising.j1 a0 a1 a2 h Q)) (l_exCosts.call #[] h fun l h=>i_MShapes.call #[(.int .i64 2), l] h fun m h=>l_aliveShapes.call #[m] h fun n h=>Q n h)
theorem l_FnMRising.body (a0 a1 a2 : Value) (h : Heap) (Q : Value → Heap → Prop) (H : l_FnMRising.sh a0 a1 a2 h Q) : l_FnMRising.call #[a0, a1, a2] h Q := by
  refine callsH_of (args := [a0, a1, a2]) Try.func5 rfl rfl ?_
  unfold l_FnMRising.sh at H
  refine sR <| nS (.bool false) rfl <| vl_e ?_
  refine WPc_seq (fun e h => l_FnMRising.j1 (e 0) (e 1) (e 2) h Q) ?_ (fun e h H => ?_)
  rotate_left
  · unfold l_FnMRising.j1 at H
    refine sR <| nM (e 0) rfl <| nM (e 1) rfl <| nP (R_cvI Try.underlying53 Try.underlying3) H fun _ H => nM (e 2) rfl <| vl_n <| H_call HB_28 H fun _ h H => vl_n <| H_call HB_26 H fun t25 h H => nS t25 rfl <| vl_e <| sR <| nM (e 0) rfl <| nM (e 1) rfl <| nP (R_cvI Try.underlying53 Try.underlying3) H fun _ H => vl_n <| H_call HB_29 H fun t30 h H => ?_
    refine nM t30 rfl <| nP R_ext H fun t31 H => nP R_ext H fun t32 H => nS t31 rfl <| nS t32 rfl <| vl_e <| sR <| nM t25 rfl <| nP (R_len Try.underlying55) H fun _ H => nP R_eqI H fun t35 H => nM t35 rfl ?_
    obtain ⟨b, hb, H1, H2⟩ := H
    cases b
    · have H := H2 rfl
      clear H1 H2
      refine vl_s rfl (nbT hb) ?_
      refine vl_s rfl (nbT hb) ?_
      refine vl_s rfl (nbT hb) ?_
      refine vl_s rfl (nbT hb) ?_
      refine vl_s rfl (nbT hb) ?_
      refine vl_s rfl (nbT hb) ?_
      refine nA (R_pickC (v := (.bool false)) false hb rfl) <| nM (.bool false) rfl ?_
      refine vl_s rfl (nbT rfl) ?_
      refine vl_s rfl (nbT rfl) ?_
      refine vl_s rfl (nbT rfl) ?_
      refine vl_s rfl (nbT rfl) ?_
      refine vl_s rfl (nbT rfl) ?_
      refine vl_s rfl (nbT rfl) ?_
      refine vl_s rfl (nbT rfl) ?_
      refine nA (R_pickC (v := (.bool false)) false rfl rfl) <| nM (.bool false) rfl ?_
      refine vl_s rfl (nbT rfl) ?_
      refine vl_s rfl (nbT rfl) ?_
      refine vl_s rfl (nbT rfl) ?_
      exact nA (R_pickC (v := (.bool false)) false rfl rfl) <| nS (.bool false) rfl <| vl_e <| WPc_ret <| resH_of rfl <| H
    · have H := H1 rfl
      clear H1 H2
      refine vl_y rfl hb ?_
      refine H_of_R (R_move (v := t25) rfl ?_)
      refine vl_y rfl hb ?_
      refine H_of_R (R_idx TE_55 H fun _ H => ?_)
      refine vl_y rfl hb ?_
      refine H_of_R (R_fld TF_64_0 H fun _ H => ?_)
      refine vl_y rfl hb ?_
      refine H_of_R (R_load1 T1_3 H fun _ _ _ _ H => ?_)
      refine vl_y rfl hb ?_
      refine H_of_R (R_move (v := t32) rfl ?_)
      refine vl_y rfl hb ?_
      refine H_of_R (R_eqI H fun t42 H => ?_)
      refine nA (R_pickC (v := t42) true hb rfl) <| nM t42 rfl ?_
      obtain ⟨b_2, hb_2, H1, H2⟩ := H
      cases b_2
      · have H := H2 rfl
        clear H1 H2
        refine vl_s rfl (nbT hb_2) ?_
        refine vl_s rfl (nbT hb_2) ?_
        refine vl_s rfl (nbT hb_2) ?_
        refine vl_s rfl (nbT hb_2) ?_
        refine vl_s rfl (nbT hb_2) ?_
        refine vl_s rfl (nbT hb_2) ?_
        refine vl_s rfl (nbT hb_2) ?_
        refine nA (R_pickC (v := (.bool false)) false hb_2 rfl) <| nM (.bool false) rfl ?_
        refine vl_s rfl (nbT rfl) ?_
        refine vl_s rfl (nbT rfl) ?_
        refine vl_s rfl (nbT rfl) ?_
        exact nA (R_pickC (v := (.bool false)) false rfl rfl) <| nS (.bool false) rfl <| vl_e <| WPc_ret <| resH_of rfl <| H
      · have H := H1 rfl
        clear H1 H2
        refine vl_y rfl hb_2 ?_
        refine H_of_R (R_move (v := t25) rfl ?_)
        refine vl_y rfl hb_2 ?_
        refine H_of_R (R_idx TE_55 H fun _ H => ?_)
        refine vl_y rfl hb_2 ?_
        refine H_of_R (R_fld TF_64_1 H fun _ H => ?_)
        refine vl_y rfl hb_2 ?_
        refine H_of_R (R_load1 T1_3 H fun _ _ _ _ H => ?_)
        refine vl_y rfl hb_2 ?_
        refine H_of_R (R_move (v := (e 1)) rfl ?_)
        refine vl_y rfl hb_2 ?_
        refine H_of_R (R_cvI Try.underlying53 Try.underlying3 H fun _ H => ?_)
        refine vl_y rfl hb_2 ?_
        refine H_of_R (R_eqI H fun t51 H => ?_)
        refine nA (R_pickC (v := t51) true hb_2 rfl) <| nM t51 rfl ?_
        obtain ⟨b_3, hb_3, H1, H2⟩ := H
        cases b_3
        · have H := H2 rfl
          clear H1 H2
          refine vl_s rfl (nbT hb_3) ?_
          refine vl_s rfl (nbT hb_3) ?_
          refine vl_s rfl (nbT hb_3) ?_
          exact nA (R_pickC (v := (.bool false)) false hb_3 rfl) <| nS (.bool false) rfl <| vl_e <| WPc_ret <| resH_of rfl <| H
        · have H := H1 rfl
          clear H1 H2
          refine vl_y rfl hb_3 ?_
          refine H_call HB_27 H fun _ h H => ?_
          refine vl_y rfl hb_3 ?_
          refine H_call HB_26 H fun _ h H => ?_
          refine vl_y rfl hb_3 ?_
          refine H_call HB_25 H fun t56 h H => ?_
          exact nA (R_pickC (v := t56) true hb_3 rfl) <| nS t56 rfl <| vl_e <| WPc_ret <| resH_of rfl <| H
  refine sR <| nM a0 rfl <| vl_n <| H_call HB_17 H fun _ h H => nP R_not H fun t12 H => nM t12 rfl ?_
  obtain ⟨b, hb, H1, H2⟩ := H
  cases b
  · have H := H1 rfl
    clear H1 H2
    refine vl_y rfl hb ?_
    refine H_of_R (R_move (v := a1) rfl ?_)
    refine vl_y rfl hb ?_
    refine H_of_R (R_gtr H fun t15 H => ?_)
    refine nA (R_pickC (v := t15) false hb rfl) <| vl_e ?_
    refine cI H (fun H => ?_) fun H => ?_
    · exact sR <| vl_n <| H_call HB_27 H fun _ h H => vl_n <| H_call HB_26 H fun _ h H => vl_n <| H_call HB_25 H fun t19 h H => nS t19 rfl <| vl_e <| WPc_ret <| resH_of rfl <| H
    · exact WPc_skip <| H
  · have H := H2 rfl
    clear H1 H2
    refine vl_s rfl (nbF hb) ?_
    refine vl_s rfl (nbF hb) ?_
    refine nA (R_pickC (v := (.bool true)) true hb rfl) <| vl_e ?_
    refine WPc_cond (t := true) rfl (fun _ => ?_) (fun hh => by cases hh)
    exact sR <| vl_n <| H_call HB_27 H fun _ h H => vl_n <| H_call HB_26 H fun _ h H => vl_n <| H_call HB_25 H fun t19_2 h H => nS t19_2 rfl <| vl_e <| WPc_ret <| resH_of rfl <| H
end Go.Proofs.Ytkkappjbcgnacaa
end
section
namespace Go.Proofs.Ytkkappjbcgnacaa
open Go.Hp
set_option maxRecDepth 100000
set_option maxHeartbeats 8000000
set_option linter.unusedVariables false
set_option linter.unusedSimpArgs false

/-! ### (*pub/tidwallbtree.Map[int, int]).nodeSplit -/
def Map_ii_nodeSplit.j2 (s1 s4 s5 : Value) (h : Heap) (Q : Value → Heap → Prop) : Prop := mapNode_ii_updateCount.call #[s1] h fun b h=>loadN 2 s5 h fun d=>storeN 2 s5 d h fun h=>loadN 2 s5 h fun g=>Q (.tuple #[s4, g]) h
def Map_ii_nodeSplit.j1 (s0 s1 s4 s5 s6 : Value) (h : Heap) (Q : Value → Heap → Prop) : Prop := mapNode_ii_updateCount.call #[s4] h fun b h=>nilck s1 fun d=>fld 2 d fun g=>load1 g h fun i=>nilck s0 fun j=>fld 4 j fun k=>loadN 2 k h fun l=>idx 2 i s6 fun m=>storeN 2 m l h fun h=>nilck s1 fun n=>fld 2 n fun o=>load1 o h fun p=>slc 2 p none (some s6) (some s6) fun q=>nilck s1 fun u=>fld 2 u fun v=>store1 v q h fun h=>mapNode_ii_leaf.call #[s1] h fun w h=>notV w fun x=>ifV x (nilck s1 fun y=>fld 3 y fun z=>load1 z h fun b0=>nilck s1 fun b1=>fld 3 b1 fun b2=>load1 b2 h fun b3=>nilck b3 fun b4=>load1 b4 h fun b5=>arith (· + ·) s6 (.int .i64 1) fun b6=>arith (· + ·) s6 (.int .i64 1) fun b7=>slc 1 b5 none (some b6) (some b7) fun b8=>nilck b0 fun b9=>store1 b9 b8 h fun h=>Map_ii_nodeSplit.j2 s1 s4 s5 h Q) (Map_ii_nodeSplit.j2 s1 s4 s5 h Q)
def Map_ii_nodeSplit.sh (a0 a1 : Value) (h : Heap) (Q : Value → Heap → Prop) : Prop := alloc [(.int .i64 0), (.int .i64 0)] 216 h fun b h=>nilck a0 fun d=>fld 7 d fun g=>load1 g h fun i=>divi i (.int .i64 2) fun j=>nilck a1 fun k=>fld 2 k fun l=>load1 l h fun m=>idx 2 m j fun n=>loadN 2 n h fun o=>storeN 2 b o h fun h=>mapNode_ii_leaf.call #[a1] h fun p h=>Map_ii_newNode.call #[a0, p] h fun q h=>nilck a1 fun u=>fld 2 u fun v=>load1 v h fun w=>arith (· + ·) j (.int .i64 1) fun x=>slc 2 w (some x) none none fun y=>nilck q fun z=>fld 2 z fun b0=>store1 b0 y h fun h=>mapNode_ii_leaf.call #[a1] h fun b1 h=>notV b1 fun b2=>ifV b2 (nilck q fun b3=>fld 3 b3 fun b4=>load1 b4 h fun b5=>nilck a1 fun b6=>fld 3 b6 fun b7=>load1 b7 h fun b8=>nilck b8 fun b9=>load1 b9 h fun d0=>arith (· + ·) j (.int .i64 1) fun d1=>slc 1 d0 (some d1) none none fun d2=>nilck b5 fun d3=>store1 d3 d2 h fun h=>Map_ii_nodeSplit.j1 a0 a1 q b j h Q) (Map_ii_nodeSplit.j1 a0 a1 q b j h Q)
theorem Map_ii_nodeSplit.body (a0 a1 : Value) (h : Heap) (Q : Value → Heap → Prop) (H : Map_ii_nodeSplit.sh a0 a1 h Q) : Map_ii_nodeSplit.call #[a0, a1] h Q := by
  refine callsH_of (args := [a0, a1]) Try.func130 rfl rfl ?_
  unfold Map_ii_nodeSplit.sh at H
  refine sR <| nS (.pointer none) rfl <| vl_n <| H_alloc TV_216 H fun _ h H => vl_e <| sR <| nM a0 rfl <| nP R_nil H fun _ H => nP (R_fld TF_219_6) H fun _ H => nL T1_3 H fun _ H => nP R_quo H fun t11 H => nS t11 rfl <| vl_e <| sR <| nM a1 rfl ?_
  refine nP R_nil H fun _ H => nP (R_fld TF_225_2) H fun _ H => nL T1_222 H fun _ H => nM t11 rfl <| nP (R_idx TE_222) H fun _ H => nLN TN_216 H fun _ H => vl_n <| H_storeN TS_216 H fun h H => vl_e <| sR <| nM a0 rfl <| nM a1 rfl <| vl_n <| H_call HB_143 H fun _ h H => vl_n <| H_call HB_128 H fun t22 h H => nS t22 rfl ?_
  refine vl_e <| sR <| nM t22 rfl <| nM a1 rfl <| nP R_nil H fun _ H => nP (R_fld TF_225_2) H fun _ H => nL T1_222 H fun _ H => nM t11 rfl <| nP R_add H fun _ H => nP (R_slice TE_222 (by decide)) H fun _ H => nP R_nil H fun _ H => nP (R_fld TF_225_2) H fun _ H => vl_n <| H_store1 TS_222 H fun h H => vl_e ?_
  refine WPc_seq (fun e h => Map_ii_nodeSplit.j1 (e 0) (e 1) (e 4) (e 5) (e 6) h Q) ?_ (fun e h H => ?_)
  rotate_left
  · unfold Map_ii_nodeSplit.j1 at H
    refine sR <| nM (e 4) rfl <| vl_n <| H_call HB_131 H fun _ h H => vl_e <| WPc_seq' <| W_drawn [0, 1, 3, 7, 0, 0, 32, 96, 224, 511, 1023] (.take 0 (.take 1 (.take 2 (.take 3 (.take 4 (.take 5 (.take 6 (.take 7 (.take 8 (.take 9 (.alt 10 .done .none))))))))))) mixed (by kernel_rfl) <| pM (e 1) rfl rfl <| pP rfl R_nil H fun _ H => pP rfl (R_fld TF_225_2) H fun _ H => pL rfl T1_222 H fun _ _ _ H => pM (e 6) rfl rfl <| pM (e 0) rfl rfl <| pP rfl R_nil H fun _ H => pP rfl (R_fld TF_219_4) H fun _ H => ?_
    refine tkL rfl <| R_loadN TN_216 H fun _ _ _ _ H _ _ => pP rfl (R_idx TE_222) H fun _ H => aE rfl <| H_storeN TS_216 H fun h H => ⟨(hskip rfl (hskip rfl hnil)), vp_done <| sR <| nM (e 1) rfl <| nM (e 1) rfl <| nP R_nil H fun _ H => nP (R_fld TF_225_2) H fun _ H => nL T1_222 H fun _ H => nM (e 6) rfl <| nM (e 6) rfl <| nP (R_slice TE_222 (by decide)) H fun _ H => nP R_nil H fun _ H => ?_⟩
    refine nP (R_fld TF_225_2) H fun _ H => vl_n <| H_store1 TS_222 H fun h H => vl_e ?_
    refine WPc_seq (fun e h => Map_ii_nodeSplit.j2 (e 1) (e 4) (e 5) h Q) ?_ (fun e h H => ?_)
    rotate_left
    · unfold Map_ii_nodeSplit.j2 at H
      refine sR <| nM (e 1) rfl <| vl_n <| H_call HB_131 H fun _ h H => vl_e <| WPc_seq' <| W_drawn [0, 0, 1, 7] (.take 0 (.take 1 (.take 2 (.alt 3 .done .none)))) mixed (by kernel_rfl) <| pM (e 4) rfl rfl <| tkL rfl <| R_loadN TN_216 H fun _ _ _ _ H _ _ => pS (e 4) rfl rfl <| aE rfl <| H_storeN TS_216 H fun h H => ⟨(hskip rfl hnil), vp_done <| WPc_ret <| resH_of rfl <| resL_t ?_⟩
      exact resL_N TN_216 <| loadN_imp H fun r5 H => H
    refine sR <| nM (e 1) rfl <| vl_n <| H_call HB_143 H fun _ h H => nP R_not H fun _ H => vl_e ?_
    refine cI H (fun H => ?_) fun H => ?_
    · refine W_drawn [0, 1, 3, 7, 0, 16, 48, 112, 240, 496, 0, 1024, 0, 4096, 16368, 32767, 65535] (.take 0 (.take 1 (.take 2 (.take 3 (.take 4 (.take 5 (.take 6 (.take 7 (.take 8 (.take 9 (.take 10 (.take 11 (.take 12 (.take 13 (.take 14 (.take 15 (.alt 16 .done .none))))))))))))))))) mixed (by kernel_rfl) <| pM (e 1) rfl rfl <| pP rfl R_nil H fun _ H => pP rfl (R_fld TF_225_3) H fun _ H => pL rfl T1_223 H fun _ _ _ H => pM (e 1) rfl rfl <| pP rfl R_nil H fun _ H => pP rfl (R_fld TF_225_3) H fun _ H => pL rfl T1_223 H fun _ _ _ H => pP rfl R_nil H fun _ H => pL rfl T1_231 H fun _ _ _ H => pM (e 6) rfl rfl <| pP rfl R_add H fun _ H => pM (e 6) rfl rfl ?_
      exact pP rfl R_add H fun _ H => pP rfl (R_slice TE_231 (by decide)) H fun _ H => pP rfl R_nil H fun _ H => aE rfl <| H_store1 TS_231 H fun h H => ⟨(hskip rfl (hskip rfl (hskip rfl hnil))), vp_done <| H⟩
    · exact WPc_skip <| H
  refine sR <| nM a1 rfl <| vl_n <| H_call HB_143 H fun _ h H => nP R_not H fun _ H => vl_e ?_
  refine cI H (fun H => ?_) fun H => ?_
  · refine W_drawn [0, 1, 3, 7, 0, 16, 48, 112, 240, 496, 0, 1024, 4080, 8191, 16383] (.take 0 (.take 1 (.take 2 (.take 3 (.take 4 (.take 5 (.take 6 (.take 7 (.take 8 (.take 9 (.take 10 (.take 11 (.take 12 (.take 13 (.alt 14 .done .none))))))))))))))) mixed (by kernel_rfl) <| pM t22 rfl rfl <| pP rfl R_nil H fun _ H => pP rfl (R_fld TF_225_3) H fun _ H => pL rfl T1_223 H fun _ _ _ H => pM a1 rfl rfl <| pP rfl R_nil H fun _ H => pP rfl (R_fld TF_225_3) H fun _ H => pL rfl T1_223 H fun _ _ _ H => pP rfl R_nil H fun _ H => pL rfl T1_231 H fun _ _ _ H => pM t11 rfl rfl <| pP rfl R_add H fun _ H => pP rfl (R_slice TE_231 (by decide)) H fun _ H => ?_
    exact pP rfl R_nil H fun _ H => aE rfl <| H_store1 TS_231 H fun h H => ⟨(hskip rfl (hskip rfl (hskip rfl hnil))), vp_done <| H⟩
  · exact WPc_skip <| H
/-! ### (*pub/tidwallbtree.Map[int, int]).search -/
def Map_ii_search.j2 (s8 : Value) (h : Heap) (Q : Value → Heap → Prop) : Prop := Q (.tuple #[s8, (.bool false)]) h
def Map_ii_search.j1 (s1 s2 s8 : Value) (h : Heap) (Q : Value → Heap → Prop) : Prop := cmpI (fun a b=>decide (a > b)) s8 (.int .i64 0) fun b=>br b true (nilck s1 fun d=>fld 2 d fun g=>load1 g h fun i=>arith (· - ·) s8 (.int .i64 1) fun j=>idx 2 i j fun k=>fld 1 k fun l=>load1 l h fun m=>cmpI (fun a b=>decide (a < b)) m s2 fun n=>notV n fun o=>ifV o (arith (· - ·) s8 (.int .i64 1) fun p=>Q (.tuple #[p, (.bool true)]) h) (Map_ii_search.j2 s8 h Q)) (Map_ii_search.j2 s8 h Q)
def Map_ii_search.j4 (s1 s2 s8 s9 : Value) (h : Heap) (K1 : List Value → Heap → Prop) (Q : Value → Heap → Prop) : Prop := arith (· + ·) s8 s9 fun b=>divi b (.int .i64 2) fun d=>nilck s1 fun g=>fld 2 g fun i=>load1 i h fun j=>idx 2 j d fun k=>fld 1 k fun l=>load1 l h fun m=>cmpI (fun a b=>decide (a < b)) s2 m fun n=>notV n fun o=>ifV o (arith (· + ·) d (.int .i64 1) fun p=>K1 [p, s9] h) (K1 [s8, d] h)
def Map_ii_search.l3.b (c1 c2 s8 s9 : Value) (h : Heap) (K1 : List Value → Heap → Prop) (Q : Value → Heap → Prop) : Prop := cmpI (fun a b=>decide (a < b)) s8 s9 fun b=>ifV b (Map_ii_search.j4 c1 c2 s8 s9 h K1 Q) (Map_ii_search.j1 c1 c2 s8 h Q)
def Map_ii_search.sh (a0 a1 a2 : Value) (h : Heap) (Q : Value → Heap → Prop) : Prop := nilck a1 fun b=>fld 2 b fun d=>load1 d h fun g=>lenV g fun i=>loopC (fun c s h K1=>Map_ii_search.l3.b (c.getD 0 undef) (c.getD 1 undef) (s.getD 0 undef) (s.getD 1 undef) h K1 Q) [a1, a2] [(.int .i64 0), i] h
theorem Map_ii_search.body (a0 a1 a2 : Value) (h : Heap) (Q : Value → Heap → Prop) (H : Map_ii_search.sh a0 a1 a2 h Q) : Map_ii_search.call #[a0, a1, a2] h Q := by
  refine callsH_of (args := [a0, a1, a2]) Try.func186 rfl rfl ?_
  unfold Map_ii_search.sh at H
  refine sR <| nS (.int .i64 0) rfl <| nS (.bool false) rfl <| vl_e <| WPc_seq' <| W_drawn [0, 1, 3, 7, 15, 0, 63] (.take 0 (.take 1 (.take 2 (.take 3 (.take 4 (.take 5 (.take 6 .done))))))) mixed (by kernel_rfl) <| pM a1 rfl rfl <| pP rfl R_nil H fun _ H => pP rfl (R_fld TF_225_2) H fun _ H => pL rfl T1_222 H fun _ _ _ H => pP rfl (R_len Try.underlying222) H fun t15 H => pS (.int .i64 0) rfl rfl <| pS t15 rfl rfl <| vp_done ?_
  refine WPc_seq (fun e h => Map_ii_search.j1 (e 1) (e 2) (e 8) h Q) ?_ (fun e h H => ?_)
  rotate_left
  · unfold Map_ii_search.j1 at H
    refine WPc_seq (fun e h => Map_ii_search.j2 (e 8) h Q) ?_ (fun e h H => ?_)
    rotate_left
    · unfold Map_ii_search.j2 at H
      exact sR <| nM (e 8) rfl <| nS (e 8) rfl <| nS (.bool false) rfl <| vl_e <| WPc_ret <| resH_of rfl <| H
    refine sR <| nM (e 8) rfl <| nP R_gtr H fun t38 H => nM t38 rfl ?_
    obtain ⟨b, hb, H1, H2⟩ := H
    cases b
    · have H := H2 rfl
      clear H1 H2
      refine vl_s rfl (nbT hb) ?_
      refine vl_s rfl (nbT hb) ?_
      refine vl_s rfl (nbT hb) ?_
      refine vl_s rfl (nbT hb) ?_
      refine vl_s rfl (nbT hb) ?_
      refine vl_s rfl (nbT hb) ?_
      refine vl_s rfl (nbT hb) ?_
      refine vl_s rfl (nbT hb) ?_
      refine vl_s rfl (nbT hb) ?_
      refine vl_s rfl (nbT hb) ?_
      refine vl_s rfl (nbT hb) ?_
      refine vl_s rfl (nbT hb) ?_
      refine nA (R_pickC (v := (.bool false)) false hb rfl) <| vl_e ?_
      refine WPc_cond (t := false) rfl (fun hh => by cases hh) (fun _ => ?_)
      exact WPc_skip <| H
    · have H := H1 rfl
      clear H1 H2
      refine vl_y rfl hb ?_
      refine H_of_R (R_move (v := (e 1)) rfl ?_)
      refine vl_y rfl hb ?_
      refine H_of_R (R_nil H fun _ H => ?_)
      refine vl_y rfl hb ?_
      refine H_of_R (R_fld TF_225_2 H fun _ H => ?_)
      refine vl_y rfl hb ?_
      refine H_of_R (R_load1 T1_222 H fun _ _ _ _ H => ?_)
      refine vl_y rfl hb ?_
      refine H_of_R (R_move (v := (e 8)) rfl ?_)
      refine vl_y rfl hb ?_
      refine H_of_R (R_sub H fun _ H => ?_)
      refine vl_y rfl hb ?_
      refine H_of_R (R_idx TE_222 H fun _ H => ?_)
      refine vl_y rfl hb ?_
      refine H_of_R (R_fld TF_216_1 H fun _ H => ?_)
      refine vl_y rfl hb ?_
      refine H_of_R (R_load1 T1_3 H fun _ _ _ _ H => ?_)
      refine vl_y rfl hb ?_
      refine H_of_R (R_move (v := (e 2)) rfl ?_)
      refine vl_y rfl hb ?_
      refine H_of_R (R_lss H fun _ H => ?_)
      refine vl_y rfl hb ?_
      refine H_of_R (R_not H fun t51 H => ?_)
      refine nA (R_pickC (v := t51) true hb rfl) <| vl_e ?_
      refine cI H (fun H => ?_) fun H => ?_
      · exact sR <| nM (e 8) rfl <| nP R_sub H fun t54 H => nS t54 rfl <| nS (.bool true) rfl <| vl_e <| WPc_ret <| resH_of rfl <| H
      · exact WPc_skip <| H
  refine WPc_block ?_
  refine loop_at (fun e => [e 8, e 9]) (fun e => [e 1, e 2]) H rfl rfl ?_
  intro K1 e1 h H hin1
  replace H : Map_ii_search.l3.b (e1 1) (e1 2) (e1 8) (e1 9) h K1 Q := H
  unfold Map_ii_search.l3.b at H
  clear hin1
  refine WPc_seq (fun e h => Map_ii_search.j4 (e 1) (e 2) (e 8) (e 9) h K1 Q ∧ [e1 1, e1 2] = [e 1, e 2]) ?_ (fun e h ⟨H, hq1⟩ => ?_)
  rotate_left
  · unfold Map_ii_search.j4 at H
    refine WPc_block <| sR <| nM (e 8) rfl <| nM (e 9) rfl <| nP R_add H fun _ H => nP R_quo H fun t22 H => nS t22 rfl <| vl_e <| sR <| nM (e 2) rfl <| nM (e 1) rfl <| nP R_nil H fun _ H => nP (R_fld TF_225_2) H fun _ H => nL T1_222 H fun _ H => ?_
    refine nM t22 rfl <| nP (R_idx TE_222) H fun _ H => nP (R_fld TF_216_1) H fun _ H => nL T1_3 H fun _ H => nP R_lss H fun _ H => nP R_not H fun _ H => vl_e ?_
    refine cI H (fun H => ?_) fun H => ?_
    · refine W_region (by kernel_rfl) <| nM t22 rfl <| nP R_add H fun t35 H => nS t35 rfl <| vl_e ?_
      exact ⟨H, hq1⟩
    · refine W_region (by kernel_rfl) <| nM t22 rfl <| nS t22 rfl <| vl_e ?_
      exact ⟨H, hq1⟩
  refine sR <| nM (e1 8) rfl <| nM (e1 9) rfl <| nP R_lss H fun _ H => vl_e ?_
  refine cI H (fun H => ?_) fun H => ?_
  · refine WPc_skip ?_
    exact ⟨H, rfl⟩
  · refine WPc_exit ?_
    exact H
/-! ### (*pub/tidwallbtree.Map[int, int]).nodeSet -/
def Map_ii_nodeSet.j4 (s6 s7 : Value) (h : Heap) (Q : Value → Heap → Prop) : Prop := Q (.tuple #[s6, s7, (.bool false)]) h
def Map_ii_nodeSet.j3 (s6 s7 s9 : Value) (h : Heap) (Q : Value → Heap → Prop) : Prop := notV s7 fun b=>ifV b (load1 s9 h fun d=>nilck d fun g=>fld 1 g fun i=>load1 i h fun j=>arith (· + ·) j (.int .i64 1) fun k=>nilck d fun l=>fld 1 l fun m=>store1 m k h fun h=>Map_ii_nodeSet.j4 s6 s7 h Q) (Map_ii_nodeSet.j4 s6 s7 h Q)
def Map_ii_nodeSet.j5 (s0 s5 s9 s10 : Value) (h : Heap) (Q : Value → Heap → Prop) : Prop := load1 s9 h fun b=>nilck b fun d=>fld 3 d fun g=>load1 g h fun i=>nilck i fun j=>load1 j h fun k=>idx 1 k s10 fun l=>load1 l h fun m=>Map_ii_nodeSplit.call #[s0, m] h fun n h=>extr 0 n fun o=>extr 1 n fun p=>alloc [(.int .i64 0), (.int .i64 0)] 216 h fun q h=>storeN 2 q p h fun h=>load1 s9 h fun u=>nilck u fun v=>fld 3 v fun w=>load1 w h fun x=>load1 s9 h fun y=>nilck y fun z=>fld 3 z fun b0=>load1 b0 h fun b1=>nilck b1 fun b2=>load1 b2 h fun b3=>mkSl (if 1 * 1 = 0 then [] else zeros [(.pointer none)] 1) 1 [(0 * 1, 1, (.pointer none))] 211 h fun b4 h=>still1 s9 u h ∧ still1 w x h ∧ still1 s9 y h ∧ still1 b0 b1 h ∧ still1 b2 b3 h ∧ app 211 1 8 [(.pointer none)] b3 b4 h fun b5 h=>still1 s9 u h ∧ still1 w x h ∧ nilck x fun b6=>store1 b6 b5 h fun h=>load1 s9 h fun b7=>nilck b7 fun b8=>fld 3 b8 fun b9=>load1 b9 h fun d0=>nilck d0 fun d1=>load1 d1 h fun d2=>arith (· + ·) s10 (.int .i64 1) fun d3=>slc 1 d2 (some d3) none none fun d4=>load1 s9 h fun d5=>nilck d5 fun d6=>fld 3 d6 fun d7=>load1 d7 h fun d8=>nilck d8 fun d9=>load1 d9 h fun g0=>slc 1 g0 (some s10) none none fun g1=>cpy 1 d4 g1 h fun g2 h=>load1 s9 h fun g3=>nilck g3 fun g4=>fld 3 g4 fun g5=>load1 g5 h fun g6=>nilck g6 fun g7=>load1 g7 h fun g8=>arith (· + ·) s10 (.int .i64 1) fun g9=>idx 1 g8 g9 fun i0=>store1 i0 o h fun h=>load1 s9 h fun i1=>load1 s9 h fun i2=>nilck i2 fun i3=>fld 2 i3 fun i4=>load1 i4 h fun i5=>nilck s0 fun i6=>fld 4 i6 fun i7=>loadN 2 i7 h fun i8=>mkSl (if 1 * 2 = 0 then [] else zeros [(.int .i64 0), (.int .i64 0)] 1) 1 [(0 * 2, 2, i8)] 216 h fun i9 h=>still1 s9 i1 h ∧ still1 s9 i2 h ∧ still1 i4 i5 h ∧ app 216 2 16 [(.int .i64 0), (.int .i64 0)] i5 i9 h fun j0 h=>still1 s9 i1 h ∧ nilck i1 fun j1=>fld 2 j1 fun j2=>store1 j2 j0 h fun h=>load1 s9 h fun j3=>nilck j3 fun j4=>fld 2 j4 fun j5=>load1 j5 h fun j6=>arith (· + ·) s10 (.int .i64 1) fun j7=>slc 2 j6 (some j7) none none fun j8=>load1 s9 h fun j9=>nilck j9 fun k0=>fld 2 k0 fun k1=>load1 k1 h fun k2=>slc 2 k2 (some s10) none none fun k3=>cpy 2 j8 k3 h fun k4 h=>load1 s9 h fun k5=>nilck k5 fun k6=>fld 2 k6 fun k7=>load1 k7 h fun k8=>loadN 2 q h fun k9=>idx 2 k8 s10 fun l0=>storeN 2 l0 k9 h fun h=>loadN 2 s5 h fun l1=>Map_ii_nodeSet.call #[s0, s9, l1] h fun l2 h=>extr 0 l2 fun l3=>extr 1 l2 fun l4=>extr 2 l2 fun l5=>Q (.tuple #[l3, l4, l5]) h
def Map_ii_nodeSet.j2 (s0 s5 s9 s10 : Value) (h : Heap) (Q : Value → Heap → Prop) : Prop := load1 s9 h fun b=>nilck b fun d=>fld 3 d fun g=>load1 g h fun i=>nilck i fun j=>load1 j h fun k=>idx 1 k s10 fun l=>loadN 2 s5 h fun m=>Map_ii_nodeSet.call #[s0, l, m] h fun n h=>extr 0 n fun o=>extr 1 n fun p=>extr 2 n fun q=>ifV q (load1 s9 h fun u=>nilck u fun v=>fld 2 v fun w=>load1 w h fun x=>lenV x fun y=>nilck s0 fun z=>fld 7 z fun b0=>load1 b0 h fun b1=>cmpI (fun a b=>a == b) y b1 fun b2=>ifV b2 (nilck s0 fun b3=>fld 4 b3 fun b4=>fld 0 b4 fun b5=>load1 b5 h fun b6=>Q (.tuple #[b6, (.bool false), (.bool true)]) h) (Map_ii_nodeSet.j5 s0 s5 s9 s10 h Q)) (Map_ii_nodeSet.j3 o p s9 h Q)
def Map_ii_nodeSet.j6 (s0 s5 s9 s10 : Value) (h : Heap) (Q : Value → Heap → Prop) : Prop := load1 s9 h fun b=>load1 s9 h fun d=>nilck d fun g=>fld 2 g fun i=>load1 i h fun j=>nilck s0 fun k=>fld 4 k fun l=>loadN 2 l h fun m=>mkSl (if 1 * 2 = 0 then [] else zeros [(.int .i64 0), (.int .i64 0)] 1) 1 [(0 * 2, 2, m)] 216 h fun n h=>still1 s9 b h ∧ still1 s9 d h ∧ still1 i j h ∧ app 216 2 16 [(.int .i64 0), (.int .i64 0)] j n h fun o h=>still1 s9 b h ∧ nilck b fun p=>fld 2 p fun q=>store1 q o h fun h=>load1 s9 h fun u=>nilck u fun v=>fld 2 v fun w=>load1 w h fun x=>arith (· + ·) s10 (.int .i64 1) fun y=>slc 2 x (some y) none none fun z=>load1 s9 h fun b0=>nilck b0 fun b1=>fld 2 b1 fun b2=>load1 b2 h fun b3=>slc 2 b3 (some s10) none none fun b4=>cpy 2 z b4 h fun b5 h=>load1 s9 h fun b6=>nilck b6 fun b7=>fld 2 b7 fun b8=>load1 b8 h fun b9=>loadN 2 s5 h fun d0=>idx 2 b9 s10 fun d1=>storeN 2 d1 d0 h fun h=>load1 s9 h fun d2=>nilck d2 fun d3=>fld 1 d3 fun d4=>load1 d4 h fun d5=>arith (· + ·) d5 (.int .i64 1) fun d6=>nilck d2 fun d7=>fld 1 d7 fun d8=>store1 d8 d6 h fun h=>nilck s0 fun d9=>fld 4 d9 fun g0=>fld 0 g0 fun g1=>load1 g1 h fun g2=>Q (.tuple #[g2, (.bool false), (.bool false)]) h
def Map_ii_nodeSet.j1 (s0 s5 s9 s10 : Value) (h : Heap) (Q : Value → Heap → Prop) : Prop := load1 s9 h fun b=>mapNode_ii_leaf.call #[b] h fun d h=>ifV d (load1 s9 h fun g=>nilck g fun i=>fld 2 i fun j=>load1 j h fun k=>lenV k fun l=>nilck s0 fun m=>fld 7 m fun n=>load1 n h fun o=>cmpI (fun a b=>a == b) l o fun p=>ifV p (nilck s0 fun q=>fld 4 q fun u=>fld 0 u fun v=>load1 v h fun w=>Q (.tuple #[w, (.bool false), (.bool true)]) h) (Map_ii_nodeSet.j6 s0 s5 s9 s10 h Q)) (Map_ii_nodeSet.j2 s0 s5 s9 s10 h Q)
def Map_ii_nodeSet.sh (a0 a1 a2 : Value) (h : Heap) (Q : Value → Heap → Prop) : Prop := box 216 a2 h fun b h=>Map_ii_isoLoad.call #[a0, a1, (.bool true)] h fun d h=>alloc [(.pointer none)] 211 h fun g h=>store1 g d h fun h=>load1 g h fun i=>fld 1 b fun j=>load1 j h fun k=>Map_ii_search.call #[a0, i, k] h fun l h=>extr 0 l fun m=>extr 1 l fun n=>ifV n (load1 g h fun o=>nilck o fun p=>fld 2 p fun q=>load1 q h fun u=>idx 2 u m fun v=>fld 0 v fun w=>load1 w h fun x=>load1 g h fun y=>nilck y fun z=>fld 2 z fun b0=>load1 b0 h fun b1=>loadN 2 b h fun b2=>idx 2 b1 m fun b3=>storeN 2 b3 b2 h fun h=>Q (.tuple #[x, (.bool true), (.bool false)]) h) (Map_ii_nodeSet.j1 a0 b g m h Q)
theorem Map_ii_nodeSet.body (a0 a1 a2 : Value) (h : Heap) (Q : Value → Heap → Prop) (H : Map_ii_nodeSet.sh a0 a1 a2 h Q) : Map_ii_nodeSet.call #[a0, a1, a2] h Q := by
  refine callsH_of (args := [a0, a1, a2]) Try.func129 rfl rfl ?_
  unfold Map_ii_nodeSet.sh at H
  refine sR <| vl_n <| H_box H fun _ h H => nS (.int .i64 0) rfl <| nS (.bool false) rfl <| nS (.bool false) rfl <| vl_e <| sR <| nM a0 rfl <| nM a1 rfl <| vl_n <| H_call HB_146 H fun _ h H => vl_n <| H_alloc TV_211 H fun _ h H => vl_n <| H_store1 TS_211 H fun h H => vl_e <| sR ?_
  refine nM a0 rfl <| nL T1_211 H fun _ H => nP (R_fld TF_216_1) H fun _ H => nL T1_3 H fun _ H => vl_n <| H_call HB_186 H fun t22 h H => nM t22 rfl <| nP R_ext H fun t23 H => nP R_ext H fun t24 H => nS t23 rfl <| nS t24 rfl <| vl_e ?_
  refine WPc_seq (fun e h => Map_ii_nodeSet.j1 (e 0) (e 5) (e 9) (e 10) h Q) ?_ (fun e h H => ?_)
  rotate_left
  · unfold Map_ii_nodeSet.j1 at H
    refine WPc_seq (fun e h => Map_ii_nodeSet.j2 (e 0) (e 5) (e 9) (e 10) h Q) ?_ (fun e h H => ?_)
    rotate_left
    · unfold Map_ii_nodeSet.j2 at H
      refine WPc_seq' <| W_drawn [0, 0, 2, 6, 14, 30, 62, 0, 254, 0, 1023, 2047, 4095, 4095, 4095, 8191, 49151, 131071] (.take 0 (.take 1 (.take 2 (.take 3 (.take 4 (.take 5 (.take 6 (.take 7 (.take 8 (.take 9 (.alt 10 (.take 11 (.take 12 (.take 13 (.take 14 (.take 15 (.take 16 (.take 17 .done))))))) .none))))))))))) mixed (by kernel_rfl) <| pM (e 0) rfl rfl <| pL rfl T1_211 H fun _ _ _ H => pP rfl R_nil H fun _ H => pP rfl (R_fld TF_225_3) H fun _ H => pL rfl T1_223 H fun _ _ _ H => pP rfl R_nil H fun _ H => pL rfl T1_231 H fun _ _ _ H => pM (e 10) rfl rfl <| pP rfl (R_idx TE_231) H fun _ H => tkL rfl <| R_loadN TN_216 H fun _ _ _ _ H _ _ => aE rfl <| H_call HB_129 H fun t116 h H => ⟨(hskip rfl (hskip rfl (hskip rfl (hskip rfl hnil)))), pM t116 rfl rfl ?_⟩
      refine pP rfl R_ext H fun t117 H => pP rfl R_ext H fun t118 H => pP rfl R_ext H fun t119 H => pS t117 rfl rfl <| pS t118 rfl rfl <| pS t119 rfl rfl <| vp_done ?_
      refine WPc_seq (fun e h => Map_ii_nodeSet.j3 (e 6) (e 7) (e 9) h Q) ?_ (fun e h H => ?_)
      rotate_left
      · unfold Map_ii_nodeSet.j3 at H
        refine WPc_seq (fun e h => Map_ii_nodeSet.j4 (e 6) (e 7) h Q) ?_ (fun e h H => ?_)
        rotate_left
        · unfold Map_ii_nodeSet.j4 at H
          exact sR <| nM (e 6) rfl <| nM (e 7) rfl <| nS (e 6) rfl <| nS (e 7) rfl <| nS (.bool false) rfl <| vl_e <| WPc_ret <| resH_of rfl <| H
        refine sR <| nM (e 7) rfl <| nP R_not H fun _ H => vl_e ?_
        refine cI H (fun H => ?_) fun H => ?_
        · exact W_region (by kernel_rfl) <| nL T1_211 H fun _ H => nP R_nil H fun _ H => nP (R_fld TF_225_1) H fun _ H => nL T1_3 H fun _ H => nP R_add H fun _ H => nP R_nil H fun _ H => nP (R_fld TF_225_1) H fun _ H => vl_n <| H_store1 TS_3 H fun h H => vl_e <| H
        · exact WPc_skip <| H
      refine sR <| nM t119 rfl <| vl_e ?_
      refine cI H (fun H => ?_) fun H => ?_
      · refine WPc_seq (fun e h => Map_ii_nodeSet.j5 (e 0) (e 5) (e 9) (e 10) h Q) ?_ (fun e h H => ?_)
        rotate_left
        · unfold Map_ii_nodeSet.j5 at H
          refine sR <| nM (e 0) rfl <| nL T1_211 H fun _ H => nP R_nil H fun _ H => nP (R_fld TF_225_3) H fun _ H => nL T1_223 H fun _ H => nP R_nil H fun _ H => nL T1_231 H fun _ H => nM (e 10) rfl <| nP (R_idx TE_231) H fun _ H => nL T1_211 H fun _ H => vl_n <| H_call HB_130 H fun t147 h H => nM t147 rfl <| nP R_ext H fun t148 H => ?_
          refine nP R_ext H fun _ H => vl_n <| H_alloc TV_216 H fun _ h H => nS t148 rfl <| vl_n <| H_storeN TS_216 H fun h H => vl_e <| WPc_seq' <| W_drawn [0, 1, 3, 7, 0, 16, 48, 112, 240, 496, 0, 2032, 4095, 8191] (.take 0 (.take 1 (.take 2 (.take 3 (.take 4 (.take 5 (.take 6 (.take 7 (.take 8 (.take 9 (.alt 10 (.alt 11 (.take 12 (.alt 13 .done .none)) .none) .none))))))))))) mixed (by kernel_rfl) <| pL rfl T1_211 H fun _ _ hat150 H => pP rfl R_nil H fun _ H => pP rfl (R_fld TF_225_3) H fun _ H => pL rfl T1_223 H fun _ _ hat153 H => pL rfl T1_211 H fun _ _ hat154 H => pP rfl R_nil H fun _ H => pP rfl (R_fld TF_225_3) H fun _ H => ?_
          refine pL rfl T1_223 H fun _ _ hat157 H => pP rfl R_nil H fun _ H => pL rfl T1_231 H fun _ _ hat159 H => aE rfl <| H_mkSl TZ_231 (by decide) rfl H rfl fun _ h ⟨S, S_2, S_3, S_4, S_5, H⟩ => ⟨(hcons rfl (still_1 S_5 hat159) (hcons rfl (still_1 S_4 hat157) (hcons rfl (still_1 S_3 hat154) (hcons rfl (still_1 S_2 hat153) (hcons rfl (still_1 S hat150) hnil))))), aE rfl <| H_app TZ_231 TU_231 H fun _ h ⟨S_6, S_7, H⟩ => ⟨(hskip rfl (hskip rfl (hskip rfl (hcons rfl (still_1 S_7 hat153) (hcons rfl (still_1 S_6 hat150) hnil))))), pP rfl R_nil H fun _ H => aE rfl <| H_store1 TS_231 H fun h H => ⟨(hskip rfl (hskip rfl hnil)), vp_done <| WPc_seq' <| W_drawn [0, 1, 3, 7, 15, 31, 0, 64, 255, 0, 512, 1536, 3584, 7680, 15872, 0, 65024, 131071] (.take 0 (.take 1 (.take 2 (.take 3 (.take 4 (.take 5 (.take 6 (.take 7 (.take 8 (.take 9 (.take 10 (.take 11 (.take 12 (.take 13 (.take 14 (.take 15 (.take 16 (.alt 17 .done .none)))))))))))))))))) mixed (by kernel_rfl) <| pL rfl T1_211 H fun _ _ _ H => pP rfl R_nil H fun _ H => pP rfl (R_fld TF_225_3) H fun _ H => pL rfl T1_223 H fun _ _ _ H => ?_⟩⟩⟩
          refine pP rfl R_nil H fun _ H => pL rfl T1_231 H fun _ _ _ H => pM (e 10) rfl rfl <| pP rfl R_add H fun _ H => pP rfl (R_slice TE_231 (by decide)) H fun _ H => pL rfl T1_211 H fun _ _ _ H => pP rfl R_nil H fun _ H => pP rfl (R_fld TF_225_3) H fun _ H => pL rfl T1_223 H fun _ _ _ H => pP rfl R_nil H fun _ H => pL rfl T1_231 H fun _ _ _ H => pM (e 10) rfl rfl <| pP rfl (R_slice TE_231 (by decide)) H fun _ H => aE rfl <| H_cpy TE_231 H fun _ h H => ⟨(hskip rfl (hskip rfl (hskip rfl (hskip rfl (hskip rfl (hskip rfl hnil)))))), ?_⟩
          refine vp_done <| sR <| nL T1_211 H fun _ H => nP R_nil H fun _ H => nP (R_fld TF_225_3) H fun _ H => nL T1_223 H fun _ H => nP R_nil H fun _ H => nL T1_231 H fun _ H => nM (e 10) rfl <| nP R_add H fun _ H => nM t148 rfl <| nP (R_idx TE_231) H fun _ H => vl_n <| H_store1 TS_211 H fun h H => vl_e ?_
          refine WPc_seq' <| W_drawn [0, 0, 2, 6, 14, 0, 32, 96, 224, 480, 1022, 2047, 4095, 8191] (.take 0 (.take 1 (.take 2 (.take 3 (.take 4 (.take 5 (.take 6 (.take 7 (.take 8 (.alt 9 (.alt 10 (.take 11 (.take 12 (.alt 13 .done .none))) .none) .none)))))))))) mixed (by kernel_rfl) <| pL rfl T1_211 H fun _ _ hat191 H => pL rfl T1_211 H fun _ _ hat192 H => pP rfl R_nil H fun _ H => pP rfl (R_fld TF_225_2) H fun _ H => pL rfl T1_222 H fun _ _ hat195 H => pM (e 0) rfl rfl <| pP rfl R_nil H fun _ H => pP rfl (R_fld TF_219_4) H fun _ H => tkL rfl <| R_loadN TN_216 H fun _ _ _ _ H _ _ => aE rfl <| H_mkSl TZ_222 (by decide) rfl H rfl fun _ h ⟨S_8, S_9, S_10, H⟩ => ⟨(hskip rfl (hcons rfl (still_1 S_10 hat195) (hcons rfl (still_1 S_9 hat192) (hcons rfl (still_1 S_8 hat191) hnil)))), aE rfl <| H_app TZ_222 TU_222 H fun _ h ⟨S_11, H⟩ => ⟨(hskip rfl (hskip rfl (hcons rfl (still_1 S_11 hat191) hnil))), pP rfl R_nil H fun _ H => ?_⟩⟩
          refine pP rfl (R_fld TF_225_2) H fun _ H => aE rfl <| H_store1 TS_222 H fun h H => ⟨(hskip rfl hnil), vp_done <| WPc_seq' <| W_drawn [0, 1, 3, 7, 0, 16, 63, 0, 128, 384, 896, 0, 3968, 8191] (.take 0 (.take 1 (.take 2 (.take 3 (.take 4 (.take 5 (.take 6 (.take 7 (.take 8 (.take 9 (.take 10 (.take 11 (.take 12 (.alt 13 .done .none)))))))))))))) mixed (by kernel_rfl) <| pL rfl T1_211 H fun _ _ _ H => pP rfl R_nil H fun _ H => pP rfl (R_fld TF_225_2) H fun _ H => pL rfl T1_222 H fun _ _ _ H => pM (e 10) rfl rfl <| pP rfl R_add H fun _ H => pP rfl (R_slice TE_222 (by decide)) H fun _ H => pL rfl T1_211 H fun _ _ _ H => pP rfl R_nil H fun _ H => ?_⟩
          refine pP rfl (R_fld TF_225_2) H fun _ H => pL rfl T1_222 H fun _ _ _ H => pM (e 10) rfl rfl <| pP rfl (R_slice TE_222 (by decide)) H fun _ H => aE rfl <| H_cpy TE_222 H fun _ h H => ⟨(hskip rfl (hskip rfl (hskip rfl (hskip rfl hnil)))), vp_done <| WPc_seq' <| W_drawn [0, 1, 3, 7, 0, 0, 63, 127] (.take 0 (.take 1 (.take 2 (.take 3 (.take 4 (.take 5 (.take 6 (.alt 7 .done .none)))))))) mixed (by kernel_rfl) <| pL rfl T1_211 H fun _ _ _ H => pP rfl R_nil H fun _ H => pP rfl (R_fld TF_225_2) H fun _ H => pL rfl T1_222 H fun _ _ _ H => pM (e 10) rfl rfl <| tkL rfl <| R_loadN TN_216 H fun _ _ _ _ H _ _ => ?_⟩
          refine pP rfl (R_idx TE_222) H fun _ H => aE rfl <| H_storeN TS_216 H fun h H => ⟨(hskip rfl (hskip rfl (hskip rfl hnil))), vp_done <| sR <| nM (e 0) rfl <| nLN TN_216 H fun _ H => vl_n <| H_call HB_129 H fun _ h H => nP R_ext H fun t228 H => nP R_ext H fun t229 H => nP R_ext H fun t230 H => nS t228 rfl <| nS t229 rfl <| nS t230 rfl <| vl_e ?_⟩
          exact WPc_ret <| resH_of rfl <| H
        refine WPc_seq' <| W_drawn [0, 1, 3, 7, 15, 0, 32, 96, 224, 511] (.take 0 (.take 1 (.take 2 (.take 3 (.take 4 (.take 5 (.take 6 (.take 7 (.take 8 (.take 9 .done)))))))))) mixed (by kernel_rfl) <| pL rfl T1_211 H fun _ _ _ H => pP rfl R_nil H fun _ H => pP rfl (R_fld TF_225_2) H fun _ H => pL rfl T1_222 H fun _ _ _ H => pP rfl (R_len Try.underlying222) H fun _ H => pM (e 0) rfl rfl <| pP rfl R_nil H fun _ H => pP rfl (R_fld TF_219_6) H fun _ H => pL rfl T1_3 H fun _ _ _ H => pP rfl R_eqI H fun _ H => vp_done ?_
        refine cI H (fun H => ?_) fun H => ?_
        · exact sR <| nM (e 0) rfl <| nP R_nil H fun _ H => nP (R_fld TF_219_4) H fun _ H => nP (R_fld TF_216_0) H fun _ H => nL T1_3 H fun t135 H => nS t135 rfl <| nS (.bool false) rfl <| nS (.bool true) rfl <| vl_e <| WPc_ret <| resH_of rfl <| H
        · exact WPc_skip <| H
      · exact WPc_skip <| H
    refine sR <| nL T1_211 H fun _ H => vl_n <| H_call HB_143 H fun _ h H => vl_e ?_
    refine cI H (fun H => ?_) fun H => ?_
    · refine WPc_seq (fun e h => Map_ii_nodeSet.j6 (e 0) (e 5) (e 9) (e 10) h Q) ?_ (fun e h H => ?_)
      rotate_left
      · unfold Map_ii_nodeSet.j6 at H
        refine WPc_seq' <| W_drawn [0, 0, 2, 6, 14, 0, 32, 96, 224, 480, 1022, 2047, 4095, 8191] (.take 0 (.take 1 (.take 2 (.take 3 (.take 4 (.take 5 (.take 6 (.take 7 (.take 8 (.alt 9 (.alt 10 (.take 11 (.take 12 (.alt 13 .done .none))) .none) .none)))))))))) mixed (by kernel_rfl) <| pL rfl T1_211 H fun _ _ hat59 H => pL rfl T1_211 H fun _ _ hat60 H => pP rfl R_nil H fun _ H => pP rfl (R_fld TF_225_2) H fun _ H => pL rfl T1_222 H fun _ _ hat63 H => pM (e 0) rfl rfl <| pP rfl R_nil H fun _ H => pP rfl (R_fld TF_219_4) H fun _ H => tkL rfl <| R_loadN TN_216 H fun _ _ _ _ H _ _ => aE rfl <| H_mkSl TZ_222 (by decide) rfl H rfl fun _ h ⟨S, S_2, S_3, H⟩ => ⟨(hskip rfl (hcons rfl (still_1 S_3 hat63) (hcons rfl (still_1 S_2 hat60) (hcons rfl (still_1 S hat59) hnil)))), aE rfl <| H_app TZ_222 TU_222 H fun _ h ⟨S_4, H⟩ => ⟨(hskip rfl (hskip rfl (hcons rfl (still_1 S_4 hat59) hnil))), pP rfl R_nil H fun _ H => ?_⟩⟩
        refine pP rfl (R_fld TF_225_2) H fun _ H => aE rfl <| H_store1 TS_222 H fun h H => ⟨(hskip rfl hnil), vp_done <| WPc_seq' <| W_drawn [0, 1, 3, 7, 0, 16, 63, 0, 128, 384, 896, 0, 3968, 8191] (.take 0 (.take 1 (.take 2 (.take 3 (.take 4 (.take 5 (.take 6 (.take 7 (.take 8 (.take 9 (.take 10 (.take 11 (.take 12 (.alt 13 .done .none)))))))))))))) mixed (by kernel_rfl) <| pL rfl T1_211 H fun _ _ _ H => pP rfl R_nil H fun _ H => pP rfl (R_fld TF_225_2) H fun _ H => pL rfl T1_222 H fun _ _ _ H => pM (e 10) rfl rfl <| pP rfl R_add H fun _ H => pP rfl (R_slice TE_222 (by decide)) H fun _ H => pL rfl T1_211 H fun _ _ _ H => pP rfl R_nil H fun _ H => ?_⟩
        refine pP rfl (R_fld TF_225_2) H fun _ H => pL rfl T1_222 H fun _ _ _ H => pM (e 10) rfl rfl <| pP rfl (R_slice TE_222 (by decide)) H fun _ H => aE rfl <| H_cpy TE_222 H fun _ h H => ⟨(hskip rfl (hskip rfl (hskip rfl (hskip rfl hnil)))), vp_done <| WPc_seq' <| W_drawn [0, 1, 3, 7, 0, 0, 63, 127] (.take 0 (.take 1 (.take 2 (.take 3 (.take 4 (.take 5 (.take 6 (.alt 7 .done .none)))))))) mixed (by kernel_rfl) <| pL rfl T1_211 H fun _ _ _ H => pP rfl R_nil H fun _ H => pP rfl (R_fld TF_225_2) H fun _ H => pL rfl T1_222 H fun _ _ _ H => pM (e 10) rfl rfl <| tkL rfl <| R_loadN TN_216 H fun _ _ _ _ H _ _ => ?_⟩
        refine pP rfl (R_idx TE_222) H fun _ H => aE rfl <| H_storeN TS_216 H fun h H => ⟨(hskip rfl (hskip rfl (hskip rfl hnil))), vp_done <| sR <| nL T1_211 H fun _ H => nP R_nil H fun _ H => nP (R_fld TF_225_1) H fun _ H => nL T1_3 H fun _ H => nP R_add H fun _ H => nP R_nil H fun _ H => nP (R_fld TF_225_1) H fun _ H => vl_n <| H_store1 TS_3 H fun h H => vl_e <| sR ?_⟩
        exact nM (e 0) rfl <| nP R_nil H fun _ H => nP (R_fld TF_219_4) H fun _ H => nP (R_fld TF_216_0) H fun _ H => nL T1_3 H fun t104 H => nS t104 rfl <| nS (.bool false) rfl <| nS (.bool false) rfl <| vl_e <| WPc_ret <| resH_of rfl <| H
      refine WPc_seq' <| W_drawn [0, 1, 3, 7, 15, 0, 32, 96, 224, 511] (.take 0 (.take 1 (.take 2 (.take 3 (.take 4 (.take 5 (.take 6 (.take 7 (.take 8 (.take 9 .done)))))))))) mixed (by kernel_rfl) <| pL rfl T1_211 H fun _ _ _ H => pP rfl R_nil H fun _ H => pP rfl (R_fld TF_225_2) H fun _ H => pL rfl T1_222 H fun _ _ _ H => pP rfl (R_len Try.underlying222) H fun _ H => pM (e 0) rfl rfl <| pP rfl R_nil H fun _ H => pP rfl (R_fld TF_219_6) H fun _ H => pL rfl T1_3 H fun _ _ _ H => pP rfl R_eqI H fun _ H => vp_done ?_
      refine cI H (fun H => ?_) fun H => ?_
      · exact sR <| nM (e 0) rfl <| nP R_nil H fun _ H => nP (R_fld TF_219_4) H fun _ H => nP (R_fld TF_216_0) H fun _ H => nL T1_3 H fun t58 H => nS t58 rfl <| nS (.bool false) rfl <| nS (.bool true) rfl <| vl_e <| WPc_ret <| resH_of rfl <| H
      · exact WPc_skip <| H
    · exact WPc_skip <| H
  refine sR <| nM t24 rfl <| vl_e ?_
  refine cI H (fun H => ?_) fun H => ?_
  · refine sR <| nL T1_211 H fun _ H => nP R_nil H fun _ H => nP (R_fld TF_225_2) H fun _ H => nL T1_222 H fun _ H => nM t23 rfl <| nP (R_idx TE_222) H fun _ H => nP (R_fld TF_216_0) H fun _ H => nL T1_3 H fun t33 H => nS t33 rfl <| vl_e <| WPc_seq' <| W_drawn [0, 1, 3, 7, 0, 0, 63, 127] (.take 0 (.take 1 (.take 2 (.take 3 (.take 4 (.take 5 (.take 6 (.alt 7 .done .none)))))))) mixed (by kernel_rfl) <| pL rfl T1_211 H fun _ _ _ H => ?_
    refine pP rfl R_nil H fun _ H => pP rfl (R_fld TF_225_2) H fun _ H => pL rfl T1_222 H fun _ _ _ H => pM t23 rfl rfl <| tkL rfl <| R_loadN TN_216 H fun _ _ _ _ H _ _ => pP rfl (R_idx TE_222) H fun _ H => aE rfl <| H_storeN TS_216 H fun h H => ⟨(hskip rfl (hskip rfl (hskip rfl hnil))), vp_done <| sR <| nM t33 rfl <| nS t33 rfl <| nS (.bool true) rfl <| nS (.bool false) rfl <| vl_e ?_⟩
    exact WPc_ret <| resH_of rfl <| H
  · exact WPc_skip <| H

end Go.Proofs.Ytkkappjbcgnacaa
end
section
namespace Go.Proofs.Ytkkappjbcgnacaa
open Go.Hp
set_option maxRecDepth 100000
set_option maxHeartbeats 8000000
set_option linter.unusedVariables false
set_option linter.unusedSimpArgs false

/-! ### (*pub/tidwallbtree.Map[int, int]).Set -/
def Map_ii_Set.j3 (s0 : Value) (h : Heap) (Q : Value → Heap → Prop) : Prop := nilck s0 fun b=>fld 3 b fun d=>load1 d h fun g=>arith (· + ·) g (.int .i64 1) fun i=>nilck s0 fun j=>fld 3 j fun k=>store1 k i h fun h=>nilck s0 fun l=>fld 4 l fun m=>fld 0 m fun n=>load1 n h fun o=>Q (.tuple #[o, (.bool false)]) h
def Map_ii_Set.j2 (s0 s9 s10 : Value) (h : Heap) (Q : Value → Heap → Prop) : Prop := ifV s10 (Q (.tuple #[s9, (.bool true)]) h) (Map_ii_Set.j3 s0 h Q)
def Map_ii_Set.j1 (s0 s8 : Value) (h : Heap) (Q : Value → Heap → Prop) : Prop := nilck s0 fun b=>fld 2 b fun d=>loadN 2 s8 h fun g=>Map_ii_nodeSet.call #[s0, d, g] h fun i h=>extr 0 i fun j=>extr 1 i fun k=>extr 2 i fun l=>ifV l (nilck s0 fun m=>fld 2 m fun n=>load1 n h fun o=>Map_ii_nodeSplit.call #[s0, o] h fun p h=>extr 0 p fun q=>extr 1 p fun u=>alloc [(.int .i64 0), (.int .i64 0)] 216 h fun v h=>storeN 2 v u h fun h=>Map_ii_newNode.call #[s0, (.bool false)] h fun w h=>nilck s0 fun x=>fld 2 x fun y=>store1 y w h fun h=>nilck s0 fun z=>fld 2 z fun b0=>load1 b0 h fun b1=>nilck b1 fun b2=>fld 3 b2 fun b3=>load1 b3 h fun b4=>nilck s0 fun b5=>fld 7 b5 fun b6=>load1 b6 h fun b7=>arith (· + ·) b7 (.int .i64 1) fun b8=>mks 211 1 8 [(.pointer none)] (.int .i64 0) b8 h fun b9 h=>still1 b0 b1 h ∧ still1 b3 b4 h ∧ nilck b4 fun d0=>store1 d0 b9 h fun h=>nilck s0 fun d1=>fld 2 d1 fun d2=>load1 d2 h fun d3=>nilck d3 fun d4=>fld 3 d4 fun d5=>load1 d5 h fun d6=>(mkSl (if 0 * 1 = 0 then [] else zeros [(.pointer none)] 0) 0 [] 211 h fun d7 h=>still1 d2 d3 h ∧ still1 d5 d6 h ∧ mkSl (if 2 * 1 = 0 then [] else zeros [(.pointer none)] 2) 2 [(0 * 1, 1, o), (1 * 1, 1, q)] 211 h fun d8 h=>still1 d2 d3 h ∧ still1 d5 d6 h ∧ app 211 1 8 [(.pointer none)] d7 d8 h fun d9 h=>still1 d2 d3 h ∧ still1 d5 d6 h ∧ nilck d6 fun g0=>store1 g0 d9 h fun h=>nilck s0 fun g1=>fld 2 g1 fun g2=>load1 g2 h fun g3=>loadN 2 v h fun g4=>(mkSl (if 0 * 2 = 0 then [] else zeros [(.int .i64 0), (.int .i64 0)] 0) 0 [] 216 h fun g5 h=>still1 g2 g3 h ∧ stillN 2 v g4 h ∧ mkSl (if 1 * 2 = 0 then [] else zeros [(.int .i64 0), (.int .i64 0)] 1) 1 [(0 * 2, 2, g4)] 216 h fun g6 h=>still1 g2 g3 h ∧ app 216 2 16 [(.int .i64 0), (.int .i64 0)] g5 g6 h fun g7 h=>still1 g2 g3 h ∧ nilck g3 fun g8=>fld 2 g8 fun g9=>store1 g9 g7 h fun h=>nilck s0 fun i0=>fld 2 i0 fun i1=>load1 i1 h fun i2=>mapNode_ii_updateCount.call #[i2] h fun i3 h=>fld 1 s8 fun i4=>load1 i4 h fun i5=>fld 0 s8 fun i6=>load1 i6 h fun i7=>Map_ii_Set.call #[s0, i5, i7] h fun i8 h=>extr 0 i8 fun i9=>extr 1 i8 fun j0=>Q (.tuple #[i9, j0]) h) ∧ (mkSl (if 1 * 2 = 0 then [] else zeros [(.int .i64 0), (.int .i64 0)] 1) 1 [(0 * 2, 2, g4)] 216 h fun j1 h=>still1 g2 g3 h ∧ mkSl (if 0 * 2 = 0 then [] else zeros [(.int .i64 0), (.int .i64 0)] 0) 0 [] 216 h fun j2 h=>still1 g2 g3 h ∧ app 216 2 16 [(.int .i64 0), (.int .i64 0)] j2 j1 h fun j3 h=>still1 g2 g3 h ∧ nilck g3 fun j4=>fld 2 j4 fun j5=>store1 j5 j3 h fun h=>nilck s0 fun j6=>fld 2 j6 fun j7=>load1 j7 h fun j8=>mapNode_ii_updateCount.call #[j8] h fun j9 h=>fld 1 s8 fun k0=>load1 k0 h fun k1=>fld 0 s8 fun k2=>load1 k2 h fun k3=>Map_ii_Set.call #[s0, k1, k3] h fun k4 h=>extr 0 k4 fun k5=>extr 1 k4 fun k6=>Q (.tuple #[k5, k6]) h)) ∧ (mkSl (if 2 * 1 = 0 then [] else zeros [(.pointer none)] 2) 2 [(0 * 1, 1, o), (1 * 1, 1, q)] 211 h fun k7 h=>still1 d2 d3 h ∧ still1 d5 d6 h ∧ mkSl (if 0 * 1 = 0 then [] else zeros [(.pointer none)] 0) 0 [] 211 h fun k8 h=>still1 d2 d3 h ∧ still1 d5 d6 h ∧ app 211 1 8 [(.pointer none)] k8 k7 h fun k9 h=>still1 d2 d3 h ∧ still1 d5 d6 h ∧ nilck d6 fun l0=>store1 l0 k9 h fun h=>nilck s0 fun l1=>fld 2 l1 fun l2=>load1 l2 h fun l3=>loadN 2 v h fun l4=>(mkSl (if 0 * 2 = 0 then [] else zeros [(.int .i64 0), (.int .i64 0)] 0) 0 [] 216 h fun l5 h=>still1 l2 l3 h ∧ stillN 2 v l4 h ∧ mkSl (if 1 * 2 = 0 then [] else zeros [(.int .i64 0), (.int .i64 0)] 1) 1 [(0 * 2, 2, l4)] 216 h fun l6 h=>still1 l2 l3 h ∧ app 216 2 16 [(.int .i64 0), (.int .i64 0)] l5 l6 h fun l7 h=>still1 l2 l3 h ∧ nilck l3 fun l8=>fld 2 l8 fun l9=>store1 l9 l7 h fun h=>nilck s0 fun m0=>fld 2 m0 fun m1=>load1 m1 h fun m2=>mapNode_ii_updateCount.call #[m2] h fun m3 h=>fld 1 s8 fun m4=>load1 m4 h fun m5=>fld 0 s8 fun m6=>load1 m6 h fun m7=>Map_ii_Set.call #[s0, m5, m7] h fun m8 h=>extr 0 m8 fun m9=>extr 1 m8 fun n0=>Q (.tuple #[m9, n0]) h) ∧ (mkSl (if 1 * 2 = 0 then [] else zeros [(.int .i64 0), (.int .i64 0)] 1) 1 [(0 * 2, 2, l4)] 216 h fun n1 h=>still1 l2 l3 h ∧ mkSl (if 0 * 2 = 0 then [] else zeros [(.int .i64 0), (.int .i64 0)] 0) 0 [] 216 h fun n2 h=>still1 l2 l3 h ∧ app 216 2 16 [(.int .i64 0), (.int .i64 0)] n2 n1 h fun n3 h=>still1 l2 l3 h ∧ nilck l3 fun n4=>fld 2 n4 fun n5=>store1 n5 n3 h fun h=>nilck s0 fun n6=>fld 2 n6 fun n7=>load1 n7 h fun n8=>mapNode_ii_updateCount.call #[n8] h fun n9 h=>fld 1 s8 fun o0=>load1 o0 h fun o1=>fld 0 s8 fun o2=>load1 o2 h fun o3=>Map_ii_Set.call #[s0, o1, o3] h fun o4 h=>extr 0 o4 fun o5=>extr 1 o4 fun o6=>Q (.tuple #[o5, o6]) h))) (Map_ii_Set.j2 s0 j k h Q)
def Map_ii_Set.sh (a0 a1 a2 : Value) (h : Heap) (Q : Value → Heap → Prop) : Prop := buildV [(.int .i64 0), (.int .i64 0)] [(1, 1, a1), (0, 1, a2)] fun b=>alloc [(.int .i64 0), (.int .i64 0)] 216 h fun d h=>storeN 2 d b h fun h=>nilck a0 fun g=>fld 2 g fun i=>load1 i h fun j=>eqNilP j fun k=>ifV k (Map_ii_init.call #[a0, (.int .i64 0)] h fun l h=>Map_ii_newNode.call #[a0, (.bool true)] h fun m h=>nilck a0 fun n=>fld 2 n fun o=>store1 o m h fun h=>nilck a0 fun p=>fld 2 p fun q=>load1 q h fun u=>loadN 2 d h fun v=>(mkSl (if 0 * 2 = 0 then [] else zeros [(.int .i64 0), (.int .i64 0)] 0) 0 [] 216 h fun w h=>still1 q u h ∧ stillN 2 d v h ∧ mkSl (if 1 * 2 = 0 then [] else zeros [(.int .i64 0), (.int .i64 0)] 1) 1 [(0 * 2, 2, v)] 216 h fun x h=>still1 q u h ∧ app 216 2 16 [(.int .i64 0), (.int .i64 0)] w x h fun y h=>still1 q u h ∧ nilck u fun z=>fld 2 z fun b0=>store1 b0 y h fun h=>nilck a0 fun b1=>fld 2 b1 fun b2=>load1 b2 h fun b3=>nilck b3 fun b4=>fld 1 b4 fun b5=>store1 b5 (.int .i64 1) h fun h=>nilck a0 fun b6=>fld 3 b6 fun b7=>store1 b7 (.int .i64 1) h fun h=>nilck a0 fun b8=>fld 4 b8 fun b9=>fld 0 b9 fun d0=>load1 d0 h fun d1=>Q (.tuple #[d1, (.bool false)]) h) ∧ (mkSl (if 1 * 2 = 0 then [] else zeros [(.int .i64 0), (.int .i64 0)] 1) 1 [(0 * 2, 2, v)] 216 h fun d2 h=>still1 q u h ∧ mkSl (if 0 * 2 = 0 then [] else zeros [(.int .i64 0), (.int .i64 0)] 0) 0 [] 216 h fun d3 h=>still1 q u h ∧ app 216 2 16 [(.int .i64 0), (.int .i64 0)] d3 d2 h fun d4 h=>still1 q u h ∧ nilck u fun d5=>fld 2 d5 fun d6=>store1 d6 d4 h fun h=>nilck a0 fun d7=>fld 2 d7 fun d8=>load1 d8 h fun d9=>nilck d9 fun g0=>fld 1 g0 fun g1=>store1 g1 (.int .i64 1) h fun h=>nilck a0 fun g2=>fld 3 g2 fun g3=>store1 g3 (.int .i64 1) h fun h=>nilck a0 fun g4=>fld 4 g4 fun g5=>fld 0 g5 fun g6=>load1 g6 h fun g7=>Q (.tuple #[g7, (.bool false)]) h)) (Map_ii_Set.j1 a0 d h Q)
theorem Map_ii_Set.body (a0 a1 a2 : Value) (h : Heap) (Q : Value → Heap → Prop) (H : Map_ii_Set.sh a0 a1 a2 h Q) : Map_ii_Set.call #[a0, a1, a2] h Q := by
  refine callsH_of (args := [a0, a1, a2]) Try.func63 rfl rfl ?_
  unfold Map_ii_Set.sh at H
  refine sR <| nS (.int .i64 0) rfl <| nS (.bool false) rfl <| vl_e <| sR <| nM a1 rfl <| nM a2 rfl <| nP (R_build TB_216 rfl (by decide)) H fun _ H => vl_n <| H_alloc TV_216 H fun _ h H => vl_n <| H_storeN TS_216 H fun h H => vl_e ?_
  refine WPc_seq (fun e h => Map_ii_Set.j1 (e 0) (e 8) h Q) ?_ (fun e h H => ?_)
  rotate_left
  · unfold Map_ii_Set.j1 at H
    refine WPc_seq' <| W_drawn [0, 0, 2, 6, 0, 31, 63, 127, 127, 127, 255, 1535, 4095] (.take 0 (.take 1 (.take 2 (.take 3 (.take 4 (.alt 5 (.take 6 (.take 7 (.take 8 (.take 9 (.take 10 (.take 11 (.take 12 .done))))))) .none)))))) mixed (by kernel_rfl) <| pM (e 0) rfl rfl <| pM (e 0) rfl rfl <| pP rfl R_nil H fun _ H => pP rfl (R_fld TF_219_2) H fun _ H => tkL rfl <| R_loadN TN_216 H fun _ _ _ _ H _ _ => aE rfl <| H_call HB_129 H fun t60 h H => ⟨(hskip rfl hnil), pM t60 rfl rfl <| pP rfl R_ext H fun t61 H => pP rfl R_ext H fun t62 H => pP rfl R_ext H fun t63 H => pS t61 rfl rfl <| pS t62 rfl rfl ?_⟩
    refine pS t63 rfl rfl <| vp_done ?_
    refine WPc_seq (fun e h => Map_ii_Set.j2 (e 0) (e 9) (e 10) h Q) ?_ (fun e h H => ?_)
    rotate_left
    · unfold Map_ii_Set.j2 at H
      refine WPc_seq (fun e h => Map_ii_Set.j3 (e 0) h Q) ?_ (fun e h H => ?_)
      rotate_left
      · unfold Map_ii_Set.j3 at H
        refine sR <| nM (e 0) rfl <| nP R_nil H fun _ H => nP (R_fld TF_219_3) H fun _ H => nL T1_3 H fun _ H => nP R_add H fun _ H => nP R_nil H fun _ H => nP (R_fld TF_219_3) H fun _ H => vl_n <| H_store1 TS_3 H fun h H => vl_e <| sR <| nM (e 0) rfl <| nP R_nil H fun _ H => nP (R_fld TF_219_4) H fun _ H => ?_
        exact nP (R_fld TF_216_0) H fun _ H => nL T1_3 H fun t143 H => nS t143 rfl <| nS (.bool false) rfl <| vl_e <| WPc_ret <| resH_of rfl <| H
      refine sR <| nM (e 10) rfl <| vl_e ?_
      refine cI H (fun H => ?_) fun H => ?_
      · exact sR <| nM (e 9) rfl <| nS (e 9) rfl <| nS (.bool true) rfl <| vl_e <| WPc_ret <| resH_of rfl <| H
      · exact WPc_skip <| H
    refine sR <| nM t63 rfl <| vl_e ?_
    refine cI H (fun H => ?_) fun H => ?_
    · refine sR <| nM (e 0) rfl <| nP R_nil H fun _ H => nP (R_fld TF_219_2) H fun _ H => nL T1_211 H fun t68 H => nS t68 rfl <| vl_e <| sR <| nM (e 0) rfl <| nM t68 rfl <| vl_n <| H_call HB_130 H fun t72 h H => nM t72 rfl <| nP R_ext H fun t73 H => nP R_ext H fun _ H => ?_
      refine vl_n <| H_alloc TV_216 H fun _ h H => nS t73 rfl <| vl_n <| H_storeN TS_216 H fun h H => vl_e <| sR <| nM (e 0) rfl <| nM (e 0) rfl <| vl_n <| H_call HB_128 H fun _ h H => nP R_nil H fun _ H => nP (R_fld TF_219_2) H fun _ H => vl_n <| H_store1 TS_211 H fun h H => vl_e <| WPc_seq' <| W_drawn [0, 1, 3, 7, 15, 31, 63, 0, 128, 384, 896, 1920, 3968, 8191, 16383] (.take 0 (.take 1 (.take 2 (.take 3 (.take 4 (.take 5 (.take 6 (.take 7 (.take 8 (.take 9 (.take 10 (.take 11 (.alt 12 (.take 13 (.alt 14 .done .none)) .none))))))))))))) mixed (by kernel_rfl) ?_
      refine pM (e 0) rfl rfl <| pP rfl R_nil H fun _ H => pP rfl (R_fld TF_219_2) H fun _ H => pL rfl T1_211 H fun _ _ hat83 H => pP rfl R_nil H fun _ H => pP rfl (R_fld TF_225_3) H fun _ H => pL rfl T1_223 H fun _ _ hat86 H => pM (e 0) rfl rfl <| pP rfl R_nil H fun _ H => pP rfl (R_fld TF_219_6) H fun _ H => pL rfl T1_3 H fun _ _ _ H => pP rfl R_add H fun _ H => aE rfl <| H_mks TZ_231 rfl H fun _ h ⟨S, S_2, H⟩ => ⟨(hskip rfl (hcons rfl (still_1 S_2 hat86) (hcons rfl (still_1 S hat83) hnil))), pP rfl R_nil H fun _ H => ?_⟩
      refine aE rfl <| H_store1 TS_231 H fun h H => ⟨(hskip rfl (hskip rfl hnil)), vp_done <| WPc_seq' <| W_drawn [0, 1, 3, 7, 15, 31, 63, 0, 0, 0, 768, 1920, 4095, 8191] (.take 0 (.take 1 (.take 2 (.take 3 (.take 4 (.take 5 (.take 6 (.take 8 (.take 9 (.alt 7 (.alt 10 (.alt 11 (.take 12 (.alt 13 .done .none)) .none) .none) (.alt 10 (.alt 7 (.alt 11 (.take 12 (.alt 13 .done .none)) .none) .none) .none))))))))))) mixed (by kernel_rfl) <| pM (e 0) rfl rfl <| pP rfl R_nil H fun _ H => pP rfl (R_fld TF_219_2) H fun _ H => pL rfl T1_211 H fun _ _ hat97 H => pP rfl R_nil H fun _ H => pP rfl (R_fld TF_225_3) H fun _ H => pL rfl T1_223 H fun _ _ hat100 H => pM t68 rfl rfl <| pM t73 rfl rfl ?_⟩
      obtain ⟨HA0, HA1⟩ := H
      refine alt_n rfl ?_ ?_
      · have H := HA0
        clear HA0 HA1
        refine H_mkSl TZ_231 (by decide) rfl H rfl fun _ h ⟨S_3, S_4, H⟩ => ⟨(hcons rfl (still_1 S_4 hat100) (hcons rfl (still_1 S_3 hat97) hnil)), ?_⟩
        refine aE rfl <| H_mkSl TZ_231 (by decide) rfl H rfl fun _ h ⟨S_5, S_6, H⟩ => ⟨(hcons rfl (still_1 S_6 hat100) (hcons rfl (still_1 S_5 hat97) hnil)), aE rfl <| H_app TZ_231 TU_231 H fun _ h ⟨S_7, S_8, H⟩ => ⟨(hcons rfl (still_1 S_8 hat100) (hcons rfl (still_1 S_7 hat97) hnil)), pP rfl R_nil H fun _ H => aE rfl <| H_store1 TS_231 H fun h H => ⟨(hskip rfl (hskip rfl hnil)), vp_done <| WPc_seq' <| W_drawn [0, 1, 3, 7, 0, 0, 32, 112, 255, 511, 1023] (.take 0 (.take 1 (.take 2 (.take 3 (.take 5 (.alt 4 (.alt 6 (.alt 7 (.take 8 (.take 9 (.alt 10 .done .none))) .none) .none) (.alt 6 (.alt 4 (.alt 7 (.take 8 (.take 9 (.alt 10 .done .none))) .none) .none) .none))))))) mixed (by kernel_rfl) <| pM (e 0) rfl rfl <| pP rfl R_nil H fun _ H => pP rfl (R_fld TF_219_2) H fun _ H => pL rfl T1_211 H fun _ _ hat110 H => tkL rfl <| R_loadN TN_216 H fun _ _ hat112 _ H _ hSt112 => ?_⟩⟩⟩
        obtain ⟨HA0, HA1⟩ := H
        refine alt_n rfl ?_ ?_
        · have H := HA0
          clear HA0 HA1
          refine H_mkSl TZ_222 (by decide) rfl H rfl fun _ h ⟨S_9, S_10, H⟩ => ⟨(hcons rfl (hSt112 _ (still_N S_10 hat112 rfl)) (hcons rfl (still_1 S_9 hat110) hnil)), ?_⟩
          refine aE rfl <| H_mkSl TZ_222 (by decide) rfl H rfl fun _ h ⟨S_11, H⟩ => ⟨(hskip rfl (hcons rfl (still_1 S_11 hat110) hnil)), aE rfl <| H_app TZ_222 TU_222 H fun _ h ⟨S_12, H⟩ => ⟨(hcons rfl (still_1 S_12 hat110) hnil), pP rfl R_nil H fun _ H => pP rfl (R_fld TF_225_2) H fun _ H => aE rfl <| H_store1 TS_222 H fun h H => ⟨(hskip rfl hnil), vp_done <| sR <| nM (e 0) rfl <| nP R_nil H fun _ H => nP (R_fld TF_219_2) H fun _ H => nL T1_211 H fun _ H => vl_n <| H_call HB_131 H fun _ h H => vl_e <| sR ?_⟩⟩⟩
          exact nM (e 0) rfl <| nP (R_fld TF_216_1) H fun _ H => nL T1_3 H fun _ H => nP (R_fld TF_216_0) H fun _ H => nL T1_3 H fun _ H => vl_n <| H_call HB_63 H fun _ h H => nP R_ext H fun t128 H => nP R_ext H fun t129 H => nS t128 rfl <| nS t129 rfl <| vl_e <| WPc_ret <| resH_of rfl <| H
        refine alt_n rfl ?_ vp_none
        have H := HA1
        clear HA0 HA1
        refine H_mkSl TZ_222 (by decide) rfl H rfl fun _ h ⟨S_13, H⟩ => ⟨(hskip rfl (hcons rfl (still_1 S_13 hat110) hnil)), ?_⟩
        refine aE rfl <| H_mkSl TZ_222 (by decide) rfl H rfl fun _ h ⟨S_14, H⟩ => ⟨(hcons rfl (still_1 S_14 hat110) hnil), aE rfl <| H_app TZ_222 TU_222 H fun _ h ⟨S_15, H⟩ => ⟨(hcons rfl (still_1 S_15 hat110) hnil), pP rfl R_nil H fun _ H => pP rfl (R_fld TF_225_2) H fun _ H => aE rfl <| H_store1 TS_222 H fun h H => ⟨(hskip rfl hnil), vp_done <| sR <| nM (e 0) rfl <| nP R_nil H fun _ H => nP (R_fld TF_219_2) H fun _ H => nL T1_211 H fun _ H => vl_n <| H_call HB_131 H fun _ h H => vl_e <| sR ?_⟩⟩⟩
        exact nM (e 0) rfl <| nP (R_fld TF_216_1) H fun _ H => nL T1_3 H fun _ H => nP (R_fld TF_216_0) H fun _ H => nL T1_3 H fun _ H => vl_n <| H_call HB_63 H fun _ h H => nP R_ext H fun t128_2 H => nP R_ext H fun t129_2 H => nS t128_2 rfl <| nS t129_2 rfl <| vl_e <| WPc_ret <| resH_of rfl <| H
      refine alt_n rfl ?_ vp_none
      have H := HA1
      clear HA0 HA1
      refine H_mkSl TZ_231 (by decide) rfl H rfl fun _ h ⟨S_16, S_17, H⟩ => ⟨(hcons rfl (still_1 S_17 hat100) (hcons rfl (still_1 S_16 hat97) hnil)), ?_⟩
      refine aE rfl <| H_mkSl TZ_231 (by decide) rfl H rfl fun _ h ⟨S_18, S_19, H⟩ => ⟨(hcons rfl (still_1 S_19 hat100) (hcons rfl (still_1 S_18 hat97) hnil)), aE rfl <| H_app TZ_231 TU_231 H fun _ h ⟨S_20, S_21, H⟩ => ⟨(hcons rfl (still_1 S_21 hat100) (hcons rfl (still_1 S_20 hat97) hnil)), pP rfl R_nil H fun _ H => aE rfl <| H_store1 TS_231 H fun h H => ⟨(hskip rfl (hskip rfl hnil)), vp_done <| WPc_seq' <| W_drawn [0, 1, 3, 7, 0, 0, 32, 112, 255, 511, 1023] (.take 0 (.take 1 (.take 2 (.take 3 (.take 5 (.alt 4 (.alt 6 (.alt 7 (.take 8 (.take 9 (.alt 10 .done .none))) .none) .none) (.alt 6 (.alt 4 (.alt 7 (.take 8 (.take 9 (.alt 10 .done .none))) .none) .none) .none))))))) mixed (by kernel_rfl) <| pM (e 0) rfl rfl <| pP rfl R_nil H fun _ H => pP rfl (R_fld TF_219_2) H fun _ H => pL rfl T1_211 H fun _ _ hat110_2 H => tkL rfl <| R_loadN TN_216 H fun _ _ hat112_2 _ H _ hSt112_2 => ?_⟩⟩⟩
      obtain ⟨HA0, HA1⟩ := H
      refine alt_n rfl ?_ ?_
      · have H := HA0
        clear HA0 HA1
        refine H_mkSl TZ_222 (by decide) rfl H rfl fun _ h ⟨S_22, S_23, H⟩ => ⟨(hcons rfl (hSt112_2 _ (still_N S_23 hat112_2 rfl)) (hcons rfl (still_1 S_22 hat110_2) hnil)), ?_⟩
        refine aE rfl <| H_mkSl TZ_222 (by decide) rfl H rfl fun _ h ⟨S_24, H⟩ => ⟨(hskip rfl (hcons rfl (still_1 S_24 hat110_2) hnil)), aE rfl <| H_app TZ_222 TU_222 H fun _ h ⟨S_25, H⟩ => ⟨(hcons rfl (still_1 S_25 hat110_2) hnil), pP rfl R_nil H fun _ H => pP rfl (R_fld TF_225_2) H fun _ H => aE rfl <| H_store1 TS_222 H fun h H => ⟨(hskip rfl hnil), vp_done <| sR <| nM (e 0) rfl <| nP R_nil H fun _ H => nP (R_fld TF_219_2) H fun _ H => nL T1_211 H fun _ H => vl_n <| H_call HB_131 H fun _ h H => vl_e <| sR ?_⟩⟩⟩
        exact nM (e 0) rfl <| nP (R_fld TF_216_1) H fun _ H => nL T1_3 H fun _ H => nP (R_fld TF_216_0) H fun _ H => nL T1_3 H fun _ H => vl_n <| H_call HB_63 H fun _ h H => nP R_ext H fun t128_3 H => nP R_ext H fun t129_3 H => nS t128_3 rfl <| nS t129_3 rfl <| vl_e <| WPc_ret <| resH_of rfl <| H
      refine alt_n rfl ?_ vp_none
      have H := HA1
      clear HA0 HA1
      refine H_mkSl TZ_222 (by decide) rfl H rfl fun _ h ⟨S_26, H⟩ => ⟨(hskip rfl (hcons rfl (still_1 S_26 hat110_2) hnil)), ?_⟩
      refine aE rfl <| H_mkSl TZ_222 (by decide) rfl H rfl fun _ h ⟨S_27, H⟩ => ⟨(hcons rfl (still_1 S_27 hat110_2) hnil), aE rfl <| H_app TZ_222 TU_222 H fun _ h ⟨S_28, H⟩ => ⟨(hcons rfl (still_1 S_28 hat110_2) hnil), pP rfl R_nil H fun _ H => pP rfl (R_fld TF_225_2) H fun _ H => aE rfl <| H_store1 TS_222 H fun h H => ⟨(hskip rfl hnil), vp_done <| sR <| nM (e 0) rfl <| nP R_nil H fun _ H => nP (R_fld TF_219_2) H fun _ H => nL T1_211 H fun _ H => vl_n <| H_call HB_131 H fun _ h H => vl_e <| sR ?_⟩⟩⟩
      exact nM (e 0) rfl <| nP (R_fld TF_216_1) H fun _ H => nL T1_3 H fun _ H => nP (R_fld TF_216_0) H fun _ H => nL T1_3 H fun _ H => vl_n <| H_call HB_63 H fun _ h H => nP R_ext H fun t128_4 H => nP R_ext H fun t129_4 H => nS t128_4 rfl <| nS t129_4 rfl <| vl_e <| WPc_ret <| resH_of rfl <| H
    · exact WPc_skip <| H
  refine sR <| nM a0 rfl <| nP R_nil H fun _ H => nP (R_fld TF_219_2) H fun _ H => nL T1_211 H fun _ H => nP (R_eqNilP Try.underlying211 rfl) H fun _ H => vl_e ?_
  refine cI H (fun H => ?_) fun H => ?_
  · refine sR <| nM a0 rfl <| vl_n <| H_call HB_127 H fun _ h H => vl_e <| sR <| nM a0 rfl <| nM a0 rfl <| vl_n <| H_call HB_128 H fun _ h H => nP R_nil H fun _ H => nP (R_fld TF_219_2) H fun _ H => vl_n <| H_store1 TS_211 H fun h H => vl_e <| WPc_seq' <| W_drawn [0, 1, 3, 7, 0, 0, 32, 112, 255, 511, 1023] (.take 0 (.take 1 (.take 2 (.take 3 (.take 5 (.alt 4 (.alt 6 (.alt 7 (.take 8 (.take 9 (.alt 10 .done .none))) .none) .none) (.alt 6 (.alt 4 (.alt 7 (.take 8 (.take 9 (.alt 10 .done .none))) .none) .none) .none))))))) mixed (by kernel_rfl) ?_
    refine pM a0 rfl rfl <| pP rfl R_nil H fun _ H => pP rfl (R_fld TF_219_2) H fun _ H => pL rfl T1_211 H fun _ _ hat33 H => tkL rfl <| R_loadN TN_216 H fun _ _ hat35 _ H _ hSt35 => ?_
    obtain ⟨HA0, HA1⟩ := H
    refine alt_n rfl ?_ ?_
    · have H := HA0
      clear HA0 HA1
      refine H_mkSl TZ_222 (by decide) rfl H rfl fun _ h ⟨S, S_2, H⟩ => ⟨(hcons rfl (hSt35 _ (still_N S_2 hat35 rfl)) (hcons rfl (still_1 S hat33) hnil)), ?_⟩
      refine aE rfl <| H_mkSl TZ_222 (by decide) rfl H rfl fun _ h ⟨S_3, H⟩ => ⟨(hskip rfl (hcons rfl (still_1 S_3 hat33) hnil)), aE rfl <| H_app TZ_222 TU_222 H fun _ h ⟨S_4, H⟩ => ⟨(hcons rfl (still_1 S_4 hat33) hnil), pP rfl R_nil H fun _ H => pP rfl (R_fld TF_225_2) H fun _ H => aE rfl <| H_store1 TS_222 H fun h H => ⟨(hskip rfl hnil), vp_done <| sR <| nM a0 rfl <| nP R_nil H fun _ H => nP (R_fld TF_219_2) H fun _ H => nL T1_211 H fun _ H => nP R_nil H fun _ H => nP (R_fld TF_225_1) H fun _ H => vl_n <| H_store1 TS_3 H fun h H => ?_⟩⟩⟩
      refine vl_e <| sR <| nM a0 rfl <| nP R_nil H fun _ H => nP (R_fld TF_219_3) H fun _ H => vl_n <| H_store1 TS_3 H fun h H => vl_e <| sR <| nM a0 rfl <| nP R_nil H fun _ H => nP (R_fld TF_219_4) H fun _ H => nP (R_fld TF_216_0) H fun _ H => nL T1_3 H fun t53 H => nS t53 rfl ?_
      exact nS (.bool false) rfl <| vl_e <| WPc_ret <| resH_of rfl <| H
    refine alt_n rfl ?_ vp_none
    have H := HA1
    clear HA0 HA1
    refine H_mkSl TZ_222 (by decide) rfl H rfl fun _ h ⟨S_5, H⟩ => ⟨(hskip rfl (hcons rfl (still_1 S_5 hat33) hnil)), ?_⟩
    refine aE rfl <| H_mkSl TZ_222 (by decide) rfl H rfl fun _ h ⟨S_6, H⟩ => ⟨(hcons rfl (still_1 S_6 hat33) hnil), aE rfl <| H_app TZ_222 TU_222 H fun _ h ⟨S_7, H⟩ => ⟨(hcons rfl (still_1 S_7 hat33) hnil), pP rfl R_nil H fun _ H => pP rfl (R_fld TF_225_2) H fun _ H => aE rfl <| H_store1 TS_222 H fun h H => ⟨(hskip rfl hnil), vp_done <| sR <| nM a0 rfl <| nP R_nil H fun _ H => nP (R_fld TF_219_2) H fun _ H => nL T1_211 H fun _ H => nP R_nil H fun _ H => nP (R_fld TF_225_1) H fun _ H => vl_n <| H_store1 TS_3 H fun h H => ?_⟩⟩⟩
    refine vl_e <| sR <| nM a0 rfl <| nP R_nil H fun _ H => nP (R_fld TF_219_3) H fun _ H => vl_n <| H_store1 TS_3 H fun h H => vl_e <| sR <| nM a0 rfl <| nP R_nil H fun _ H => nP (R_fld TF_219_4) H fun _ H => nP (R_fld TF_216_0) H fun _ H => nL T1_3 H fun t53_2 H => nS t53_2 rfl ?_
    exact nS (.bool false) rfl <| vl_e <| WPc_ret <| resH_of rfl <| H
  · exact WPc_skip <| H
/-! ### impl.found -/
def i_found.j1 (s2 s4 : Value) (h : Heap) (Q : Value → Heap → Prop) : Prop := loadN 2 s2 h fun b=>buildV [(.int .i64 0), (.int .i64 0), (.bool false)] [(0, 2, b), (2, 1, (.bool true))] fun d=>storeN 3 s4 d h fun h=>loadN 3 s4 h fun g=>Q g h
def i_found.sh (a0 a1 : Value) (h : Heap) (Q : Value → Heap → Prop) : Prop := box 27 a0 h fun b h=>alloc [(.int .i64 0), (.int .i64 0), (.bool false)] 32 h fun d h=>notV a1 fun g=>ifV g (buildV [(.int .i64 0), (.int .i64 0), (.bool false)] [] fun i=>storeN 3 d i h fun h=>loadN 3 d h fun j=>Q j h) (i_found.j1 b d h Q)
theorem i_found.body (a0 a1 : Value) (h : Heap) (Q : Value → Heap → Prop) (H : i_found.sh a0 a1 h Q) : i_found.call #[a0, a1] h Q := by
  refine callsH_of (args := [a0, a1]) Try.func132 rfl rfl ?_
  unfold i_found.sh at H
  refine sR <| vl_n <| H_box H fun _ h H => vl_n <| H_alloc TV_32 H fun _ h H => vl_e ?_
  refine WPc_seq (fun e h => i_found.j1 (e 2) (e 4) h Q) ?_ (fun e h H => ?_)
  rotate_left
  · unfold i_found.j1 at H
    exact sR <| nLN TN_27 H fun _ H => nP (R_build TB_32 rfl (by decide)) H fun _ H => vl_n <| H_storeN TS_32 H fun h H => vl_e <| WPc_ret <| resH_of rfl <| resL_N TN_32 <| loadN_imp H fun r4 H => H
  refine sR <| nM a1 rfl <| nP R_not H fun _ H => vl_e ?_
  refine cI H (fun H => ?_) fun H => ?_
  · exact sR <| nP (R_build TB_32 rfl (by decide)) H fun _ H => vl_n <| H_storeN TS_32 H fun h H => vl_e <| WPc_ret <| resH_of rfl <| resL_N TN_32 <| loadN_imp H fun r4 H => H
  · exact WPc_skip <| H
/-! ### impl.pair -/
def i_pair.sh (a0 a1 a2 : Value) (h : Heap) (Q : Value → Heap → Prop) : Prop := alloc [(.int .i64 0), (.int .i64 0), (.bool false)] 32 h fun b h=>buildV [(.int .i64 0), (.int .i64 0)] [(0, 1, a0), (1, 1, a1)] fun d=>i_found.call #[d, a2] h fun g h=>storeN 3 b g h fun h=>loadN 3 b h fun i=>Q i h
theorem i_pair.body (a0 a1 a2 : Value) (h : Heap) (Q : Value → Heap → Prop) (H : i_pair.sh a0 a1 a2 h Q) : i_pair.call #[a0, a1, a2] h Q := by
  refine callsH_of (args := [a0, a1, a2]) Try.func64 rfl rfl ?_
  unfold i_pair.sh at H
  refine sR <| vl_n <| H_alloc TV_32 H fun _ h H => vl_e <| sR <| nM a0 rfl <| nM a1 rfl <| nP (R_build TB_27 rfl (by decide)) H fun _ H => nM a2 rfl <| vl_n <| H_call HB_132 H fun _ h H => vl_n <| H_storeN TS_32 H fun h H => vl_e <| WPc_ret <| resH_of rfl <| resL_N TN_32 ?_
  exact loadN_imp H fun r6 H => H
end Go.Proofs.Ytkkappjbcgnacaa
end
section
namespace Go.Proofs.Ytkkappjbcgnacaa
open Go.Hp
set_option maxRecDepth 100000
set_option maxHeartbeats 8000000
set_option linter.unusedVariables false
set_option linter.unusedSimpArgs false

/-! ### impl.growMap -/
def i_growMap.j1 (s5 : Value) (h : Heap) (Q : Value → Heap → Prop) : Prop := Q s5 h
def i_growMap.j4 (s5 s10 s11 s12 : Value) (h : Heap) (K1 : List Value → Heap → Prop) (Q : Value → Heap → Prop) : Prop := arith (· + ·) s12 (.int .i64 1) fun b=>K1 [b] h
def i_growMap.j3 (s5 s10 s11 s12 : Value) (h : Heap) (K1 : List Value → Heap → Prop) (Q : Value → Heap → Prop) : Prop := idx 2 s10 s12 fun b=>loadN 2 b h fun d=>alloc [(.int .i64 0), (.int .i64 0)] 27 h fun g h=>storeN 2 g d h fun h=>fld 0 g fun i=>load1 i h fun j=>fld 1 g fun k=>load1 k h fun l=>Map_ii_Set.call #[s5, j, l] h fun m h=>i_growMap.j4 s5 s10 s11 s12 h K1 Q
def i_growMap.l2.b (c5 c10 c11 s12 : Value) (h : Heap) (K1 : List Value → Heap → Prop) (Q : Value → Heap → Prop) : Prop := cmpI (fun a b=>decide (a < b)) s12 c11 fun b=>ifV b (i_growMap.j3 c5 c10 c11 s12 h K1 Q) (i_growMap.j1 c5 h Q)
def i_growMap.sh (a0 a1 : Value) (h : Heap) (Q : Value → Heap → Prop) : Prop := NewMap_ii.call #[a0] h fun b h=>lenV a1 fun d=>loopC (fun c s h K1=>i_growMap.l2.b (c.getD 0 undef) (c.getD 1 undef) (c.getD 2 undef) (s.getD 0 undef) h K1 Q) [b, a1, d] [(.int .i64 0)] h
theorem i_growMap.body (a0 a1 : Value) (h : Heap) (Q : Value → Heap → Prop) (H : i_growMap.sh a0 a1 h Q) : i_growMap.call #[a0, a1] h Q := by
  refine callsH_of (args := [a0, a1]) Try.func74 rfl rfl ?_
  unfold i_growMap.sh at H
  refine sR <| nS (.pointer none) rfl <| vl_e <| sR <| nM a0 rfl <| vl_n <| H_call HB_124 H fun t9 h H => nS t9 rfl <| vl_e ?_
  refine WPc_seq (fun e h => i_growMap.j1 (e 5) h Q) ?_ (fun e h H => ?_)
  rotate_left
  · unfold i_growMap.j1 at H
    exact sR <| nM (e 5) rfl <| nS (e 5) rfl <| vl_e <| WPc_ret <| resH_of rfl <| H
  refine sR <| nM a1 rfl <| nP (R_len Try.underlying22) H fun _ H => nM (.int .i64 0) rfl <| vl_e <| WPc_block ?_
  refine loop_at (fun e => [e 12]) (fun e => [e 5, e 10, e 11]) H rfl rfl ?_
  intro K1 e1 h H hin1
  replace H : i_growMap.l2.b (e1 5) (e1 10) (e1 11) (e1 12) h K1 Q := H
  unfold i_growMap.l2.b at H
  clear hin1
  refine sR <| nP R_lss H fun _ H => vl_e ?_
  refine WPc_seq (fun e h => i_growMap.j3 (e 5) (e 10) (e 11) (e 12) h K1 Q ∧ [e1 5, e1 10, e1 11] = [e 5, e 10, e 11]) ?_ (fun e h ⟨H, hq1⟩ => ?_)
  rotate_left
  · unfold i_growMap.j3 at H
    refine WPc_seq (fun e h => i_growMap.j4 (e 5) (e 10) (e 11) (e 12) h K1 Q ∧ [e1 5, e1 10, e1 11] = [e 5, e 10, e 11]) ?_ (fun e h ⟨H, hq1⟩ => ?_)
    rotate_left
    · unfold i_growMap.j4 at H
      refine W_region (by kernel_rfl) <| nP R_add H fun t22 H => nM t22 rfl <| vl_e ?_
      exact ⟨H, hq1⟩
    refine WPc_block <| sR <| nP (R_idx TE_22) H fun _ H => nLN TN_27 H fun _ H => vl_n <| H_alloc TV_27 H fun _ h H => vl_n <| H_storeN TS_27 H fun h H => vl_e <| W_region (by kernel_rfl) <| nM (e 5) rfl <| nP (R_fld TF_27_0) H fun _ H => nL T1_3 H fun _ H => nP (R_fld TF_27_1) H fun _ H => nL T1_3 H fun _ H => vl_n <| H_call HB_63 H fun _ h H => ?_
    refine vl_e ?_
    exact ⟨H, hq1⟩
  refine cI H (fun H => ?_) fun H => ?_
  · refine WPc_skip ?_
    exact ⟨H, rfl⟩
  · refine WPc_exit ?_
    exact H
/-! ### laws.exItems -/
def l_exItems.sh (h : Heap) (Q : Value → Heap → Prop) : Prop := buildV [(.int .i64 0), (.int .i64 0)] [(0, 1, (.int .i64 5)), (1, 1, (.int .i64 1))] fun b=>buildV [(.int .i64 0), (.int .i64 0)] [(0, 1, (.int .i64 3)), (1, 1, (.int .i64 2))] fun d=>buildV [(.int .i64 0), (.int .i64 0)] [(0, 1, (.int .i64 9)), (1, 1, (.int .i64 3))] fun g=>buildV [(.int .i64 0), (.int .i64 0)] [(0, 1, (.int .i64 3)), (1, 1, (.int .i64 4))] fun i=>buildV [(.int .i64 0), (.int .i64 0)] [(0, 1, (.int .i64 1)), (1, 1, (.int .i64 5))] fun j=>buildV [(.int .i64 0), (.int .i64 0)] [(0, 1, (.int .i64 7)), (1, 1, (.int .i64 6))] fun k=>buildV [(.int .i64 0), (.int .i64 0)] [(0, 1, (.int .i64 8)), (1, 1, (.int .i64 7))] fun l=>mkSl (if 7 * 2 = 0 then [] else zeros [(.int .i64 0), (.int .i64 0)] 7) 7 [(0 * 2, 2, b), (1 * 2, 2, d), (2 * 2, 2, g), (3 * 2, 2, i), (4 * 2, 2, j), (5 * 2, 2, k), (6 * 2, 2, l)] 27 h fun m h=>Q m h
theorem l_exItems.body (h : Heap) (Q : Value → Heap → Prop) (H : l_exItems.sh h Q) : l_exItems.call #[] h Q := by
  refine callsH_of (args := []) Try.func73 rfl rfl ?_
  unfold l_exItems.sh at H
  refine sR <| nS (.slice none 0 0) rfl <| vl_e <| sR <| nP (R_build TB_27 rfl (by decide)) H fun _ H => nP (R_build TB_27 rfl (by decide)) H fun _ H => nP (R_build TB_27 rfl (by decide)) H fun _ H => nP (R_build TB_27 rfl (by decide)) H fun _ H => nP (R_build TB_27 rfl (by decide)) H fun _ H => nP (R_build TB_27 rfl (by decide)) H fun _ H => nP (R_build TB_27 rfl (by decide)) H fun _ H => vl_n <| H_mkSl TZ_22 (by decide) rfl H rfl fun t8 h H => nS t8 rfl <| vl_e ?_
  exact WPc_ret <| resH_of rfl <| H
/-! ### (*pub/tidwallbtree.Map[int, int]).get -/
def Map_ii_get.j4 (s0 s1 s2 s8 s9 : Value) (h : Heap) (K1 : List Value → Heap → Prop) (Q : Value → Heap → Prop) : Prop := nilck s8 fun b=>fld 3 b fun d=>load1 d h fun g=>nilck g fun i=>load1 i h fun j=>idx 1 j s9 fun k=>Map_ii_isoLoad.call #[s0, k, s2] h fun l h=>K1 [l] h
def Map_ii_get.j3 (s0 s1 s2 s8 s9 : Value) (h : Heap) (K1 : List Value → Heap → Prop) (Q : Value → Heap → Prop) : Prop := mapNode_ii_leaf.call #[s8] h fun b h=>ifV b (nilck s0 fun d=>fld 4 d fun g=>fld 0 g fun i=>load1 i h fun j=>Q (.tuple #[j, (.bool false)]) h) (Map_ii_get.j4 s0 s1 s2 s8 s9 h K1 Q)
def Map_ii_get.l2.b (c0 c1 c2 s8 : Value) (h : Heap) (K1 : List Value → Heap → Prop) (Q : Value → Heap → Prop) : Prop := Map_ii_search.call #[c0, s8, c1] h fun b h=>extr 0 b fun d=>extr 1 b fun g=>ifV g (nilck s8 fun i=>fld 2 i fun j=>load1 j h fun k=>idx 2 k d fun l=>fld 0 l fun m=>load1 m h fun n=>Q (.tuple #[n, (.bool true)]) h) (Map_ii_get.j3 c0 c1 c2 s8 d h K1 Q)
def Map_ii_get.j1 (s0 s1 s2 : Value) (h : Heap) (Q : Value → Heap → Prop) : Prop := nilck s0 fun b=>fld 2 b fun d=>Map_ii_isoLoad.call #[s0, d, s2] h fun g h=>loopC (fun c s h K1=>Map_ii_get.l2.b (c.getD 0 undef) (c.getD 1 undef) (c.getD 2 undef) (s.getD 0 undef) h K1 Q) [s0, s1, s2] [g] h
def Map_ii_get.sh (a0 a1 a2 : Value) (h : Heap) (Q : Value → Heap → Prop) : Prop := nilck a0 fun b=>fld 2 b fun d=>load1 d h fun g=>eqNilP g fun i=>ifV i (nilck a0 fun j=>fld 4 j fun k=>fld 0 k fun l=>load1 l h fun m=>Q (.tuple #[m, (.bool false)]) h) (Map_ii_get.j1 a0 a1 a2 h Q)
theorem Map_ii_get.body (a0 a1 a2 : Value) (h : Heap) (Q : Value → Heap → Prop) (H : Map_ii_get.sh a0 a1 a2 h Q) : Map_ii_get.call #[a0, a1, a2] h Q := by
  refine callsH_of (args := [a0, a1, a2]) Try.func141 rfl rfl ?_
  unfold Map_ii_get.sh at H
  refine sR <| nS (.int .i64 0) rfl <| nS (.bool false) rfl <| vl_e ?_
  refine WPc_seq (fun e h => Map_ii_get.j1 (e 0) (e 1) (e 2) h Q) ?_ (fun e h H => ?_)
  rotate_left
  · unfold Map_ii_get.j1 at H
    refine sR <| nM (e 0) rfl <| nM (e 0) rfl <| nP R_nil H fun _ H => nP (R_fld TF_219_2) H fun _ H => nM (e 2) rfl <| vl_n <| H_call HB_146 H fun t26 h H => nS t26 rfl <| vl_e <| WPc_block ?_
    refine loop_at (fun e => [e 8]) (fun e => [e 0, e 1, e 2]) H rfl rfl ?_
    intro K1 e1 h H hin1
    replace H : Map_ii_get.l2.b (e1 0) (e1 1) (e1 2) (e1 8) h K1 Q := H
    unfold Map_ii_get.l2.b at H
    clear hin1
    refine WPc_block <| sR <| nM (e1 0) rfl <| nM (e1 8) rfl <| nM (e1 1) rfl <| vl_n <| H_call HB_186 H fun t31 h H => nM t31 rfl <| nP R_ext H fun t32 H => nP R_ext H fun t33 H => nS t32 rfl <| nS t33 rfl <| vl_e ?_
    refine WPc_seq (fun e h => Map_ii_get.j3 (e 0) (e 1) (e 2) (e 8) (e 9) h K1 Q ∧ [e1 0, e1 1, e1 2] = [e 0, e 1, e 2]) ?_ (fun e h ⟨H, hq1⟩ => ?_)
    rotate_left
    · unfold Map_ii_get.j3 at H
      refine WPc_seq (fun e h => Map_ii_get.j4 (e 0) (e 1) (e 2) (e 8) (e 9) h K1 Q ∧ [e1 0, e1 1, e1 2] = [e 0, e 1, e 2]) ?_ (fun e h ⟨H, hq1⟩ => ?_)
      rotate_left
      · unfold Map_ii_get.j4 at H
        refine W_region (by kernel_rfl) <| nM (e 0) rfl <| nM (e 8) rfl <| nP R_nil H fun _ H => nP (R_fld TF_225_3) H fun _ H => nL T1_223 H fun _ H => nP R_nil H fun _ H => nL T1_231 H fun _ H => nM (e 9) rfl <| nP (R_idx TE_231) H fun _ H => nM (e 2) rfl <| vl_n <| H_call HB_146 H fun t60 h H => nS t60 rfl <| vl_e ?_
        exact ⟨H, hq1⟩
      refine sR <| nM (e 8) rfl <| vl_n <| H_call HB_143 H fun _ h H => vl_e ?_
      refine cI H (fun H => ?_) fun H => ?_
      · exact sR <| nM (e 0) rfl <| nP R_nil H fun _ H => nP (R_fld TF_219_4) H fun _ H => nP (R_fld TF_216_0) H fun _ H => nL T1_3 H fun t49 H => nS t49 rfl <| nS (.bool false) rfl <| vl_e <| WPc_ret <| resH_of rfl <| H
      · refine WPc_skip ?_
        exact ⟨H, hq1⟩
    refine sR <| nM t33 rfl <| vl_e ?_
    refine cI H (fun H => ?_) fun H => ?_
    · exact sR <| nM (e1 8) rfl <| nP R_nil H fun _ H => nP (R_fld TF_225_2) H fun _ H => nL T1_222 H fun _ H => nM t32 rfl <| nP (R_idx TE_222) H fun _ H => nP (R_fld TF_216_0) H fun _ H => nL T1_3 H fun t42 H => nS t42 rfl <| nS (.bool true) rfl <| vl_e <| WPc_ret <| resH_of rfl <| H
    · refine WPc_skip ?_
      exact ⟨H, rfl⟩
  refine sR <| nM a0 rfl <| nP R_nil H fun _ H => nP (R_fld TF_219_2) H fun _ H => nL T1_211 H fun _ H => nP (R_eqNilP Try.underlying211 rfl) H fun _ H => vl_e ?_
  refine cI H (fun H => ?_) fun H => ?_
  · exact sR <| nM a0 rfl <| nP R_nil H fun _ H => nP (R_fld TF_219_4) H fun _ H => nP (R_fld TF_216_0) H fun _ H => nL T1_3 H fun t20 H => nS t20 rfl <| nS (.bool false) rfl <| vl_e <| WPc_ret <| resH_of rfl <| H
  · exact WPc_skip <| H
/-! ### (*pub/tidwallbtree.Map[int, int]).Get -/
def Map_ii_Get.sh (a0 a1 : Value) (h : Heap) (Q : Value → Heap → Prop) : Prop := Map_ii_get.call #[a0, a1, (.bool false)] h fun b h=>extr 0 b fun d=>extr 1 b fun g=>Q (.tuple #[d, g]) h
theorem Map_ii_Get.body (a0 a1 : Value) (h : Heap) (Q : Value → Heap → Prop) (H : Map_ii_Get.sh a0 a1 h Q) : Map_ii_Get.call #[a0, a1] h Q := by
  refine callsH_of (args := [a0, a1]) Try.func75 rfl rfl ?_
  unfold Map_ii_Get.sh at H
  refine sR <| nS (.int .i64 0) rfl <| nS (.bool false) rfl <| vl_e <| sR <| nM a0 rfl <| nM a1 rfl <| vl_n <| H_call HB_141 H fun _ h H => nP R_ext H fun t9 H => nP R_ext H fun t10 H => nS t9 rfl <| nS t10 rfl <| vl_e <| WPc_ret ?_
  exact resH_of rfl <| H
end Go.Proofs.Ytkkappjbcgnacaa
end
section
namespace Go.Proofs.Ytkkappjbcgnacaa.Ii
open Go.Hp
set_option linter.unusedVariables false
set_option linter.unusedSimpArgs false
abbrev KT := Int
abbrev VT := Int
abbrev It := KT × VT
abbrev enc (p : It) : List Value := [.int .i64 p.2, .int .i64 p.1]
abbrev kv (k : KT) : Value := .int .i64 k
abbrev vv (v : VT) : Value := .int .i64 v
abbrev emp : It := (0, 0)
def lt (a b : It) : Bool := decide (a.1 < b.1)
/-- The cells of a map's head, in parts. -/
abbrev hd0 (iso : Int) (ctr : Option Addr) : List Value := [.int .u64 iso, .pointer ctr]
abbrev hd4 (mn mx : Int) : List Value := enc emp ++ [.int .i64 mn, .int .i64 mx, .bool false, .bool false]
abbrev hdr (iso : Int) (ctr root : Option Addr) (cnt mn mx : Int) : List Value := [.int .u64 iso, .pointer ctr, .pointer root, .int .i64 cnt] ++ hd4 mn mx
theorem encl (p : It) : (enc p).length = 2 := rfl
theorem enc1 (p : It) : ∀ y ∈ enc p, one1 y = true := by simp [one1]
theorem swo : Swo lt where
  irr a := by simp [lt]
  tr a b c h1 h2 := by simp only [lt, decide_eq_true_eq] at *; exact Int.lt_trans h1 h2
  ntr a b c h1 h2 := by simp only [lt, decide_eq_false_iff_not, Int.not_lt] at *; exact Int.le_trans h2 h1

/-- An item as the laws have it. -/
abbrev encA (p : It) : List Value := [kv p.1, vv p.2]
theorem encAl (p : It) : (encA p).length = 2 := rfl
theorem encA1 (p : It) : ∀ y ∈ encA p, one1 y = true := by simp [one1]
abbrev fk (k : KT) : List Value := [kv k]
theorem fkl (k : KT) : (fk k).length = 1 := rfl
/-- The items of a list that is set in order. -/
def setAll (l : List It) : List It := l.foldl (lput lt) []
theorem setAll_snoc (l : List It) (x : It) : setAll (l ++ [x]) = lput lt (setAll l) x := by unfold setAll; rw [List.foldl_append]; rfl
theorem setAll_len (l : List It) : (setAll l).length ≤ l.length := by
  unfold setAll
  have : ∀ (l a : List It), (l.foldl (lput lt) a).length ≤ a.length + l.length := fun l => by
    induction l with
    | nil => intro a; simp
    | cons x r ih =>
      intro a
      have h1 := ih (lput lt a x)
      have h2 : (lput lt a x).length = _ := lput_length
      simp only [List.foldl_cons, List.length_cons]
      split at h2 <;> omega
  have := this l []; simpa using this
/-- The tree of a list that is set in order. -/
def grown (m : Nat) (l : List It) : MT It := l.foldl (MT.set lt m) none
theorem grown_snoc (m : Nat) (l : List It) (x : It) : grown m (l ++ [x]) = (grown m l).set lt m x := by unfold grown; rw [List.foldl_append]; rfl
end Go.Proofs.Ytkkappjbcgnacaa.Ii
end
section
namespace Go.Proofs.Ytkkappjbcgnacaa.Ii
open Go.Hp Go.Proofs.Ytkkappjbcgnacaa
set_option linter.unusedVariables false
set_option linter.unusedSimpArgs false
variable {h0 h : Heap} {Z E : List Rg} {Q : Value → Heap → Prop}

theorem search_ok {h : Heap} {tr iv : Value} {n : Nat} {its : List It} {x : It} {Q : Value → Heap → Prop} (ha : Asc lt its) (hb : its.length ≤ 4611686018427387903)
    (hn : cl h n 2 = some iv) (hr : Rdl 2 h iv its.length (its.flatMap enc)) (H : Q (.tuple #[.int .i64 (pos lt its x), .bool (lget lt its x).isSome]) h) : Map_ii_search.call #[tr, ptr n 0, kv x.1] h Q := by
  obtain ⟨a, cap, rfl, hl, hx, _⟩ := hr
  obtain ⟨ib, io, hia⟩ : ∃ ib io, its.length ≠ 0 → a = some ⟨ib, io, none⟩ ∧ Rw h ib io (its.flatMap enc) := by
    by_cases e : its.length ≠ 0
    · obtain ⟨b, o, h1, h2⟩ := hx e; exact ⟨b, o, fun _ => ⟨h1, h2⟩⟩
    · exact ⟨0, 0, fun e' => absurd e' e⟩
  have hk : ∀ i (hi : i < its.length), cl h ib (io + i * 2 + 1) = some (kv its[i].1) := fun i hi => by
    have h2 := (hia (by omega)).2 (i * 2 + 1) (by rw [flat_len encl]; omega)
    rw [flat_get encl its i hi 1 (by decide)] at h2
    rw [Nat.add_assoc]; exact h2
  have hs : ∀ i j (hi : i < its.length) (hj : j < its.length), i < j → lt its[i] its[j] = true := fun i j hi hj hij => List.pairwise_iff_getElem.1 ha i j hi hj hij
  have fin : ∀ lo, lo ≤ its.length → (∀ i (hi : i < its.length), i < lo → lt x its[i] = false) → (∀ i (hi : i < its.length), lo ≤ i → lt x its[i] = true) →
      (∀ hp : lo - 1 < its.length, 0 < lo → lt its[lo - 1] x = false → Q (.tuple #[.int .i64 (lo - 1 : Nat), .bool true]) h) ∧ ((∀ hp : lo - 1 < its.length, 0 < lo → lt its[lo - 1] x = true) → Q (.tuple #[.int .i64 lo, .bool false]) h) := by
    intro lo h1 h2 h3
    constructor
    · intro hp h0 hlt
      have e : pos lt its x = lo - 1 := pos_uni (by omega) (fun j hj hjl => swo.tr1 (hs j (lo - 1) hj hp hjl) (h2 (lo - 1) hp (by omega))) (fun _ => hlt)
      have e2 : lget lt its x = some its[lo - 1] := by
        unfold lget; rw [e, List.getElem?_eq_getElem hp, Option.bind_some, h2 (lo - 1) hp (by omega)]; rfl
      rw [e, e2] at H; exact H
    · intro hlt
      have e : pos lt its x = lo := by
        refine pos_uni h1 (fun j hj hjl => ?_) (fun hl => swo.asym (h3 lo hl (Nat.le_refl _)))
        rcases Nat.lt_or_ge j (lo - 1) with hl | hl
        · exact swo.tr _ _ _ (hs j (lo - 1) hj (by omega) hl) (hlt (by omega) (by omega))
        · have : j = lo - 1 := by omega
          subst this; exact hlt hj (by omega)
      have e2 : lget lt its x = none := by
        unfold lget; rw [e]
        rcases Nat.lt_or_ge lo its.length with hl | hl
        · rw [List.getElem?_eq_getElem hl, Option.bind_some, h3 lo hl (Nat.le_refl _)]; rfl
        · rw [List.getElem?_eq_none hl]; rfl
      rw [e, e2] at H; exact H
  refine Map_ii_search.body _ _ _ _ _ ?_
  unfold Map_ii_search.sh
  simp only [w_load1, w_loadN, w_nil, w_fld, w_idx, w_len, w_lenStr, w_cap, w_arith, w_divi, w_remi, w_cmpI, w_cmpS, w_not, w_ext, w_eqNilP, w_neNilP, w_eqB, w_pick, w_max, w_ifV, w_br, w_store1, w_storeN, w_alloc, w_box, add_mk, Nat.zero_add, Nat.add_zero, Option.some.injEq, exists_eq_left', List.getElem?_cons_zero, List.getElem?_cons_succ, List.getD_cons_zero, List.getD_cons_succ, hn]
  refine loop_intro (fun s h' => h' = h ∧ ∃ lo hi : Nat, s = [.int .i64 lo, .int .i64 hi] ∧ lo ≤ hi ∧ hi ≤ its.length ∧ (∀ i (hi' : i < its.length), i < lo → lt x its[i] = false) ∧ (∀ i (hi' : i < its.length), hi ≤ i → lt x its[i] = true))
    (fun s _ => (iv (s.getD 1 undef) - iv (s.getD 0 undef)).toNat) ⟨rfl, 0, its.length, rfl, by omega, by omega, fun i hi hl => by omega, fun i h1 h2 => by omega⟩ ?_
  rintro s h' ⟨rfl, lo, hi, rfl, h1, h2, h3, h4⟩
  unfold Map_ii_search.l3.b
  simp only [w_load1, w_loadN, w_nil, w_fld, w_idx, w_len, w_lenStr, w_cap, w_arith, w_divi, w_remi, w_cmpI, w_cmpS, w_not, w_ext, w_eqNilP, w_neNilP, w_eqB, w_pick, w_max, w_ifV, w_br, w_store1, w_storeN, w_alloc, w_box, add_mk, Nat.zero_add, Nat.add_zero, Option.some.injEq, exists_eq_left', List.getElem?_cons_zero, List.getElem?_cons_succ, List.getD_cons_zero, List.getD_cons_succ]
  refine ⟨fun hlt => ?_, fun hge => ?_⟩
  · have hlt : lo < hi := by simpa using hlt
    unfold Map_ii_search.j4
    have hd : ((lo : Int) + hi).tdiv 2 = (((lo + hi) / 2 : Nat) : Int) := by
      rw [← Int.natCast_add]; exact (Int.ofNat_tdiv (lo + hi) 2).symm
    simp only [w_load1, w_loadN, w_nil, w_fld, w_idx, w_len, w_lenStr, w_cap, w_arith, w_divi, w_remi, w_cmpI, w_cmpS, w_not, w_ext, w_eqNilP, w_neNilP, w_eqB, w_pick, w_max, w_ifV, w_br, w_store1, w_storeN, w_alloc, w_box, add_mk, Nat.zero_add, Nat.add_zero, Option.some.injEq, exists_eq_left', List.getElem?_cons_zero, List.getElem?_cons_succ, List.getD_cons_zero, List.getD_cons_succ]
    rw [i64w (n := (lo : Int) + hi) (by omega) (by omega), hd, i64w (n := (((lo + hi) / 2 : Nat) : Int)) (by omega) (by omega)]
    refine ⟨by decide, ?_⟩
    simp only [w_load1, w_loadN, w_nil, w_fld, w_idx, w_len, w_lenStr, w_cap, w_arith, w_divi, w_remi, w_cmpI, w_cmpS, w_not, w_ext, w_eqNilP, w_neNilP, w_eqB, w_pick, w_max, w_ifV, w_br, w_store1, w_storeN, w_alloc, w_box, add_mk, Nat.zero_add, Nat.add_zero, Option.some.injEq, exists_eq_left', List.getElem?_cons_zero, List.getElem?_cons_succ, List.getD_cons_zero, List.getD_cons_succ, hn, (hia (by omega)).1, Int.toNat_natCast]
    have hm : (lo + hi) / 2 < its.length := by omega
    refine ⟨by omega, by omega, ?_⟩
    simp only [w_load1, w_loadN, w_nil, w_fld, w_idx, w_len, w_lenStr, w_cap, w_arith, w_divi, w_remi, w_cmpI, w_cmpS, w_not, w_ext, w_eqNilP, w_neNilP, w_eqB, w_pick, w_max, w_ifV, w_br, w_store1, w_storeN, w_alloc, w_box, add_mk, Nat.zero_add, Nat.add_zero, Option.some.injEq, exists_eq_left', List.getElem?_cons_zero, List.getElem?_cons_succ, List.getD_cons_zero, List.getD_cons_succ, hk _ hm]
    refine ⟨fun hc => ?_, fun hc => ?_⟩
    · have hc : lt x its[(lo + hi) / 2] = false := by simpa [lt] using hc
      rw [i64w (by omega) (by omega)]
      refine ⟨⟨trivial, (lo + hi) / 2 + 1, hi, by simp, by omega, h2, fun i hi' hl => ?_, h4⟩, by simp; omega⟩
      rcases Nat.lt_or_ge i ((lo + hi) / 2) with hl | hl
      · cases e : lt x its[i] with
        | false => rfl
        | true => have := swo.tr _ _ _ e (hs i _ hi' hm hl); rw [hc] at this; cases this
      · have : i = (lo + hi) / 2 := by omega
        subst this; exact hc
    · have hc : lt x its[(lo + hi) / 2] = true := by simpa [lt] using hc
      refine ⟨⟨trivial, lo, (lo + hi) / 2, rfl, by omega, by omega, h3, fun i hi1 hi2 => ?_⟩, by simp; omega⟩
      rcases Nat.lt_or_ge ((lo + hi) / 2) i with hl | hl
      · exact swo.tr _ _ _ hc (hs _ i hm hi1 hl)
      · have : i = (lo + hi) / 2 := by omega
        subst this; exact hc
  · have hge : lo = hi := by simp at hge; omega
    subst hge
    obtain ⟨f1, f2⟩ := fin lo h2 h3 h4
    unfold Map_ii_search.j1
    simp only [w_load1, w_loadN, w_nil, w_fld, w_idx, w_len, w_lenStr, w_cap, w_arith, w_divi, w_remi, w_cmpI, w_cmpS, w_not, w_ext, w_eqNilP, w_neNilP, w_eqB, w_pick, w_max, w_ifV, w_br, w_store1, w_storeN, w_alloc, w_box, add_mk, Nat.zero_add, Nat.add_zero, Option.some.injEq, exists_eq_left', List.getElem?_cons_zero, List.getElem?_cons_succ, List.getD_cons_zero, List.getD_cons_succ]
    refine ⟨fun hpos => ?_, fun hz => ?_⟩
    · have hpos : 0 < lo := by simpa using hpos
      rw [i64w (n := (lo : Int) - 1) (by omega) (by omega)]
      simp only [w_load1, w_loadN, w_nil, w_fld, w_idx, w_len, w_lenStr, w_cap, w_arith, w_divi, w_remi, w_cmpI, w_cmpS, w_not, w_ext, w_eqNilP, w_neNilP, w_eqB, w_pick, w_max, w_ifV, w_br, w_store1, w_storeN, w_alloc, w_box, add_mk, Nat.zero_add, Nat.add_zero, Option.some.injEq, exists_eq_left', List.getElem?_cons_zero, List.getElem?_cons_succ, List.getD_cons_zero, List.getD_cons_succ, hn, (hia (by omega)).1]
      refine ⟨by omega, by omega, ?_⟩
      rw [show ((lo : Int) - 1).toNat = lo - 1 by omega]
      have hm : lo - 1 < its.length := by omega
      simp only [w_load1, w_loadN, w_nil, w_fld, w_idx, w_len, w_lenStr, w_cap, w_arith, w_divi, w_remi, w_cmpI, w_cmpS, w_not, w_ext, w_eqNilP, w_neNilP, w_eqB, w_pick, w_max, w_ifV, w_br, w_store1, w_storeN, w_alloc, w_box, add_mk, Nat.zero_add, Nat.add_zero, Option.some.injEq, exists_eq_left', List.getElem?_cons_zero, List.getElem?_cons_succ, List.getD_cons_zero, List.getD_cons_succ, hk (lo - 1) hm]
      refine ⟨fun hc => ?_, fun hc => ?_⟩
      · have hc : lt its[lo - 1] x = false := by simpa [lt] using hc
        rw [show ((lo : Int) - 1) = ((lo - 1 : Nat) : Int) by omega]
        exact f1 hm hpos hc
      · have hc : lt its[lo - 1] x = true := by simpa [lt] using hc
        unfold Map_ii_search.j2
        exact f2 (fun _ _ => hc)
    · have hz : lo = 0 := by simp at hz; omega
      subst hz
      unfold Map_ii_search.j2
      exact f2 (fun _ e => absurd e (Nat.lt_irrefl _))

theorem leaf_ok {n : Nat} {a : Option Addr} (hn : cl h n 3 = some (.pointer a)) (H : Q (.bool a.isNone) h) : mapNode_ii_leaf.call #[ptr n 0] h Q := by
  refine mapNode_ii_leaf.body _ _ _ ?_
  unfold mapNode_ii_leaf.sh
  have s := St.start h
  refine r_nil ?_
  refine r_fld ?_
  refine s.r_loadB hn ?_
  refine r_eqNilP ?_
  exact H
/-- One's own node, or a node that is only read. -/
theorem isoLoad_ok {tb pb po n : Nat} {iso : Int} {m : Bool} (hi : cl h tb 0 = some (.int .u64 iso)) (hp : cl h pb po = some (ptr n 0)) (hn : m = true → cl h n 0 = some (.int .u64 iso)) (H : Q (ptr n 0) h) :
    Map_ii_isoLoad.call #[ptr tb 0, ptr pb po, .bool m] h Q := by
  refine Map_ii_isoLoad.body _ _ _ _ _ ?_
  unfold Map_ii_isoLoad.sh
  have hj : Map_ii_isoLoad.j1 (ptr pb po) h Q := by
    unfold Map_ii_isoLoad.j1
    refine r_nil ?_
    exact r_ld hp H
  refine r_br (fun hm => ?_) (fun _ => hj)
  refine r_nil ?_
  refine r_ld hp ?_
  refine r_nil ?_
  refine r_fld ?_
  refine r_ld (hn hm) ?_
  refine r_nil ?_
  refine r_fld ?_
  refine r_ld hi ?_
  refine r_cmpI ?_
  refine r_if (fun e => absurd e (by simp)) (fun _ => hj)

theorem newNode_leaf {tb : Nat} {iso : Int} (hi : cl h tb 0 = some (.int .u64 iso)) (H : ∀ n h', St h [] [(n, 0, [.int .u64 iso, .int .i64 0, .slice none 0 0, .pointer none])] h' → Q (ptr n 0) h') : Map_ii_newNode.call #[ptr tb 0, .bool true] h Q := by
  refine Map_ii_newNode.body _ _ _ _ ?_
  unfold Map_ii_newNode.sh
  have s := St.start h
  refine s.r_alloc fun n h s => ?_
  refine r_nil ?_
  refine r_fld ?_
  refine s.r_loadB hi ?_
  refine r_nil ?_
  refine r_fld ?_
  refine St.r_store0 s 0 rfl (by simp) rfl ?_
  intro h s
  try simp only [List.set_cons_zero, List.set_cons_succ] at s
  refine r_not ?_
  refine r_if (fun e => absurd e (by decide)) (fun _ => ?_)
  unfold Map_ii_newNode.j1
  exact H n h s
theorem newNode_inner {tb : Nat} {iso : Int} (hi : cl h tb 0 = some (.int .u64 iso)) (H : ∀ n kb h', St h [] [(n, 0, [.int .u64 iso, .int .i64 0, .slice none 0 0, ptr kb 0]), (kb, 0, [.slice none 0 0])] h' → Q (ptr n 0) h') : Map_ii_newNode.call #[ptr tb 0, .bool false] h Q := by
  refine Map_ii_newNode.body _ _ _ _ ?_
  unfold Map_ii_newNode.sh
  have s := St.start h
  refine s.r_alloc fun n h s => ?_
  refine r_nil ?_
  refine r_fld ?_
  refine s.r_loadB hi ?_
  refine r_nil ?_
  refine r_fld ?_
  refine St.r_store0 s 0 rfl (by simp) rfl ?_
  intro h s
  try simp only [List.set_cons_zero, List.set_cons_succ] at s
  refine r_not ?_
  refine r_if (fun _ => ?_) (fun e => absurd e (by decide))
  refine s.r_alloc fun kb h s => ?_
  refine r_nil ?_
  refine r_fld ?_
  refine St.r_store0 s 1 rfl (by simp) rfl ?_; intro h s
  unfold Map_ii_newNode.j1
  exact H n kb h (s.perm (by ((apply perm_rg; intro f; simp only [List.set_cons_zero, List.set_cons_succ, List.eraseIdx_cons_zero, List.eraseIdx_cons_succ, List.cons_append, List.nil_append, List.map_append, List.map_cons, List.map_nil, List.sum_append, List.sum_cons, List.sum_nil, List.map_flatMap, Nat.add_zero, Nat.zero_add]; ac_rfl))))

theorem updateCount_leaf {n b o len : Nat} {c1 c2 iv : Value} {xs sp : List Value} (s : St h0 Z ((n, 0, [c1, c2, iv, .pointer none]) :: E) h) (w : Own 2 iv len b o xs sp)
    (H : ∀ h', St h0 Z ((n, 0, [c1, .int .i64 len, iv, .pointer none]) :: E) h' → Q (.tuple #[]) h') : mapNode_ii_updateCount.call #[ptr n 0] h Q := by
  refine mapNode_ii_updateCount.body _ _ _ ?_
  unfold mapNode_ii_updateCount.sh
  refine r_nil ?_
  refine r_fld ?_
  refine St.r_load0 s 0 rfl rfl ?_
  refine w.lenV ?_
  refine r_nil ?_
  refine r_fld ?_
  refine St.r_store0 s 0 rfl (by simp) rfl ?_
  intro h s
  try simp only [List.set_cons_zero, List.set_cons_succ] at s
  refine leaf_ok (a := none) (s.get (k := 0) (j := 3) rfl (by simp)) ?_
  refine r_not ?_
  refine r_if (fun e => absurd e (by decide)) (fun _ => ?_)
  exact H _ s
theorem updateCount_inner {n kb b o rb ro len : Nat} {c1 c2 iv kv : Value} {xs sp ksp : List Value} {ids : List Nat} {c : Nat → Int} (s : St h0 Z ((n, 0, [c1, c2, iv, ptr kb 0]) :: (kb, 0, [kv]) :: (rb, ro, (ids.map fun m => ptr m 0) ++ ksp) :: E) h)
    (w : Own 2 iv len b o xs sp) (wkid : Own 1 kv ids.length rb ro (ids.map fun m => ptr m 0) ksp) (hids : ids.length ≤ 4294967296)
    (hc : ∀ j (hj : j < ids.length), ∃ a1 a2 a3, (ids[j], 0, [a1, .int .i64 (c j), a2, a3]) ∈ E ++ Z) (hb : ∀ j, j ≤ ids.length → 0 ≤ (len : Int) + ((List.range j).map c).sum ∧ (len : Int) + ((List.range j).map c).sum ≤ 9223372036854775807)
    (H : ∀ h', St h0 Z ((n, 0, [c1, .int .i64 ((len : Int) + ((List.range ids.length).map c).sum), iv, ptr kb 0]) :: (kb, 0, [kv]) :: (rb, ro, (ids.map fun m => ptr m 0) ++ ksp) :: E) h' → Q (.tuple #[]) h') : mapNode_ii_updateCount.call #[ptr n 0] h Q := by
  refine mapNode_ii_updateCount.body _ _ _ ?_
  unfold mapNode_ii_updateCount.sh
  refine r_nil ?_
  refine r_fld ?_
  refine St.r_load0 s 0 rfl rfl ?_
  refine w.lenV ?_
  refine r_nil ?_
  refine r_fld ?_
  refine St.r_store0 s 0 rfl (by simp) rfl ?_
  intro h s
  try simp only [List.set_cons_zero, List.set_cons_succ] at s
  refine leaf_ok (a := some ⟨kb, 0, none⟩) (s.get (k := 0) (j := 3) rfl (by simp)) ?_
  refine r_not ?_
  refine r_if (fun _ => ?_) (fun e => absurd e (by simp))
  refine loop_intro (fun t h => ∃ j : Nat, t = [.int .i64 j] ∧ j ≤ ids.length ∧ St h0 Z ((n, 0, [c1, .int .i64 ((len : Int) + ((List.range j).map c).sum), iv, ptr kb 0]) :: (kb, 0, [kv]) :: (rb, ro, (ids.map fun m => ptr m 0) ++ ksp) :: E) h)
    (fun t _ => ids.length - (Hp.iv (t.getD 0 undef)).toNat) ⟨0, rfl, by omega, by simpa using s⟩ ?_
  rintro t h ⟨j, rfl, hj, s⟩
  unfold mapNode_ii_updateCount.l1.b
  refine r_nil ?_
  refine r_fld ?_
  refine St.r_load0 s 0 rfl rfl ?_
  refine r_nil ?_
  refine St.r_load0 s 1 rfl rfl ?_
  refine wkid.lenV ?_
  refine r_cmpI ?_
  refine r_if (fun hlt => ?_) (fun hge => ?_)
  · have hlt : j < ids.length := by simpa using hlt
    unfold mapNode_ii_updateCount.j2
    refine r_nil ?_
    refine r_fld ?_
    refine St.r_load0 s 0 rfl rfl ?_
    refine r_nil ?_
    refine r_fld ?_
    refine St.r_load0 s 0 rfl rfl ?_
    refine r_nil ?_
    refine St.r_load0 s 1 rfl rfl ?_
    refine wkid.idx (n := j) rfl hlt ?_
    refine s.r_load1 2 rfl (v := ptr ids[j] 0) (by rw [Nat.mul_one, List.getElem?_append_left (by simpa using hlt), List.getElem?_map, List.getElem?_eq_getElem hlt]; rfl) ?_
    obtain ⟨a1, a2, a3, hm⟩ := hc j hlt
    refine r_nil ?_
    refine r_fld ?_
    refine s.r_loadM (xs := [a1, .int .i64 (c j), a2, a3]) (by simp only [List.cons_append, List.mem_cons]; exact .inr (.inr (.inr hm))) rfl ?_
    refine r_add (z := (len : Int) + ((List.range (j + 1)).map c).sum) ?_ ?_
    · have := hb (j + 1) hlt
      rw [List.range_succ, List.map_append, List.sum_append] at this ⊢
      simp only [List.map_cons, List.map_nil, List.sum_cons, List.sum_nil] at this ⊢
      rw [i64w (by omega) (by omega)]; omega
    · refine r_nil ?_
      refine r_fld ?_
      refine St.r_store0 s 0 rfl (by simp) rfl ?_
      intro h s
      try simp only [List.set_cons_zero, List.set_cons_succ] at s
      unfold mapNode_ii_updateCount.j3
      refine r_add (z := ((j + 1 : Nat) : Int)) (by rw [i64w (by omega) (by omega)]; omega) ?_
      exact ⟨⟨j + 1, rfl, hlt, s⟩, by simp; omega⟩
  · have hge : j = ids.length := by simp at hge; omega
    subst hge
    exact H h s
end Go.Proofs.Ytkkappjbcgnacaa.Ii
end
section
namespace Go.Proofs.Ytkkappjbcgnacaa.Ii
open Go.Hp Go.Proofs.Ytkkappjbcgnacaa
set_option linter.unusedVariables false
set_option linter.unusedSimpArgs false
variable {h0 h : Heap} {Z E : List Rg} {Q : Value → Heap → Prop}

/-- A tree whose nodes are all the map's own, as they should be. -/
structure Gd (iso : Int) {k : Nat} (t : GT It k) : Prop where
  wf : t.Wf enc 2 iso
  cn : t.Cn
  mine : t.Mine
theorem Gd.kid {iso : Int} {k : Nat} {t : GT It (k + 1)} (g : Gd iso t) {c : GT It k} (hc : c ∈ t.2) : Gd iso c := ⟨(g.wf.2.2.2 c hc).1, g.cn.2 c hc, g.mine.2 c hc⟩
abbrev fp (m : Nat) : List Value := [ptr m 0]
theorem fpl (m : Nat) : (fp m).length = 1 := rfl
theorem mfp (l : List Nat) : (l.map fun m => ptr m 0) = l.flatMap fp := List.map_eq_flatMap
theorem GT.topA : ∀ {k : Nat} {t : GT It k}, ∃ a1 a2 a3, (t.id, 0, [a1, .int .i64 t.nd.cnt, a2, a3]) ∈ t.all enc
  | 0, d => ⟨_, _, _, List.mem_cons_self ..⟩
  | _ + 1, t => ⟨_, _, _, List.mem_append.2 (.inl (List.mem_cons_self ..))⟩
theorem r_div {k : IntKind} {x y z : Int} {K : Value → Prop} (hy : y ≠ 0) (hz : k.wrap (x.tdiv y) = z) (H : K (.int k z)) : divi (.int k x) (.int k y) K := ⟨k, x, y, rfl, rfl, hy, by rw [hz]; exact H⟩
theorem half {m : Nat} (hm : m ≤ 1048576) : IntKind.wrap .i64 ((m : Int).tdiv 2) = ((m / 2 : Nat) : Int) := by
  have : (m : Int).tdiv 2 = ((m / 2 : Nat) : Int) := (Int.ofNat_tdiv m 2).symm
  rw [this, i64w (by omega) (by omega)]

theorem updateCount_kids {k : Nat} {ts : List (GT It k)} {n kb b o rb ro len : Nat} {c1 c2 iv kv : Value} {xs sp ksp : List Value}
    (s : St h0 Z ((n, 0, [c1, c2, iv, ptr kb 0]) :: (kb, 0, [kv]) :: (rb, ro, (ts.map GT.id).flatMap fp ++ ksp) :: E) h)
    (w : Own 2 iv len b o xs sp) (wK : Own 1 kv (ts.map GT.id).length rb ro ((ts.map GT.id).flatMap fp) ksp) (hm : ∀ t ∈ ts, t.Cn) (hE : ∀ t ∈ ts, ∀ r ∈ t.all enc, r ∈ E)
    (hl : ts.length ≤ 1048576) (hsz : len + (ts.map fun t => t.pt.items.length).sum ≤ 4611686018427387904)
    (H : ∀ h', St h0 Z ((n, 0, [c1, .int .i64 ((len + (ts.map fun t => t.pt.items.length).sum : Nat) : Int), iv, ptr kb 0]) :: (kb, 0, [kv]) :: (rb, ro, (ts.map GT.id).flatMap fp ++ ksp) :: E) h' → Q (.tuple #[]) h') : mapNode_ii_updateCount.call #[ptr n 0] h Q := by
  have hmm : (ts.map fun t => t.pt.items).map List.length = ts.map fun t => t.pt.items.length := by rw [List.map_map]; rfl
  have hsum : ∀ i, i ≤ ts.length → ((List.range i).map fun j => (ts.map fun t => t.nd.cnt)[j]?.getD 0).sum = (((ts.map fun t => t.pt.items.length).take i).sum : Nat) := fun i hi => by
    rw [sum_range _ i (by simpa using hi), ← List.map_take, GT.Cn.sum (fun t ht => hm t (List.mem_of_mem_take ht)), List.map_map, ← List.map_take]; rfl
  rw [← mfp] at s wK
  refine updateCount_inner (c := fun j => (ts.map fun t => t.nd.cnt)[j]?.getD 0) s w wK (by simp; omega) (fun i hi => ?_) (fun i hi => ?_) fun h s => ?_
  · have hi' : i < ts.length := by simpa using hi
    obtain ⟨a1, a2, a3, hmem⟩ := GT.topA (t := ts[i])
    refine ⟨a1, a2, a3, ?_⟩
    simp only [List.getElem_map, List.getElem?_map, List.getElem?_eq_getElem hi', Option.map_some, Option.getD_some]
    exact List.mem_append.2 (.inl (hE _ (List.getElem_mem hi') _ hmem))
  · rw [hsum i (by simpa using hi)]
    have := sum_take_le (ts.map fun t => t.pt.items.length) i
    omega
  · rw [show (ts.map GT.id).length = ts.length by simp, hsum _ (Nat.le_refl _), List.take_of_length_le (by simp)] at s
    rw [mfp] at s
    exact H h (by rw [Int.natCast_add]; exact s)

theorem nodeSplit_ok : ∀ {k : Nat} (t : GT It k) {h : Heap} {E : List Rg} {tb m lo : Nat} {iso mn : Int} {ctr : Option Addr}, (tb, 0, hd0 iso ctr) ∈ Z → (tb, 4, hd4 mn m) ∈ Z → 0 < m → m ≤ 1024 → t.pt.Fl m lo → t.pt.its.length = m → t.pt.items.length ≤ 4611686018427387904 → Gd iso t →
    St h0 Z (t.all enc ++ E) h → (∀ (l r : GT It k) md h', t.pt.its[m / 2]? = some md → l.pt = t.pt.lo (m / 2) → r.pt = t.pt.hi (m / 2) → l.id = t.id → Gd iso l → Gd iso r → St h0 Z (l.all enc ++ (r.all enc ++ E)) h' → Q (.tuple #[ptr r.id 0, .agg (enc md).toArray]) h') →
    Map_ii_nodeSplit.call #[ptr tb 0, ptr t.id 0] h Q
  | 0, (d : Nd It), h, E, tb, m, lo, iso, mn, ctr, hT0, hT4, hm0, hm1, fl, hlen, hsz, g, s, H => by
    obtain ⟨own, n, is', cnt, its, iv, ib, io, isp, kb, kv, krb, kro, ksp⟩ := d
    have hi : ∀ {E h}, St h0 Z E h → cl h tb 0 = some (.int .u64 iso) := fun s => by have := s.getZ hT0 (j := 0) (by simp); simpa using this
    have hlen : its.length = m := hlen
    have w : Own 2 iv its.length ib io (its.flatMap enc) isp := g.wf.1
    have s : St h0 Z ((n, 0, [.int .u64 is', .int .i64 cnt, iv, .pointer none]) :: (ib, io, its.flatMap enc ++ isp) :: E) h := s
    have hiso : is' = iso := g.wf.2.1 g.mine
    subst hiso
    obtain ⟨md, hmd⟩ : ∃ md, its[m / 2]? = some md := ⟨its[m / 2]'(by omega), List.getElem?_eq_getElem (by omega)⟩
    show Map_ii_nodeSplit.call #[ptr tb 0, ptr n 0] h Q
    refine Map_ii_nodeSplit.body _ _ _ _ ?_
    unfold Map_ii_nodeSplit.sh
    refine s.r_alloc fun t5 h s => ?_
    refine r_nil ?_
    refine r_fld ?_
    refine s.r_lz hT4 3 rfl rfl ?_
    refine r_div (by decide) (half (by omega)) ?_
    refine r_nil ?_
    refine r_fld ?_
    refine St.r_load0 s 1 rfl rfl ?_
    refine w.idx (n := m / 2) rfl (by omega) ?_
    refine s.r_loadF encl 2 rfl hmd ?_
    refine St.r_storeN0 s 0 rfl rfl (by simp) (enc1 _) ?_; intro h s
    refine leaf_ok (a := none) (s.get (k := 1) (j := 3) rfl (by simp)) ?_
    refine newNode_leaf (hi s) fun n' h s1 => ?_
    have s := s.join s1
    refine r_nil ?_
    refine r_fld ?_
    refine St.r_load0 s 2 rfl rfl ?_
    refine r_add (z := ((m / 2 + 1 : Nat) : Int)) (by rw [i64w (by omega) (by omega)]; omega) ?_
    refine w.slcLo encl (i := m / 2 + 1) rfl (by omega) fun vr wr => ?_
    refine r_nil ?_
    refine r_fld ?_
    refine St.r_store0 s 0 rfl (by simp) wr.one ?_; intro h s
    refine leaf_ok (a := none) (s.get (k := 2) (j := 3) rfl (by simp)) ?_
    refine r_not ?_
    refine r_if (fun e => absurd e (by decide)) (fun _ => ?_)
    unfold Map_ii_nodeSplit.j1
    refine updateCount_leaf s wr fun h s => ?_
    refine r_nil ?_
    refine r_fld ?_
    refine St.r_load0 s 2 rfl rfl ?_
    refine r_nil ?_
    refine r_fld ?_
    refine s.r_lzN hT4 0 rfl (by simp) ?_
    refine w.idx (n := m / 2) rfl (by omega) ?_
    refine s.r_storeF (x := emp) encl 3 rfl (by omega) (enc1 _) fun h s => ?_
    refine r_nil ?_
    refine r_fld ?_
    refine St.r_load0 s 2 rfl rfl ?_
    refine w.slc3 encl (i := m / 2) rfl rfl (by omega) fun vl wl => ?_
    refine r_nil ?_
    refine r_fld ?_
    refine St.r_store0 s 2 rfl (by simp) wl.one ?_; intro h s
    refine leaf_ok (a := none) (s.get (k := 2) (j := 3) rfl (by simp)) ?_
    refine r_not ?_
    refine r_if (fun e => absurd e (by decide)) (fun _ => ?_)
    unfold Map_ii_nodeSplit.j2
    refine updateCount_leaf (s.front 2 rfl) wl fun h s => ?_
    refine St.r_loadN0 s 2 rfl (by simp) ?_
    refine St.r_storeN0 s 2 rfl rfl (by simp) (enc1 _) ?_; intro h s
    refine St.r_loadN0 s 2 rfl (by simp) ?_
    have s : St h0 Z ((n, 0, [.int .u64 is', .int .i64 (its.take (m / 2)).length, vl, .pointer none]) :: (n', 0, [.int .u64 is', .int .i64 (its.drop (m / 2 + 1)).length, vr, .pointer none]) :: (t5, 0, enc md) :: (ib, io, (its.set (m / 2) emp).flatMap enc ++ isp) :: E) h := s
    have s := St.cut3 encl (x := emp) (i := m / 2) (s.front 3 rfl) (by rw [List.getElem?_set_self (by omega)])
    rw [List.take_set_of_le (Nat.le_refl _), List.drop_set_of_lt (by omega)] at s
    have hl1 : (its.take (m / 2)).length = m / 2 := by rw [List.length_take]; omega
    refine H (⟨true, n, is', (its.take (m / 2)).length, its.take (m / 2), vl, ib, io, [], 0, .pointer none, 0, 0, []⟩ : Nd It) (⟨true, n', is', (its.drop (m / 2 + 1)).length, its.drop (m / 2 + 1), vr, ib, io + (m / 2 + 1) * 2, isp, 0, .pointer none, 0, 0, []⟩ : Nd It) md h hmd rfl rfl rfl ⟨⟨wl, by simp⟩, rfl, rfl⟩ ⟨⟨wr, by simp⟩, rfl, rfl⟩ ?_
    exact (s.perm (E' := (ib, io + m / 2 * 2, enc emp) :: (t5, 0, enc md) :: (n, 0, [.int .u64 is', .int .i64 (its.take (m / 2)).length, vl, .pointer none]) :: (ib, io, (its.take (m / 2)).flatMap enc ++ []) :: (n', 0, [.int .u64 is', .int .i64 (its.drop (m / 2 + 1)).length, vr, .pointer none]) :: (ib, io + (m / 2 + 1) * 2, (its.drop (m / 2 + 1)).flatMap enc ++ isp) :: E) (by rw [List.append_nil]; ((apply perm_rg; intro f; simp only [List.set_cons_zero, List.set_cons_succ, List.eraseIdx_cons_zero, List.eraseIdx_cons_succ, List.cons_append, List.nil_append, List.map_append, List.map_cons, List.map_nil, List.sum_append, List.sum_cons, List.sum_nil, List.map_flatMap, Nat.add_zero, Nat.zero_add]; ac_rfl)))).drop 2
  | k + 1, t, h, E, tb, m, lo, iso, mn, ctr, hT0, hT4, hm0, hm1, fl, hlen, hsz, g, s, H => by
    obtain ⟨d, ts⟩ := t
    obtain ⟨own, n, is', cnt, its, iv, ib, io, isp, kb, kv, krb, kro, ksp⟩ := d
    have hi : ∀ {E h}, St h0 Z E h → cl h tb 0 = some (.int .u64 iso) := fun s => by have := s.getZ hT0 (j := 0) (by simp); simpa using this
    have hlen : its.length = m := hlen
    have w : Own 2 iv its.length ib io (its.flatMap enc) isp := g.wf.1.1
    have wK : Own 1 kv ts.length krb kro ((ts.map GT.id).map fun m => ptr m 0) ksp := g.wf.2.1
    have hkl : ts.length = its.length + 1 := g.wf.2.2.1
    have hidl : (ts.map GT.id).length = ts.length := List.length_map ..
    have hiso : is' = iso := g.wf.1.2.1 g.mine.1
    subst hiso
    rw [← hidl, mfp] at wK
    have s : St h0 Z ((n, 0, [.int .u64 is', .int .i64 cnt, iv, ptr kb 0]) :: (ib, io, its.flatMap enc ++ isp) :: (kb, 0, [kv]) :: (krb, kro, ((ts.map GT.id).map fun m => ptr m 0) ++ ksp) :: (ts.flatMap (GT.all enc) ++ E)) h := s
    rw [mfp] at s
    have hmem : ∀ t ∈ ts, ∀ r ∈ t.all enc, r ∈ ts.flatMap (GT.all enc) ++ E := fun t ht r hr => List.mem_append.2 (.inl (List.mem_flatMap.2 ⟨t, ht, hr⟩))
    have hsz' : its.length + (ts.map fun t => t.pt.items.length).sum ≤ 4611686018427387904 := by
      have h1 : (inter its ((ts.map GT.pt).map PT.items)).length = _ := inter_length _ _
      rw [List.map_map, List.map_map] at h1
      have h2 : (inter its ((ts.map GT.pt).map PT.items)).length ≤ 4611686018427387904 := hsz
      rw [List.map_map] at h2
      rw [h1] at h2; exact h2
    have hcn : ∀ t ∈ ts, t.Cn := fun t ht => g.cn.2 t ht
    have hsum : (ts.map fun t => t.pt.items.length).sum = ((ts.take (m / 2 + 1)).map fun t => t.pt.items.length).sum + ((ts.drop (m / 2 + 1)).map fun t => t.pt.items.length).sum := by
      rw [← List.sum_append, ← List.map_append, List.take_append_drop]
    obtain ⟨md, hmd⟩ : ∃ md, its[m / 2]? = some md := ⟨its[m / 2]'(by omega), List.getElem?_eq_getElem (by omega)⟩
    show Map_ii_nodeSplit.call #[ptr tb 0, ptr n 0] h Q
    refine Map_ii_nodeSplit.body _ _ _ _ ?_
    unfold Map_ii_nodeSplit.sh
    refine s.r_alloc fun t5 h s => ?_
    refine r_nil ?_
    refine r_fld ?_
    refine s.r_lz hT4 3 rfl rfl ?_
    refine r_div (by decide) (half (by omega)) ?_
    refine r_nil ?_
    refine r_fld ?_
    refine St.r_load0 s 1 rfl rfl ?_
    refine w.idx (n := m / 2) rfl (by omega) ?_
    refine s.r_loadF encl 2 rfl hmd ?_
    refine St.r_storeN0 s 0 rfl rfl (by simp) (enc1 _) ?_; intro h s
    refine leaf_ok (a := some ⟨kb, 0, none⟩) (s.get (k := 1) (j := 3) rfl (by simp)) ?_
    refine newNode_inner (hi s) fun n' kb' h s1 => ?_
    have s := s.join s1
    refine r_nil ?_
    refine r_fld ?_
    refine St.r_load0 s 3 rfl rfl ?_
    refine r_add (z := ((m / 2 + 1 : Nat) : Int)) (by rw [i64w (by omega) (by omega)]; omega) ?_
    refine w.slcLo encl (i := m / 2 + 1) rfl (by omega) fun vr wr => ?_
    refine r_nil ?_
    refine r_fld ?_
    refine St.r_store0 s 0 rfl (by simp) wr.one ?_; intro h s
    refine leaf_ok (a := some ⟨kb, 0, none⟩) (s.get (k := 3) (j := 3) rfl (by simp)) ?_
    refine r_not ?_
    refine r_if (fun _ => ?_) (fun e => absurd e (by simp))
    refine r_nil ?_
    refine r_fld ?_
    refine St.r_load0 s 0 rfl rfl ?_
    refine r_nil ?_
    refine r_fld ?_
    refine St.r_load0 s 3 rfl rfl ?_
    refine r_nil ?_
    refine St.r_load0 s 5 rfl rfl ?_
    refine r_add (z := ((m / 2 + 1 : Nat) : Int)) (by rw [i64w (by omega) (by omega)]; omega) ?_
    refine wK.slcLo fpl (i := m / 2 + 1) rfl (by omega) fun vkr wkr => ?_
    refine r_nil ?_
    refine St.r_store0 s 1 rfl (by simp) wkr.one ?_; intro h s
    unfold Map_ii_nodeSplit.j1
    have ecut : (ts.map GT.id).flatMap fp ++ ksp = ((ts.take (m / 2 + 1)).map GT.id).flatMap fp ++ (((ts.drop (m / 2 + 1)).map GT.id).flatMap fp ++ ksp) := by
      rw [← List.append_assoc, ← List.flatMap_append, ← List.map_append, List.take_append_drop]
    have s := s.front 6 rfl
    rw [ecut] at s
    have s := s.cut
    rw [flat_len fpl, List.length_map, List.length_take, Nat.min_eq_left (show m / 2 + 1 ≤ ts.length by omega)] at s
    rw [← List.map_drop] at wkr
    refine updateCount_kids (ts := ts.drop (m / 2 + 1)) (s.perm (E' := (n', 0, _) :: (kb', 0, _) :: (krb, kro + (m / 2 + 1) * 1, ((ts.drop (m / 2 + 1)).map GT.id).flatMap fp ++ ksp) :: (krb, kro, ((ts.take (m / 2 + 1)).map GT.id).flatMap fp) :: (t5, 0, enc md) :: (n, 0, [.int .u64 is', .int .i64 cnt, iv, ptr kb 0]) :: (ib, io, its.flatMap enc ++ isp) :: (kb, 0, [kv]) :: (ts.flatMap (GT.all enc) ++ E)) (by ((apply perm_rg; intro f; simp only [List.set_cons_zero, List.set_cons_succ, List.eraseIdx_cons_zero, List.eraseIdx_cons_succ, List.cons_append, List.nil_append, List.map_append, List.map_cons, List.map_nil, List.sum_append, List.sum_cons, List.sum_nil, List.map_flatMap, Nat.add_zero, Nat.zero_add]; ac_rfl)))) wr wkr (fun t ht => hcn t (List.mem_of_mem_drop ht))
      (fun t ht r hr => by have := hmem t (List.mem_of_mem_drop ht) r hr; simp only [List.mem_cons]; exact .inr (.inr (.inr (.inr (.inr this))))) (by rw [List.length_drop]; omega) (by rw [List.length_drop]; omega) fun h s => ?_
    refine r_nil ?_
    refine r_fld ?_
    refine St.r_load0 s 5 rfl rfl ?_
    refine r_nil ?_
    refine r_fld ?_
    refine s.r_lzN hT4 0 rfl (by simp) ?_
    refine w.idx (n := m / 2) rfl (by omega) ?_
    refine s.r_storeF (x := emp) encl 6 rfl (by omega) (enc1 _) fun h s => ?_
    refine r_nil ?_
    refine r_fld ?_
    refine St.r_load0 s 5 rfl rfl ?_
    refine w.slc3 encl (i := m / 2) rfl rfl (by omega) fun vl wl => ?_
    refine r_nil ?_
    refine r_fld ?_
    refine St.r_store0 s 5 rfl (by simp) wl.one ?_; intro h s
    refine leaf_ok (a := some ⟨kb, 0, none⟩) (s.get (k := 5) (j := 3) rfl (by simp)) ?_
    refine r_not ?_
    refine r_if (fun _ => ?_) (fun e => absurd e (by simp))
    refine r_nil ?_
    refine r_fld ?_
    refine St.r_load0 s 5 rfl rfl ?_
    refine r_nil ?_
    refine r_fld ?_
    refine St.r_load0 s 5 rfl rfl ?_
    refine r_nil ?_
    refine St.r_load0 s 7 rfl rfl ?_
    refine r_add (z := ((m / 2 + 1 : Nat) : Int)) (by rw [i64w (by omega) (by omega)]; omega) ?_
    refine r_add (z := ((m / 2 + 1 : Nat) : Int)) (by rw [i64w (by omega) (by omega)]; omega) ?_
    refine wK.slc3 fpl (i := m / 2 + 1) rfl rfl (by omega) fun vkl wkl => ?_
    refine r_nil ?_
    refine St.r_store0 s 7 rfl (by simp) wkl.one ?_; intro h s
    unfold Map_ii_nodeSplit.j2
    rw [← List.map_take] at wkl
    have s : St h0 Z ((n, 0, [.int .u64 is', .int .i64 cnt, vl, ptr kb 0]) :: (kb, 0, [vkl]) :: (krb, kro, ((ts.take (m / 2 + 1)).map GT.id).flatMap fp ++ []) :: (n', 0, [.int .u64 is', .int .i64 (((its.drop (m / 2 + 1)).length + ((ts.drop (m / 2 + 1)).map fun t => t.pt.items.length).sum : Nat) : Int), vr, ptr kb' 0]) :: (kb', 0, [vkr]) :: (krb, kro + (m / 2 + 1) * 1, ((ts.drop (m / 2 + 1)).map GT.id).flatMap fp ++ ksp) :: (t5, 0, enc md) :: (ib, io, (its.set (m / 2) emp).flatMap enc ++ isp) :: (ts.flatMap (GT.all enc) ++ E)) h := s.perm (by rw [List.append_nil]; ((apply perm_rg; intro f; simp only [List.set_cons_zero, List.set_cons_succ, List.eraseIdx_cons_zero, List.eraseIdx_cons_succ, List.cons_append, List.nil_append, List.map_append, List.map_cons, List.map_nil, List.sum_append, List.sum_cons, List.sum_nil, List.map_flatMap, Nat.add_zero, Nat.zero_add]; ac_rfl)))
    refine updateCount_kids (ts := ts.take (m / 2 + 1)) s wl wkl (fun t ht => hcn t (List.mem_of_mem_take ht))
      (fun t ht r hr => by have := hmem t (List.mem_of_mem_take ht) r hr; simp only [List.mem_cons]; exact .inr (.inr (.inr (.inr (.inr this))))) (by rw [List.length_take]; omega) (by rw [List.length_take]; omega) fun h s => ?_
    refine St.r_loadN0 s 6 rfl (by simp) ?_
    refine St.r_storeN0 s 6 rfl rfl (by simp) (enc1 _) ?_; intro h s
    refine St.r_loadN0 s 6 rfl (by simp) ?_
    have s := St.cut3 encl (x := emp) (i := m / 2) (s.front 7 rfl) (by rw [List.getElem?_set_self (by omega)])
    rw [List.take_set_of_le (Nat.le_refl _), List.drop_set_of_lt (by omega)] at s
    have cnt' : ∀ (a : List It) (b : List (GT It k)), (inter a ((b.map GT.pt).map PT.items)).length = a.length + (b.map fun t => t.pt.items.length).sum := fun a b => by
      rw [inter_length, List.map_map, List.map_map]; rfl
    refine H ((⟨true, n, is', (((its.take (m / 2)).length + ((ts.take (m / 2 + 1)).map fun t => t.pt.items.length).sum : Nat) : Int), its.take (m / 2), vl, ib, io, [], kb, vkl, krb, kro, []⟩ : Nd It), ts.take (m / 2 + 1)) ((⟨true, n', is', (((its.drop (m / 2 + 1)).length + ((ts.drop (m / 2 + 1)).map fun t => t.pt.items.length).sum : Nat) : Int), its.drop (m / 2 + 1), vr, ib, io + (m / 2 + 1) * 2, isp, kb', vkr, krb, kro + (m / 2 + 1) * 1, ksp⟩ : Nd It), ts.drop (m / 2 + 1)) md h hmd ?_ ?_ rfl ?_ ?_ ?_
    · show (its.take (m / 2), (ts.take (m / 2 + 1)).map GT.pt) = (its.take (m / 2), (ts.map GT.pt).take (m / 2 + 1)); rw [List.map_take]
    · show (its.drop (m / 2 + 1), (ts.drop (m / 2 + 1)).map GT.pt) = (its.drop (m / 2 + 1), (ts.map GT.pt).drop (m / 2 + 1)); rw [List.map_drop]
    · refine ⟨⟨⟨wl, by simp⟩, ?_, ?_, fun c hc => ⟨(g.wf.2.2.2 c (List.mem_of_mem_take hc)).1, fun e => by simp at e⟩⟩, ⟨?_, fun c hc => g.cn.2 c (List.mem_of_mem_take hc)⟩, ⟨rfl, fun c hc => g.mine.2 c (List.mem_of_mem_take hc)⟩⟩
      · rw [mfp]; rw [List.length_map] at wkl; exact wkl
      · show (ts.take (m / 2 + 1)).length = (its.take (m / 2)).length + 1; rw [List.length_take, List.length_take]; omega
      · exact congrArg Int.ofNat (cnt' _ _).symm
    · refine ⟨⟨⟨wr, by simp⟩, ?_, ?_, fun c hc => ⟨(g.wf.2.2.2 c (List.mem_of_mem_drop hc)).1, fun e => by simp at e⟩⟩, ⟨?_, fun c hc => g.cn.2 c (List.mem_of_mem_drop hc)⟩, ⟨rfl, fun c hc => g.mine.2 c (List.mem_of_mem_drop hc)⟩⟩
      · rw [mfp]; rw [List.length_map] at wkr; exact wkr
      · show (ts.drop (m / 2 + 1)).length = (its.drop (m / 2 + 1)).length + 1; rw [List.length_drop, List.length_drop]; omega
      · exact congrArg Int.ofNat (cnt' _ _).symm
    · have ef : ts.flatMap (GT.all enc) = (ts.take (m / 2 + 1)).flatMap (GT.all enc) ++ (ts.drop (m / 2 + 1)).flatMap (GT.all enc) := by rw [← List.flatMap_append, List.take_append_drop]
      have s := (s.perm (E' := (ib, io + m / 2 * 2, enc emp) :: (t5, 0, enc md) :: (((n, 0, [.int .u64 is', .int .i64 (((its.take (m / 2)).length + ((ts.take (m / 2 + 1)).map fun t => t.pt.items.length).sum : Nat) : Int), vl, ptr kb 0]) :: (ib, io, (its.take (m / 2)).flatMap enc ++ []) :: (kb, 0, [vkl]) :: (krb, kro, ((ts.take (m / 2 + 1)).map GT.id).flatMap fp ++ []) :: (ts.take (m / 2 + 1)).flatMap (GT.all enc)) ++
        (((n', 0, [.int .u64 is', .int .i64 (((its.drop (m / 2 + 1)).length + ((ts.drop (m / 2 + 1)).map fun t => t.pt.items.length).sum : Nat) : Int), vr, ptr kb' 0]) :: (ib, io + (m / 2 + 1) * 2, (its.drop (m / 2 + 1)).flatMap enc ++ isp) :: (kb', 0, [vkr]) :: (krb, kro + (m / 2 + 1) * 1, ((ts.drop (m / 2 + 1)).map GT.id).flatMap fp ++ ksp) :: (ts.drop (m / 2 + 1)).flatMap (GT.all enc)) ++ E))) (by rw [List.append_nil, List.append_nil, ef]; ((apply perm_rg; intro f; simp only [List.set_cons_zero, List.set_cons_succ, List.eraseIdx_cons_zero, List.eraseIdx_cons_succ, List.cons_append, List.nil_append, List.map_append, List.map_cons, List.map_nil, List.sum_append, List.sum_cons, List.sum_nil, List.map_flatMap, Nat.add_zero, Nat.zero_add]; ac_rfl)))).drop 2
      rw [← mfp, ← mfp] at s
      exact s
end Go.Proofs.Ytkkappjbcgnacaa.Ii
end
section
namespace Go.Proofs.Ytkkappjbcgnacaa.Ii
open Go.Hp Go.Proofs.Ytkkappjbcgnacaa
set_option linter.unusedVariables false
set_option linter.unusedSimpArgs false
variable {h0 h : Heap} {Z E : List Rg} {Q : Value → Heap → Prop}

/-- The value that was there. -/
abbrev old (r : Option It) : Value := vv (r.getD emp).2
theorem snoc_enc (l : List It) (e : It) : l.flatMap enc ++ enc e = (l ++ [e]).flatMap enc := by rw [List.flatMap_append, List.flatMap_singleton]
theorem Gd.leaf {iso : Int} {d : Nd It} (w : Own 2 d.iv d.its.length d.ib d.io (d.its.flatMap enc) d.isp) (ho : d.own = true) (hi : d.iso = iso) (hc : d.cnt = d.its.length) : Gd iso (k := 0) d := ⟨⟨w, by simp [ho, hi]⟩, hc, ho⟩
theorem Gd.inner {iso : Int} {k : Nat} {d : Nd It} {ts : List (GT It k)} (w : Own 2 d.iv d.its.length d.ib d.io (d.its.flatMap enc) d.isp) (ho : d.own = true) (hi : d.iso = iso) (wK : Own 1 d.kv ts.length d.krb d.kro ((ts.map GT.id).flatMap fp) d.ksp)
    (hl : ts.length = d.its.length + 1) (hk : ∀ c ∈ ts, Gd iso c) (hc : d.cnt = (GT.pt (h := k + 1) (d, ts)).items.length) : Gd iso (k := k + 1) (d, ts) :=
  ⟨⟨⟨w, by simp [ho, hi]⟩, by rw [mfp]; exact wK, hl, fun c hc => ⟨(hk c hc).wf, fun e => by rw [ho] at e; cases e⟩⟩, ⟨hc, fun c hc => (hk c hc).cn⟩, ⟨ho, fun c hc => (hk c hc).mine⟩⟩

theorem set_head {n ib io pb po tb : Nat} {iso cnt : Int} {ctr : Option Addr} {iv kp : Value} {its : List It} {isp : List Value} {x : It} (hT0 : (tb, 0, hd0 iso ctr) ∈ Z) (ha : Asc lt its) (hb : its.length ≤ 1024)
    (w : Own 2 iv its.length ib io (its.flatMap enc) isp) (s : St h0 Z ((pb, po, [ptr n 0]) :: (n, 0, [.int .u64 iso, .int .i64 cnt, iv, kp]) :: (ib, io, its.flatMap enc ++ isp) :: E) h)
    (H1 : ∀ y h', lget lt its x = some y → St h0 Z ((pb, po, [ptr n 0]) :: (n, 0, [.int .u64 iso, .int .i64 cnt, iv, kp]) :: (ib, io, (lput lt its x).flatMap enc ++ isp) :: E) h' → Q (.tuple #[vv y.2, .bool true, .bool false]) h')
    (H2 : ∀ t5 t9 h', lget lt its x = none → St h0 Z ((t9, 0, [ptr n 0]) :: (t5, 0, enc x) :: (pb, po, [ptr n 0]) :: (n, 0, [.int .u64 iso, .int .i64 cnt, iv, kp]) :: (ib, io, its.flatMap enc ++ isp) :: E) h' → Map_ii_nodeSet.j1 (ptr tb 0) (ptr t5 0) (ptr t9 0) (.int .i64 (pos lt its x)) h' Q) :
    Map_ii_nodeSet.call #[ptr tb 0, ptr pb po, .agg (enc x).toArray] h Q := by
  refine Map_ii_nodeSet.body _ _ _ _ _ ?_
  unfold Map_ii_nodeSet.sh
  refine St.r_box (cs := enc x) s fun t5 h s => ?_
  refine isoLoad_ok (n := n) (iso := iso) (by have := s.getZ hT0 (j := 0) (by simp); simpa using this) (by have := s.get (k := 1) (j := 0) rfl (by simp); simpa using this) (fun _ => by have := s.get (k := 2) (j := 0) rfl (by simp); simpa using this) ?_
  refine s.r_alloc fun t9 h s => ?_
  refine St.r_store0 s 0 rfl (by simp) rfl ?_
  intro h s
  try simp only [List.set_cons_zero, List.set_cons_succ] at s
  refine St.r_load0 s 0 rfl rfl ?_
  refine r_fld ?_
  refine St.r_load0 s 1 rfl rfl ?_
  refine search_ok (x := x) ha (by omega) (by have := s.get (k := 3) (j := 2) rfl (by simp); simpa using this) (w.rdl s 4 rfl) ?_
  refine r_ext rfl ?_
  refine r_ext rfl ?_
  refine r_if (fun hf => ?_) (fun hn => ?_)
  · obtain ⟨y, hy⟩ := Option.isSome_iff_exists.1 hf
    obtain ⟨hp, hyy, _⟩ := lget_some hy
    have hy2 : its[pos lt its x]? = some y := by rw [List.getElem?_eq_getElem hp, hyy]
    refine St.r_load0 s 0 rfl rfl ?_
    refine r_nil ?_
    refine r_fld ?_
    refine St.r_load0 s 3 rfl rfl ?_
    refine w.idx (n := pos lt its x) rfl hp ?_
    refine r_fld ?_
    refine s.r_load1F encl (r := 0) 4 rfl hy2 rfl ?_
    refine St.r_load0 s 0 rfl rfl ?_
    refine r_nil ?_
    refine r_fld ?_
    refine St.r_load0 s 3 rfl rfl ?_
    refine St.r_loadN0 s 1 rfl (by simp) ?_
    refine w.idx (n := pos lt its x) rfl hp ?_
    refine s.r_storeF (x := x) encl 4 rfl hp (enc1 _) fun h s => ?_
    rw [← lput_found hy] at s
    exact H1 y h hy (s.drop 2)
  · have hn : lget lt its x = none := by cases e : lget lt its x with
      | none => rfl
      | some y => rw [e] at hn; cases hn
    exact H2 t5 t9 h hn s

/-- An item between the items of a node. -/
theorem set_leaf {n ib io i t5 t9 tb : Nat} {cnt mn mx : Int} {c1 iv kp : Value} {its : List It} {isp : List Value} {x : It} (htb : h0.size ≤ tb) (hT4 : (tb, 4, hd4 mn mx) ∈ Z) (hl : its.length ≤ 1024) (hi : i ≤ its.length) (hc0 : 0 ≤ cnt) (hc : cnt ≤ 4611686018427387904)
    (w : Own 2 iv its.length ib io (its.flatMap enc) isp) (s : St h0 Z ((t9, 0, [ptr n 0]) :: (t5, 0, enc x) :: (n, 0, [c1, .int .i64 cnt, iv, kp]) :: (ib, io, its.flatMap enc ++ isp) :: E) h)
    (H : ∀ iv' ib' io' isp' h', Own 2 iv' (ins its i x).length ib' io' ((ins its i x).flatMap enc) isp' → St h0 Z ((n, 0, [c1, .int .i64 (cnt + 1), iv', kp]) :: (ib', io', (ins its i x).flatMap enc ++ isp') :: E) h' → Q (.tuple #[vv emp.2, .bool false, .bool false]) h') :
    Map_ii_nodeSet.j6 (ptr tb 0) (ptr t5 0) (ptr t9 0) (.int .i64 i) h Q := by
  unfold Map_ii_nodeSet.j6
  refine St.r_load0 s 0 rfl rfl ?_
  refine St.r_load0 s 0 rfl rfl ?_
  refine r_nil ?_
  refine r_fld ?_
  refine St.r_load0 s 2 rfl rfl ?_
  refine r_nil ?_
  refine r_fld ?_
  refine s.r_lzE hT4 0 (enc emp) rfl (by simp) rfl ?_
  refine St.r_mkSl (sz := 2) (cs := enc emp) s (by ((simp only [fillV, fill1, Value.cells, zeros_succ, zeros_zero, List.size_toArray, List.length_cons, List.length_nil, List.length_append, List.take_succ_cons, List.take_zero, List.take_nil, List.drop_succ_cons, List.drop_zero, List.drop_nil, List.cons_append, List.nil_append, List.append_nil, Nat.reduceAdd, Nat.reduceMul, Nat.reduceLeDiff, Nat.reduceEqDiff, and_self, and_true, true_and, if_true, Nat.le_refl, Nat.zero_add, Nat.add_zero, Nat.zero_mul, reduceIte, if_false] <;> rfl))) rfl fun q h s w1 => ?_
  refine And.intro (by exact St.r_still0 s 1 rfl rfl) ?_
  refine And.intro (by exact St.r_still0 s 1 rfl rfl) ?_
  refine And.intro (by exact St.r_still0 s 3 rfl rfl) ?_
  refine St.r_app s 4 (sz := 2) (n := 1) (new := enc emp) rfl w rfl (w1.rdl s 0 rfl) (enc1 _) (by omega) (by omega) fun v' b' o' sp' h s w' => ?_
  rw [snoc_enc] at s w'
  have w' : Own 2 v' (its ++ [emp]).length b' o' ((its ++ [emp]).flatMap enc) sp' := by rw [List.length_append]; exact w'
  refine And.intro (by exact St.r_still0 s 1 rfl rfl) ?_
  refine r_nil ?_
  refine r_fld ?_
  refine St.r_store0 s 3 rfl (by simp) w'.one ?_; intro h s
  refine St.r_load0 s 1 rfl rfl ?_
  refine r_nil ?_
  refine r_fld ?_
  refine St.r_load0 s 3 rfl rfl ?_
  refine r_add (z := ((i + 1 : Nat) : Int)) (by rw [i64w (by omega) (by omega)]; omega) ?_
  refine w'.slcLo encl (i := i + 1) rfl (by simp; omega) fun d wd => ?_
  refine St.r_load0 s 1 rfl rfl ?_
  refine r_nil ?_
  refine r_fld ?_
  refine St.r_load0 s 3 rfl rfl ?_
  refine (w'.rdl s 4 rfl).slcLo encl (i := i) rfl (by simp; omega) fun src rs => ?_
  refine s.r_cpyF encl 4 (L := its ++ [emp]) (M := (its ++ [emp]).drop i) rfl wd (by simp; omega) rs rfl (fun y _ => enc1 y) fun h s => ?_
  refine St.r_load0 s 1 rfl rfl ?_
  refine r_nil ?_
  refine r_fld ?_
  refine St.r_load0 s 3 rfl rfl ?_
  refine St.r_loadN0 s 2 rfl (by simp) ?_
  refine w'.idx (n := i) rfl (by simp; omega) ?_
  refine s.r_storeF (x := x) encl 4 rfl (by simp; omega) (enc1 _) fun h s => ?_
  rw [List.set_set, ins_steps its emp x hi] at s
  refine St.r_load0 s 1 rfl rfl ?_
  refine r_nil ?_
  refine r_fld ?_
  refine St.r_load0 s 3 rfl rfl ?_
  refine r_add (z := cnt + 1) (by rw [i64w (by omega) (by omega)]) ?_
  refine r_nil ?_
  refine r_fld ?_
  refine St.r_store0 s 3 rfl (by simp) rfl ?_; intro h s
  refine r_nil ?_
  refine r_fld ?_
  refine r_fld ?_
  refine s.r_lz hT4 0 rfl rfl ?_
  refine H v' b' o' sp' h ?_ (s.drop 3)
  have e := ins_length (x := x) hi
  rw [show (ins its i x).length = (its ++ [emp]).length by rw [e]; simp]
  exact w'.cong (by rw [flat_len encl, flat_len encl, e]; simp)

/-- Setting below a node of height k, as told by the plain tree. -/
def SetOk (h0 : Heap) (Z : List Rg) (tb m : Nat) (iso : Int) (x : It) (k : Nat) : Prop :=
  ∀ (t : GT It k) {h : Heap} {E : List Rg} {Q : Value → Heap → Prop} {pb po lo : Nat}, t.pt.Fl m lo → Asc lt t.pt.items → t.pt.items.length ≤ 4611686018427387903 → Gd iso t → St h0 Z ((pb, po, [ptr t.id 0]) :: (t.all enc ++ E)) h →
    (∀ (t' : GT It k) h', t'.pt = (if t.pt.splits lt m x then t.pt else t.pt.set lt m x) → t'.id = t.id → Gd iso t' → St h0 Z ((pb, po, [ptr t.id 0]) :: (t'.all enc ++ E)) h' →
      Q (.tuple #[old (t.pt.get lt x), .bool (t.pt.get lt x).isSome, .bool (t.pt.splits lt m x)]) h') → Map_ii_nodeSet.call #[ptr tb 0, ptr pb po, .agg (enc x).toArray] h Q

theorem SetOk.zero {tb m : Nat} {iso mn : Int} {ctr : Option Addr} {x : It} (htb : h0.size ≤ tb) (hT0 : (tb, 0, hd0 iso ctr) ∈ Z) (hT4 : (tb, 4, hd4 mn m) ∈ Z) (hm1 : m ≤ 1024) : SetOk h0 Z tb m iso x 0 := by
  intro d h E Q pb po lo fl ha hsz g s H
  obtain ⟨own, n, is', cnt, its, iv, ib, io, isp, kb, kv, krb, kro, ksp⟩ := d
  have w : Own 2 iv its.length ib io (its.flatMap enc) isp := g.wf.1
  have hlen : its.length ≤ m := fl.2
  have hcn : cnt = its.length := g.cn
  have ho : own = true := g.mine
  have hiso : is' = iso := g.wf.2.1 ho
  subst hiso; subst ho
  have s : St h0 Z ((pb, po, [ptr n 0]) :: (n, 0, [.int .u64 is', .int .i64 cnt, iv, .pointer none]) :: (ib, io, its.flatMap enc ++ isp) :: E) h := s
  have ha : Asc lt its := ha
  refine set_head hT0 ha (by omega) w s (fun y h' hy s => ?_) fun t5 t9 h' hn s => ?_
  · have hns : PT.splits lt m (h := 0) its x = false := by rw [PT.splits_leaf, hy]; rfl
    have hg : PT.get lt (h := 0) its x = some y := hy
    have hln : (lput lt its x).length = its.length := by rw [lput_length, hy]; rfl
    have := H (⟨true, n, is', cnt, lput lt its x, iv, ib, io, isp, kb, kv, krb, kro, ksp⟩ : Nd It) h' (by show _ = if PT.splits lt m (h := 0) its x = true then _ else _; rw [hns]; rfl) rfl
      (Gd.leaf (by show Own 2 iv (lput lt its x).length ib io ((lput lt its x).flatMap enc) isp; rw [hln]; exact w.cong (by rw [flat_len encl, flat_len encl, hln])) rfl rfl (by show cnt = (lput lt its x).length; rw [hln]; exact hcn)) s
    change Q (.tuple #[old (PT.get lt (h := 0) its x), .bool (PT.get lt (h := 0) its x).isSome, .bool (PT.splits lt m (h := 0) its x)]) h' at this
    rw [hns, hg] at this
    exact this
  · unfold Map_ii_nodeSet.j1
    have hg : PT.get lt (h := 0) its x = none := hn
    refine St.r_load0 s 0 rfl rfl ?_
    refine leaf_ok (a := none) (s.get (k := 3) (j := 3) rfl (by simp)) ?_
    refine r_if (fun _ => ?_) (fun e => absurd e (by simp))
    refine St.r_load0 s 0 rfl rfl ?_
    refine r_nil ?_
    refine r_fld ?_
    refine St.r_load0 s 3 rfl rfl ?_
    refine w.lenV ?_
    refine r_nil ?_
    refine r_fld ?_
    refine s.r_lz hT4 3 rfl rfl ?_
    refine r_cmpI ?_
    refine r_if (fun hfull => ?_) (fun hroom => ?_)
    · have hfull : its.length = m := Int.ofNat_inj.1 (by simpa using hfull)
      have hsp : PT.splits lt m (h := 0) its x = true := by rw [PT.splits_leaf, hn]; simpa using hfull
      refine r_nil ?_
      refine r_fld ?_
      refine r_fld ?_
      refine s.r_lz hT4 0 rfl rfl ?_
      have := H (⟨true, n, is', cnt, its, iv, ib, io, isp, kb, kv, krb, kro, ksp⟩ : Nd It) h' (by show _ = if PT.splits lt m (h := 0) its x = true then _ else _; rw [hsp]; rfl) rfl g (s.drop 2)
      change Q (.tuple #[old (PT.get lt (h := 0) its x), .bool (PT.get lt (h := 0) its x).isSome, .bool (PT.splits lt m (h := 0) its x)]) h' at this
      rw [hsp, hg] at this
      exact this
    · have hroom : its.length ≠ m := fun e => by rw [e] at hroom; simp at hroom
      have hsp : PT.splits lt m (h := 0) its x = false := by rw [PT.splits_leaf, hn]; simpa using hroom
      have hp := pos_le (lt := lt) its x
      refine set_leaf (n := n)  (t5 := t5) (t9 := t9) (x := x) (c1 := .int .u64 is') (kp := .pointer none) (cnt := cnt) (its := its) (E := (pb, po, [ptr n 0]) :: E) htb hT4 (by omega) hp (by omega) (by omega) w (s.perm (by ((apply perm_rg; intro f; simp only [List.set_cons_zero, List.set_cons_succ, List.eraseIdx_cons_zero, List.eraseIdx_cons_succ, List.cons_append, List.nil_append, List.map_append, List.map_cons, List.map_nil, List.sum_append, List.sum_cons, List.sum_nil, List.map_flatMap, Nat.add_zero, Nat.zero_add]; ac_rfl)))) fun iv' ib' io' isp' h' w' s => ?_
      rw [← lput_ins hn] at w' s
      have hln : (lput lt its x).length = its.length + 1 := by rw [lput_length, hn]; rfl
      have := H (⟨true, n, is', cnt + 1, lput lt its x, iv', ib', io', isp', kb, kv, krb, kro, ksp⟩ : Nd It) h' (by show _ = if PT.splits lt m (h := 0) its x = true then _ else _; rw [hsp]; rfl) rfl
        (Gd.leaf w' rfl rfl (by show cnt + 1 = (lput lt its x).length; omega)) (s.front 2 rfl)
      change Q (.tuple #[old (PT.get lt (h := 0) its x), .bool (PT.get lt (h := 0) its x).isSome, .bool (PT.splits lt m (h := 0) its x)]) h' at this
      rw [hsp, hg] at this
      exact this
end Go.Proofs.Ytkkappjbcgnacaa.Ii
end
section
namespace Go.Proofs.Ytkkappjbcgnacaa.Ii
open Go.Hp Go.Proofs.Ytkkappjbcgnacaa
set_option linter.unusedVariables false
set_option linter.unusedSimpArgs false
variable {h0 h : Heap} {Z E : List Rg} {Q : Value → Heap → Prop}

theorem flat_at3 {β : Type} (f : β → List Rg) {ts : List β} {i : Nat} {c : β} (hc : ts[i]? = some c) : ts.flatMap f = (ts.take i).flatMap f ++ (f c ++ (ts.drop (i + 1)).flatMap f) := by
  conv => lhs; rw [take_at hc, List.flatMap_append, List.flatMap_cons]
theorem set_ids {k : Nat} {ts : List (GT It k)} {i : Nat} {c c' : GT It k} (hc : ts[i]? = some c) (he : c'.id = c.id) : (ts.set i c').map GT.id = ts.map GT.id := by
  obtain ⟨hi, rfl⟩ := List.getElem?_eq_some_iff.1 hc
  rw [List.map_set, he]
  apply List.ext_getElem?
  intro j
  rw [List.getElem?_set]
  split
  · rename_i e; subst e
    simp [hi]
  · rfl
/-- A call below a kid: the kid's cell and the kid's ranges are lent. -/
theorem lend_kid {k : Nat} {ts : List (GT It k)} {i kb krb kro : Nat} {kv : Value} {ksp : List Value} {A : List Rg} {c : GT It k} (hc : ts[i]? = some c)
    (s : St h0 Z (A ++ ((krb, kro, (ts.map GT.id).flatMap fp ++ ksp) :: (ts.flatMap (GT.all enc) ++ E))) h) :
    ∃ E', St h0 Z ((krb, kro + i * 1, [ptr c.id 0]) :: (c.all enc ++ E')) h ∧ ∀ (c' : GT It k) h', c'.id = c.id → St h0 Z ((krb, kro + i * 1, [ptr c.id 0]) :: (c'.all enc ++ E')) h' →
      St h0 Z (A ++ ((krb, kro, ((ts.set i c').map GT.id).flatMap fp ++ ksp) :: ((ts.set i c').flatMap (GT.all enc) ++ E))) h' := by
  have hid : (ts.map GT.id)[i]? = some c.id := by rw [List.getElem?_map, hc]; rfl
  have s1 : St h0 Z ((krb, kro, (ts.map GT.id).flatMap fp ++ ksp) :: (A ++ (ts.flatMap (GT.all enc) ++ E))) h := s.perm (by ((apply perm_rg; intro f; simp only [List.set_cons_zero, List.set_cons_succ, List.eraseIdx_cons_zero, List.eraseIdx_cons_succ, List.cons_append, List.nil_append, List.map_append, List.map_cons, List.map_nil, List.sum_append, List.sum_cons, List.sum_nil, List.map_flatMap, Nat.add_zero, Nat.zero_add]; ac_rfl)))
  have s2 := St.cut3 fpl s1 hid
  refine ⟨(krb, kro, ((ts.map GT.id).take i).flatMap fp) :: (krb, kro + (i + 1) * 1, ((ts.map GT.id).drop (i + 1)).flatMap fp ++ ksp) :: (A ++ ((ts.take i).flatMap (GT.all enc) ++ ((ts.drop (i + 1)).flatMap (GT.all enc) ++ E))), s2.perm ?_, fun c' h' he s' => ?_⟩
  · rw [flat_at3 (GT.all enc) hc]; ((apply perm_rg; intro f; simp only [List.set_cons_zero, List.set_cons_succ, List.eraseIdx_cons_zero, List.eraseIdx_cons_succ, List.cons_append, List.nil_append, List.map_append, List.map_cons, List.map_nil, List.sum_append, List.sum_cons, List.sum_nil, List.map_flatMap, Nat.add_zero, Nat.zero_add]; ac_rfl))
  · have hi := (List.getElem?_eq_some_iff.1 hc).1
    have hc' : (ts.set i c')[i]? = some c' := by rw [List.getElem?_set_self hi]
    rw [set_ids hc he, flat_at3 (GT.all enc) hc', List.take_set_of_le (Nat.le_refl _), List.drop_set_of_lt (by omega)]
    have s3 : St h0 Z ((krb, kro, ((ts.map GT.id).take i).flatMap fp) :: (krb, kro + (i + 1) * 1, ((ts.map GT.id).drop (i + 1)).flatMap fp ++ ksp) :: (krb, kro + i * 1, fp c.id) :: (A ++ ((ts.take i).flatMap (GT.all enc) ++ (c'.all enc ++ ((ts.drop (i + 1)).flatMap (GT.all enc) ++ E))))) h' := s'.perm (by ((apply perm_rg; intro f; simp only [List.set_cons_zero, List.set_cons_succ, List.eraseIdx_cons_zero, List.eraseIdx_cons_succ, List.cons_append, List.nil_append, List.map_append, List.map_cons, List.map_nil, List.sum_append, List.sum_cons, List.sum_nil, List.map_flatMap, Nat.add_zero, Nat.zero_add]; ac_rfl)))
    have s4 := St.glue3 fpl hid s3
    exact s4.perm (by ((apply perm_rg; intro f; simp only [List.set_cons_zero, List.set_cons_succ, List.eraseIdx_cons_zero, List.eraseIdx_cons_succ, List.cons_append, List.nil_append, List.map_append, List.map_cons, List.map_nil, List.sum_append, List.sum_cons, List.sum_nil, List.map_flatMap, Nat.add_zero, Nat.zero_add]; ac_rfl)))
theorem r_loadM1 {k : Nat} {ts : List (GT It k)} {K : Value → Prop} (s : St h0 Z E h) (j : Nat) {b o i : Nat} {sp : List Value} {c : GT It k} (hk : E[j]? = some (b, o, (ts.map GT.id).flatMap fp ++ sp)) (hc : ts[i]? = some c) (H : K (ptr c.id 0)) : load1 (ptr b (o + i * 1)) h K := by
  have := s.r_load1F (K := K) (r := 0) fpl j hk (show (ts.map GT.id)[i]? = some c.id by rw [List.getElem?_map, hc]; rfl) (v := ptr c.id 0) rfl H
  exact this

/-- What a changed kid makes of a node. -/
theorem Gd.setKid {iso : Int} {k : Nat} {d : Nd It} {ts : List (GT It k)} (g : Gd iso (k := k + 1) (d, ts)) {i : Nat} {c c' : GT It k} (hc : ts[i]? = some c) (he : c'.id = c.id) (g' : Gd iso c') {cnt : Int}
    (hcnt : cnt = (GT.pt (h := k + 1) (d, ts.set i c')).items.length) : Gd iso (k := k + 1) ({ d with cnt := cnt }, ts.set i c') := by
  have wK := g.wf.2.1
  refine Gd.inner g.wf.1.1 g.mine.1 (g.wf.1.2.1 g.mine.1) ?_ (by rw [List.length_set]; exact g.wf.2.2.1) (fun q hq => ?_) hcnt
  · rw [set_ids hc he, List.length_set, ← mfp]; exact wK
  · rcases List.mem_or_eq_of_mem_set hq with e | e
    · exact g.kid e
    · rw [e]; exact g'

theorem set_noSplit {tb m : Nat} {iso mn : Int} {ctr : Option Addr} {x : It} (htb : h0.size ≤ tb) (hT0 : (tb, 0, hd0 iso ctr) ∈ Z) (hT4 : (tb, 4, hd4 mn m) ∈ Z) (hm1 : m ≤ 1024) (ho : m % 2 = 1) {k : Nat} (ih : SetOk h0 Z tb m iso x k)
    (t : GT It (k + 1)) {pb po lo : Nat} (fl : t.pt.Fl m lo) (ha : Asc lt t.pt.items) (hsz : t.pt.items.length ≤ 4611686018427387903) (g : Gd iso t) (s : St h0 Z ((pb, po, [ptr t.id 0]) :: (t.all enc ++ E)) h)
    (hns : ∀ c, t.pt.2[pos lt t.pt.1 x]? = some c → lget lt t.pt.1 x = none → c.splits lt m x = false)
    (H : ∀ (t' : GT It (k + 1)) h', t'.pt = t.pt.set lt m x → t'.id = t.id → Gd iso t' → St h0 Z ((pb, po, [ptr t.id 0]) :: (t'.all enc ++ E)) h' → Q (.tuple #[old (t.pt.get lt x), .bool (t.pt.get lt x).isSome, .bool false]) h') :
    Map_ii_nodeSet.call #[ptr tb 0, ptr pb po, .agg (enc x).toArray] h Q := by
  have hsp : t.pt.splits lt m x = false := by
    cases e : t.pt.splits lt m x with
    | false => rfl
    | true =>
      obtain ⟨_, e2⟩ := PT.splits_len e
      have e2 : lget lt t.pt.1 x = none := e2
      obtain ⟨c, hc, _⟩ := PT.step swo fl ha e2
      rw [PT.splits_kid e2 hc, hns c hc e2] at e
      simp at e
  have hset := PT.set_items swo ho fl ha hsp
  have hgi := PT.get_items swo fl ha (x := x)
  obtain ⟨d, ts⟩ := t
  obtain ⟨own, n, is', cnt, its, iv, ib, io, isp, kb, kv, krb, kro, ksp⟩ := d
  have w : Own 2 iv its.length ib io (its.flatMap enc) isp := g.wf.1.1
  have wK : Own 1 kv ts.length krb kro ((ts.map GT.id).map fun m => ptr m 0) ksp := g.wf.2.1
  have hkl : ts.length = its.length + 1 := g.wf.2.2.1
  have hidl : (ts.map GT.id).length = ts.length := List.length_map ..
  have hom : own = true := g.mine.1
  have hiso : is' = iso := g.wf.1.2.1 hom
  subst hiso; subst hom
  have hlen : its.length ≤ m := fl.2.1
  have ha1 : Asc lt its := asc_of_sub ha (PT.its_sub1 (its, ts.map GT.pt))
  rw [← hidl, mfp] at wK
  have hcn : cnt = (PT.items (h := k + 1) (its, ts.map GT.pt)).length := g.cn.1
  have s : St h0 Z ((pb, po, [ptr n 0]) :: (n, 0, [.int .u64 is', .int .i64 cnt, iv, ptr kb 0]) :: (ib, io, its.flatMap enc ++ isp) :: (kb, 0, [kv]) :: (krb, kro, ((ts.map GT.id).map fun m => ptr m 0) ++ ksp) :: (ts.flatMap (GT.all enc) ++ E)) h := s
  rw [mfp] at s
  refine set_head hT0 ha1 (by omega) w s (fun y h' hy s => ?_) fun t5 t9 h' hn s => ?_
  · have hln : (lput lt its x).length = its.length := by rw [lput_length, hy]; rfl
    have e1 : PT.set lt m (h := k + 1) (its, ts.map GT.pt) x = (lput lt its x, ts.map GT.pt) := PT.set_found (t := (its, ts.map GT.pt)) hy
    have e2 : PT.get lt (h := k + 1) (its, ts.map GT.pt) x = some y := PT.get_found (t := (its, ts.map GT.pt)) hy
    have e3 : (PT.items (h := k + 1) (lput lt its x, ts.map GT.pt)).length = (PT.items (h := k + 1) (its, ts.map GT.pt)).length := by
      have h1 : (PT.set lt m (h := k + 1) (its, ts.map GT.pt) x).items = lput lt (PT.items (h := k + 1) (its, ts.map GT.pt)) x := hset.1
      have h2 : PT.get lt (h := k + 1) (its, ts.map GT.pt) x = lget lt (PT.items (h := k + 1) (its, ts.map GT.pt)) x := hgi
      rw [e1] at h1
      rw [h1, lput_length, ← h2, e2]; rfl
    have := H ((⟨true, n, is', cnt, lput lt its x, iv, ib, io, isp, kb, kv, krb, kro, ksp⟩ : Nd It), ts) h' e1.symm rfl
      (Gd.inner (by show Own 2 iv (lput lt its x).length ib io ((lput lt its x).flatMap enc) isp; rw [hln]; exact w.cong (by rw [flat_len encl, flat_len encl, hln])) rfl rfl (by rw [← hidl]; exact wK) (by show ts.length = (lput lt its x).length + 1; rw [hln]; exact hkl) (fun c hc => g.kid hc) (by
        show cnt = ((PT.items (h := k + 1) (lput lt its x, ts.map GT.pt)).length : Int); rw [e3]; exact hcn)) (by rw [← mfp] at s; exact s)
    change Q (.tuple #[old (PT.get lt (h := k + 1) (its, ts.map GT.pt) x), .bool (PT.get lt (h := k + 1) (its, ts.map GT.pt) x).isSome, .bool false]) h' at this
    rw [e2] at this
    exact this
  · have hp := pos_le (lt := lt) its x
    obtain ⟨c, hc⟩ : ∃ c, ts[pos lt its x]? = some c := ⟨ts[pos lt its x]'(by omega), List.getElem?_eq_getElem (by omega)⟩
    have hcp : (ts.map GT.pt)[pos lt its x]? = some c.pt := by rw [List.getElem?_map, hc]; rfl
    have hcs : c.pt.splits lt m x = false := hns c.pt hcp hn
    obtain ⟨c0, hc0, hcm, hac, hg0, _⟩ := PT.step (h := k) (t := (its, ts.map GT.pt)) swo fl ha hn
    have : c0 = c.pt := Option.some.inj (hc0.symm.trans hcp)
    subst this
    have hcmem := List.mem_of_getElem? hc
    have e1 : PT.set lt m (h := k + 1) (its, ts.map GT.pt) x = (its, (ts.map GT.pt).set (pos lt its x) (c.pt.set lt m x)) := PT.set_kid (t := (its, ts.map GT.pt)) hn hcp hcs
    have e2 : PT.get lt (h := k + 1) (its, ts.map GT.pt) x = c.pt.get lt x := PT.get_kid (t := (its, ts.map GT.pt)) hn hcp
    have hcsz : c.pt.items.length ≤ 4611686018427387903 := by
      have h1 : (inter its ((ts.map GT.pt).map PT.items)).length = _ := inter_length _ _
      have h2 : (inter its ((ts.map GT.pt).map PT.items)).length ≤ 4611686018427387903 := hsz
      have h3 : c.pt.items.length ≤ (((ts.map GT.pt).map PT.items).map List.length).sum := mem_le_sum (by
        rw [List.map_map, List.map_map]; exact List.mem_map.2 ⟨c, hcmem, rfl⟩)
      omega
    unfold Map_ii_nodeSet.j1
    refine St.r_load0 s 0 rfl rfl ?_
    refine leaf_ok (a := some ⟨kb, 0, none⟩) (s.get (k := 3) (j := 3) rfl (by simp)) ?_
    refine r_if (fun e => absurd e (by simp)) (fun _ => ?_)
    unfold Map_ii_nodeSet.j2
    refine St.r_load0 s 0 rfl rfl ?_
    refine r_nil ?_
    refine r_fld ?_
    refine St.r_load0 s 3 rfl rfl ?_
    refine r_nil ?_
    refine St.r_load0 s 5 rfl rfl ?_
    refine wK.idx (n := pos lt its x) rfl (by omega) ?_
    refine St.r_loadN0 s 1 rfl (by simp) ?_
    obtain ⟨E', sk, back⟩ := lend_kid (A := (t9, 0, [ptr n 0]) :: (t5, 0, enc x) :: (pb, po, [ptr n 0]) :: (n, 0, [.int .u64 is', .int .i64 cnt, iv, ptr kb 0]) :: (ib, io, its.flatMap enc ++ isp) :: (kb, 0, [kv]) :: []) (E := E) (kb := kb) (kv := kv) hc s
    refine ih c (fl.2.2.2 _ hcm) hac hcsz (g.kid hcmem) sk fun c' h' hc1 hc2 hc3 s => ?_
    rw [hcs] at hc1 ⊢
    simp only [Bool.false_eq_true, ↓reduceIte] at hc1
    have s := back c' h' hc2 s
    have s : St h0 Z ((t9, 0, [ptr n 0]) :: (t5, 0, enc x) :: (pb, po, [ptr n 0]) :: (n, 0, [.int .u64 is', .int .i64 cnt, iv, ptr kb 0]) :: (ib, io, its.flatMap enc ++ isp) :: (kb, 0, [kv]) :: (krb, kro, ((ts.set (pos lt its x) c').map GT.id).flatMap fp ++ ksp) :: ((ts.set (pos lt its x) c').flatMap (GT.all enc) ++ E)) h' := s
    have ept : (ts.set (pos lt its x) c').map GT.pt = (ts.map GT.pt).set (pos lt its x) (c.pt.set lt m x) := by rw [List.map_set, hc1]
    have hlenI : (PT.items (h := k + 1) (its, (ts.set (pos lt its x) c').map GT.pt)).length = (PT.items (h := k + 1) (its, ts.map GT.pt)).length + if (c.pt.get lt x).isSome then 0 else 1 := by
      have h1 : (PT.set lt m (h := k + 1) (its, ts.map GT.pt) x).items = lput lt (PT.items (h := k + 1) (its, ts.map GT.pt)) x := hset.1
      have h2 : PT.get lt (h := k + 1) (its, ts.map GT.pt) x = lget lt (PT.items (h := k + 1) (its, ts.map GT.pt)) x := hgi
      rw [e1, ← ept] at h1
      rw [h1, lput_length, ← h2, e2]
    have fin : ∀ cnt' h', cnt' = (((PT.items (h := k + 1) (its, (ts.set (pos lt its x) c').map GT.pt)).length : Nat) : Int) →
        St h0 Z ((t9, 0, [ptr n 0]) :: (t5, 0, enc x) :: (pb, po, [ptr n 0]) :: (n, 0, [.int .u64 is', .int .i64 cnt', iv, ptr kb 0]) :: (ib, io, its.flatMap enc ++ isp) :: (kb, 0, [kv]) :: (krb, kro, ((ts.set (pos lt its x) c').map GT.id).flatMap fp ++ ksp) :: ((ts.set (pos lt its x) c').flatMap (GT.all enc) ++ E)) h' →
        Q (.tuple #[old (c.pt.get lt x), .bool (c.pt.get lt x).isSome, .bool false]) h' := by
      intro cnt' h' hcnt' s
      have := H ((⟨true, n, is', cnt', its, iv, ib, io, isp, kb, kv, krb, kro, ksp⟩ : Nd It), ts.set (pos lt its x) c') h' (by show (its, (ts.set (pos lt its x) c').map GT.pt) = _; rw [ept]; exact e1.symm) rfl
        (Gd.setKid (d := ⟨true, n, is', cnt, its, iv, ib, io, isp, kb, kv, krb, kro, ksp⟩) g hc hc2 hc3 hcnt') (by rw [← mfp] at s; exact s.drop 2)
      change Q (.tuple #[old (PT.get lt (h := k + 1) (its, ts.map GT.pt) x), .bool (PT.get lt (h := k + 1) (its, ts.map GT.pt) x).isSome, .bool false]) h' at this
      rw [e2] at this
      exact this
    refine r_ext rfl ?_
    refine r_ext rfl ?_
    refine r_ext rfl ?_
    refine r_if (fun e => absurd e (by simp)) (fun _ => ?_)
    unfold Map_ii_nodeSet.j3
    refine r_not ?_
    refine r_if (fun hr => ?_) (fun hr => ?_)
    · have hr : (c.pt.get lt x).isSome = false := by simpa using hr
      rw [hr] at hlenI
      refine St.r_load0 s 0 rfl rfl ?_
      refine r_nil ?_
      refine r_fld ?_
      refine St.r_load0 s 3 rfl rfl ?_
      refine r_add (z := cnt + 1) (by have : (PT.items (h := k + 1) (its, ts.map GT.pt)).length ≤ 4611686018427387903 := hsz; rw [i64w (by omega) (by omega)]) ?_
      refine r_nil ?_
      refine r_fld ?_
      refine St.r_store0 s 3 rfl (by simp) rfl ?_; intro h s
      unfold Map_ii_nodeSet.j4
      exact fin (cnt + 1) h (by rw [hlenI, hcn]; simp) s
    · have hr : (c.pt.get lt x).isSome = true := by simpa using hr
      rw [hr] at hlenI
      unfold Map_ii_nodeSet.j4
      exact fin cnt h' (by rw [hlenI, hcn]; simp) s
end Go.Proofs.Ytkkappjbcgnacaa.Ii
end
section
namespace Go.Proofs.Ytkkappjbcgnacaa.Ii
open Go.Hp Go.Proofs.Ytkkappjbcgnacaa
set_option linter.unusedVariables false
set_option linter.unusedSimpArgs false
variable {h0 h : Heap} {Z E : List Rg} {Q : Value → Heap → Prop}
abbrev pp (m : Nat) : Value := ptr m 0
theorem fpv (l : List Nat) : l.flatMap fp = (l.map pp).flatMap fv := by rw [flat_fv]; exact List.map_eq_flatMap.symm

theorem SetOk.succ {tb m : Nat} {iso mn : Int} {ctr : Option Addr} {x : It} (htb : h0.size ≤ tb) (hT0 : (tb, 0, hd0 iso ctr) ∈ Z) (hT4 : (tb, 4, hd4 mn m) ∈ Z) (hm1 : m ≤ 1024) (ho : m % 2 = 1) {k : Nat} (ih : SetOk h0 Z tb m iso x k) : SetOk h0 Z tb m iso x (k + 1) := by
  intro t h E Q pb po lo fl ha hsz g s H
  by_cases hns : ∀ c, t.pt.2[pos lt t.pt.1 x]? = some c → lget lt t.pt.1 x = none → c.splits lt m x = false
  · have hsp : t.pt.splits lt m x = false := by
      cases e : t.pt.splits lt m x with
      | false => rfl
      | true =>
        obtain ⟨_, e2⟩ := PT.splits_len e
        have e2 : lget lt t.pt.1 x = none := e2
        obtain ⟨c, hc, _⟩ := PT.step swo fl ha e2
        rw [PT.splits_kid e2 hc, hns c hc e2] at e
        simp at e
    refine set_noSplit htb hT0 hT4 hm1 ho ih t fl ha hsz g s hns fun t' h' h1 h2 h3 s => ?_
    have := H t' h' (by rw [hsp]; exact h1) h2 h3 s
    rw [hsp] at this; exact this
  have hex : ∃ cp, t.pt.2[pos lt t.pt.1 x]? = some cp ∧ lget lt t.pt.1 x = none ∧ cp.splits lt m x = true := by
    apply Classical.byContradiction
    intro hno
    refine hns fun c h1 h2 => ?_
    cases e : c.splits lt m x with
    | false => rfl
    | true => exact absurd ⟨c, h1, h2, e⟩ hno
  clear hns
  obtain ⟨cp, hcp, hn, hcs⟩ := hex
  obtain ⟨c0, hc0, hcm, hac, hg0, _⟩ := PT.step swo fl ha hn
  have : c0 = cp := Option.some.inj (hc0.symm.trans hcp)
  subst this
  have hgn := PT.splits_get swo (fl.2.2.2 _ hcm) hac hcs
  have hgt : t.pt.get lt x = none := by rw [PT.get_items swo fl ha, hg0, hgn]
  have hgc : c0.get lt x = none := by rw [PT.get_items swo (fl.2.2.2 _ hcm) hac, hgn]
  obtain ⟨md, hmd, _⟩ := PT.halves swo ho (fl.2.2.2 _ hcm) hac hcs
  obtain ⟨d, ts⟩ := t
  obtain ⟨own, n, is', cnt, its, iv, ib, io, isp, kb, kv, krb, kro, ksp⟩ := d
  have w : Own 2 iv its.length ib io (its.flatMap enc) isp := g.wf.1.1
  have wK : Own 1 kv ts.length krb kro ((ts.map GT.id).map fun m => ptr m 0) ksp := g.wf.2.1
  have hkl : ts.length = its.length + 1 := g.wf.2.2.1
  have hidl : (ts.map GT.id).length = ts.length := List.length_map ..
  have hom : own = true := g.mine.1
  have hiso : is' = iso := g.wf.1.2.1 hom
  subst hiso; subst hom
  have hlen : its.length ≤ m := fl.2.1
  have hn : lget lt its x = none := hn
  have hcp : (ts.map GT.pt)[pos lt its x]? = some c0 := hcp
  have ha1 : Asc lt its := asc_of_sub ha (PT.its_sub1 (its, ts.map GT.pt))
  rw [← hidl, mfp] at wK
  have hcn : cnt = (PT.items (h := k + 1) (its, ts.map GT.pt)).length := g.cn.1
  have s : St h0 Z ((pb, po, [ptr n 0]) :: (n, 0, [.int .u64 is', .int .i64 cnt, iv, ptr kb 0]) :: (ib, io, its.flatMap enc ++ isp) :: (kb, 0, [kv]) :: (krb, kro, ((ts.map GT.id).map fun m => ptr m 0) ++ ksp) :: (ts.flatMap (GT.all enc) ++ E)) h := s
  rw [mfp] at s
  refine set_head hT0 ha1 (by omega) w s (fun y h' hy s => by rw [hn] at hy; cases hy) fun t5 t9 h' _ s => ?_
  have hp := pos_le (lt := lt) its x
  obtain ⟨c, hc⟩ : ∃ c, ts[pos lt its x]? = some c := ⟨ts[pos lt its x]'(by omega), List.getElem?_eq_getElem (by omega)⟩
  have : c0 = c.pt := by
    rw [List.getElem?_map, hc] at hcp
    exact (Option.some.inj hcp).symm
  subst this
  have hcmem := List.mem_of_getElem? hc
  have hcsz : c.pt.items.length ≤ 4611686018427387903 := by
    have h1 : (inter its ((ts.map GT.pt).map PT.items)).length = _ := inter_length _ _
    have h2 : (inter its ((ts.map GT.pt).map PT.items)).length ≤ 4611686018427387903 := hsz
    have h3 : c.pt.items.length ≤ (((ts.map GT.pt).map PT.items).map List.length).sum := mem_le_sum (by
      rw [List.map_map, List.map_map]; exact List.mem_map.2 ⟨c, hcmem, rfl⟩)
    omega
  unfold Map_ii_nodeSet.j1
  refine St.r_load0 s 0 rfl rfl ?_
  refine leaf_ok (a := some ⟨kb, 0, none⟩) (s.get (k := 3) (j := 3) rfl (by simp)) ?_
  refine r_if (fun e => absurd e (by simp)) (fun _ => ?_)
  unfold Map_ii_nodeSet.j2
  refine St.r_load0 s 0 rfl rfl ?_
  refine r_nil ?_
  refine r_fld ?_
  refine St.r_load0 s 3 rfl rfl ?_
  refine r_nil ?_
  refine St.r_load0 s 5 rfl rfl ?_
  refine wK.idx (n := pos lt its x) rfl (by omega) ?_
  refine St.r_loadN0 s 1 rfl (by simp) ?_
  obtain ⟨E', sk, back⟩ := lend_kid (A := (t9, 0, [ptr n 0]) :: (t5, 0, enc x) :: (pb, po, [ptr n 0]) :: (n, 0, [.int .u64 is', .int .i64 cnt, iv, ptr kb 0]) :: (ib, io, its.flatMap enc ++ isp) :: (kb, 0, [kv]) :: []) (E := E) (kb := kb) (kv := kv) hc s
  refine ih c (fl.2.2.2 _ hcm) hac hcsz (g.kid hcmem) sk fun c' h' hc1 hc2 hc3 s => ?_
  rw [hcs, hgc]
  rw [hcs] at hc1
  simp only [↓reduceIte] at hc1
  have s := back c' h' hc2 s
  have s : St h0 Z ((t9, 0, [ptr n 0]) :: (t5, 0, enc x) :: (pb, po, [ptr n 0]) :: (n, 0, [.int .u64 is', .int .i64 cnt, iv, ptr kb 0]) :: (ib, io, its.flatMap enc ++ isp) :: (kb, 0, [kv]) :: (krb, kro, ((ts.set (pos lt its x) c').map GT.id).flatMap fp ++ ksp) :: ((ts.set (pos lt its x) c').flatMap (GT.all enc) ++ E)) h' := s
  have hi := (List.getElem?_eq_some_iff.1 hc).1
  have hc' : (ts.set (pos lt its x) c')[pos lt its x]? = some c' := List.getElem?_set_self hi
  have ept : (ts.set (pos lt its x) c').map GT.pt = ts.map GT.pt := by
    apply List.ext_getElem?
    intro j
    rw [List.map_set, List.getElem?_set]
    split
    · rename_i e; subst e
      simp only [List.length_map, hi, if_true]
      rw [hc1]; exact hcp.symm
    · rfl
  have g1 : Gd is' (k := k + 1) ((⟨true, n, is', cnt, its, iv, ib, io, isp, kb, kv, krb, kro, ksp⟩ : Nd It), ts.set (pos lt its x) c') :=
    Gd.setKid g hc hc2 hc3 (by show cnt = ((PT.items (h := k + 1) (its, (ts.set (pos lt its x) c').map GT.pt)).length : Int); rw [ept]; exact hcn)
  refine r_ext rfl ?_
  refine r_ext rfl ?_
  refine r_ext rfl ?_
  refine r_if (fun _ => ?_) (fun e => absurd e (by simp))
  refine St.r_load0 s 0 rfl rfl ?_
  refine r_nil ?_
  refine r_fld ?_
  refine St.r_load0 s 3 rfl rfl ?_
  refine w.lenV ?_
  refine r_nil ?_
  refine r_fld ?_
  refine s.r_lz hT4 3 rfl rfl ?_
  refine r_cmpI ?_
  refine r_if (fun hfull => ?_) (fun hroom => ?_)
  · have hfull : its.length = m := Int.ofNat_inj.1 (by simpa using hfull)
    have hsp : PT.splits lt m (h := k + 1) (its, ts.map GT.pt) x = true := by rw [PT.splits_kid (t := (its, ts.map GT.pt)) hn hcp, hcs]; simpa using hfull
    refine r_nil ?_
    refine r_fld ?_
    refine r_fld ?_
    refine s.r_lz hT4 0 rfl rfl ?_
    have := H ((⟨true, n, is', cnt, its, iv, ib, io, isp, kb, kv, krb, kro, ksp⟩ : Nd It), ts.set (pos lt its x) c') h' (by
      show (its, (ts.set (pos lt its x) c').map GT.pt) = if PT.splits lt m (h := k + 1) (its, ts.map GT.pt) x = true then _ else _
      rw [hsp, ept]; rfl) rfl g1 (by rw [← mfp] at s; exact s.drop 2)
    change Q (.tuple #[old (PT.get lt (h := k + 1) (its, ts.map GT.pt) x), .bool (PT.get lt (h := k + 1) (its, ts.map GT.pt) x).isSome, .bool (PT.splits lt m (h := k + 1) (its, ts.map GT.pt) x)]) h' at this
    have hgt : PT.get lt (h := k + 1) (its, ts.map GT.pt) x = none := hgt
    rw [hsp, hgt] at this
    exact this
  · have hroom : its.length ≠ m := fun e => by rw [e] at hroom; simp at hroom
    have hsp : PT.splits lt m (h := k + 1) (its, ts.map GT.pt) x = false := by rw [PT.splits_kid (t := (its, ts.map GT.pt)) hn hcp]; simp [hroom]
    obtain ⟨q1, q2, q3, q4, q5⟩ := PT.set_split (t := (its, ts.map GT.pt)) swo ho fl ha hn hcp hcs hmd hroom
    unfold Map_ii_nodeSet.j5
    refine St.r_load0 s 0 rfl rfl ?_
    refine r_nil ?_
    refine r_fld ?_
    refine St.r_load0 s 3 rfl rfl ?_
    refine r_nil ?_
    refine St.r_load0 s 5 rfl rfl ?_
    have wk1 : Own 1 kv ((ts.set (pos lt its x) c').map GT.id).length krb kro (((ts.set (pos lt its x) c').map GT.id).flatMap fp) ksp := by rw [set_ids hc hc2]; exact wK
    refine wk1.idx (n := pos lt its x) rfl (by rw [List.length_map, List.length_set]; omega) ?_
    refine r_loadM1 s 6 rfl hc' ?_
    have hcl : c'.pt.its.length = m := by rw [hc1]; exact (PT.splits_len hcs).1
    have etake : (ts.set (pos lt its x) c').take (pos lt its x) = ts.take (pos lt its x) := List.take_set_of_le (Nat.le_refl _)
    have edrop : (ts.set (pos lt its x) c').drop (pos lt its x + 1) = ts.drop (pos lt its x + 1) := List.drop_set_of_lt (by omega)
    refine nodeSplit_ok c' (m := m) (E := (t9, 0, [ptr n 0]) :: (t5, 0, enc x) :: (pb, po, [ptr n 0]) :: (n, 0, [.int .u64 is', .int .i64 cnt, iv, ptr kb 0]) :: (ib, io, its.flatMap enc ++ isp) :: (kb, 0, [kv]) :: (krb, kro, (ts.map GT.id).flatMap fp ++ ksp) :: ((ts.take (pos lt its x)).flatMap (GT.all enc) ++ ((ts.drop (pos lt its x + 1)).flatMap (GT.all enc) ++ E)))
      hT0 hT4 (by omega) (by omega) (by rw [hc1]; exact fl.2.2.2 _ hcm) hcl (by rw [hc1]; omega) hc3 (s.perm ?_) fun l r md' h hmd' hl hr hlid gl gr s => ?_
    · rw [set_ids hc hc2, flat_at3 (GT.all enc) hc', etake, edrop]; ((apply perm_rg; intro f; simp only [List.set_cons_zero, List.set_cons_succ, List.eraseIdx_cons_zero, List.eraseIdx_cons_succ, List.cons_append, List.nil_append, List.map_append, List.map_cons, List.map_nil, List.sum_append, List.sum_cons, List.sum_nil, List.map_flatMap, Nat.add_zero, Nat.zero_add]; ac_rfl))
    have : md' = md := by rw [hc1] at hmd'; exact Option.some.inj (hmd'.symm.trans hmd)
    subst this
    rw [hc1] at hl hr
    have s : St h0 Z ((t9, 0, [ptr n 0]) :: (t5, 0, enc x) :: (pb, po, [ptr n 0]) :: (n, 0, [.int .u64 is', .int .i64 cnt, iv, ptr kb 0]) :: (ib, io, its.flatMap enc ++ isp) :: (kb, 0, [kv]) :: (krb, kro, ((ts.map GT.id).map pp).flatMap fv ++ ksp) :: ((ts.take (pos lt its x) ++ l :: r :: ts.drop (pos lt its x + 1)).flatMap (GT.all enc) ++ E)) h :=
      s.perm (by rw [← fpv, List.flatMap_append, List.flatMap_cons, List.flatMap_cons]; ((apply perm_rg; intro f; simp only [List.set_cons_zero, List.set_cons_succ, List.eraseIdx_cons_zero, List.eraseIdx_cons_succ, List.cons_append, List.nil_append, List.map_append, List.map_cons, List.map_nil, List.sum_append, List.sum_cons, List.sum_nil, List.map_flatMap, Nat.add_zero, Nat.zero_add]; ac_rfl)))
    rw [fpv] at wK
    have hpl : ((ts.map GT.id).map pp).length = ts.length := by rw [List.length_map, List.length_map]
    have elp : (ts.map GT.id).length = ((ts.map GT.id).map pp).length := List.length_map .. |>.symm
    rw [elp] at wK
    generalize hL : (ts.map GT.id).map pp = L at s wK hpl
    refine r_ext rfl ?_
    refine r_ext rfl ?_
    refine s.r_alloc fun t13 h s => ?_
    refine St.r_storeN0 s 0 rfl rfl (by simp) (enc1 _) ?_; intro h s
    refine St.r_load0 s 1 rfl rfl ?_
    refine r_nil ?_
    refine r_fld ?_
    refine St.r_load0 s 4 rfl rfl ?_
    refine St.r_load0 s 1 rfl rfl ?_
    refine r_nil ?_
    refine r_fld ?_
    refine St.r_load0 s 4 rfl rfl ?_
    refine r_nil ?_
    refine St.r_load0 s 6 rfl rfl ?_
    refine St.r_mkSl (sz := 1) (cs := [.pointer none]) s (by ((simp only [fillV, fill1, Value.cells, zeros_succ, zeros_zero, List.size_toArray, List.length_cons, List.length_nil, List.length_append, List.take_succ_cons, List.take_zero, List.take_nil, List.drop_succ_cons, List.drop_zero, List.drop_nil, List.cons_append, List.nil_append, List.append_nil, Nat.reduceAdd, Nat.reduceMul, Nat.reduceLeDiff, Nat.reduceEqDiff, and_self, and_true, true_and, if_true, Nat.le_refl, Nat.zero_add, Nat.add_zero, Nat.zero_mul, reduceIte, if_false] <;> rfl))) rfl fun q h s w1 => ?_
    refine And.intro (by exact St.r_still0 s 2 rfl rfl) ?_
    refine And.intro (by exact St.r_still0 s 5 rfl rfl) ?_
    refine And.intro (by exact St.r_still0 s 2 rfl rfl) ?_
    refine And.intro (by exact St.r_still0 s 5 rfl rfl) ?_
    refine ⟨by refine St.r_still0 s 7 rfl rfl, ?_⟩
    refine St.r_app s 8 (sz := 1) (n := 1) (new := [.pointer none]) rfl wK rfl (w1.rdl s 0 rfl) (by simp [one1]) (by omega) (by omega) fun kv' krb' kro' ksp' h s wk' => ?_
    rw [snoc_fv] at s wk'
    have wk' : Own 1 kv' (L ++ [Value.pointer none]).length krb' kro' ((L ++ [Value.pointer none]).flatMap fv) ksp' := by rw [List.length_append]; exact wk'
    refine And.intro (by exact St.r_still0 s 2 rfl rfl) ?_
    refine And.intro (by exact St.r_still0 s 5 rfl rfl) ?_
    refine r_nil ?_
    refine St.r_store0 s 7 rfl (by simp) wk'.one ?_; intro h s
    refine St.r_load0 s 2 rfl rfl ?_
    refine r_nil ?_
    refine r_fld ?_
    refine St.r_load0 s 5 rfl rfl ?_
    refine r_nil ?_
    refine St.r_load0 s 7 rfl rfl ?_
    refine r_add (z := ((pos lt its x + 1 : Nat) : Int)) (by rw [i64w (by omega) (by omega)]; omega) ?_
    refine wk'.slcLo fvl (i := pos lt its x + 1) rfl (by simp; omega) fun dd wd => ?_
    refine St.r_load0 s 2 rfl rfl ?_
    refine r_nil ?_
    refine r_fld ?_
    refine St.r_load0 s 5 rfl rfl ?_
    refine r_nil ?_
    refine St.r_load0 s 7 rfl rfl ?_
    refine (wk'.rdl s 8 rfl).slcLo fvl (i := pos lt its x) rfl (by simp; omega) fun src rs => ?_
    refine s.r_cpyF fvl 8 (L := L ++ [Value.pointer none]) (M := (L ++ [Value.pointer none]).drop (pos lt its x)) rfl wd (by simp; omega) rs rfl (fun y hy => ?_) fun h s => ?_
    · have hy := List.mem_of_mem_drop hy
      intro z hz
      rw [List.mem_singleton.1 hz]
      rcases List.mem_append.1 hy with e | e
      · rw [← hL] at e; obtain ⟨a, _, rfl⟩ := List.mem_map.1 e; rfl
      · rw [List.mem_singleton.1 e]; rfl
    refine St.r_load0 s 2 rfl rfl ?_
    refine r_nil ?_
    refine r_fld ?_
    refine St.r_load0 s 5 rfl rfl ?_
    refine r_nil ?_
    refine St.r_load0 s 7 rfl rfl ?_
    refine r_add (z := ((pos lt its x + 1 : Nat) : Int)) (by rw [i64w (by omega) (by omega)]; omega) ?_
    refine wk'.idx (n := pos lt its x + 1) rfl (by simp; omega) ?_
    refine s.r_storeV (v := ptr r.id 0) 8 rfl (by simp; omega) rfl fun h s => ?_
    rw [List.set_set, ins_steps2 L (.pointer none) (ptr r.id 0) (by omega)] at s
    refine St.r_load0 s 2 rfl rfl ?_
    refine St.r_load0 s 2 rfl rfl ?_
    refine r_nil ?_
    refine r_fld ?_
    refine St.r_load0 s 5 rfl rfl ?_
    refine r_nil ?_
    refine r_fld ?_
    refine s.r_lzE hT4 0 (enc emp) rfl (by simp) rfl ?_
    refine St.r_mkSl (sz := 2) (cs := enc emp) s (by ((simp only [fillV, fill1, Value.cells, zeros_succ, zeros_zero, List.size_toArray, List.length_cons, List.length_nil, List.length_append, List.take_succ_cons, List.take_zero, List.take_nil, List.drop_succ_cons, List.drop_zero, List.drop_nil, List.cons_append, List.nil_append, List.append_nil, Nat.reduceAdd, Nat.reduceMul, Nat.reduceLeDiff, Nat.reduceEqDiff, and_self, and_true, true_and, if_true, Nat.le_refl, Nat.zero_add, Nat.add_zero, Nat.zero_mul, reduceIte, if_false] <;> rfl))) rfl fun qq h s w2 => ?_
    refine And.intro (by exact St.r_still0 s 3 rfl rfl) ?_
    refine And.intro (by exact St.r_still0 s 3 rfl rfl) ?_
    refine And.intro (by exact St.r_still0 s 6 rfl rfl) ?_
    refine St.r_app s 7 (sz := 2) (n := 1) (new := enc emp) rfl w rfl (w2.rdl s 0 rfl) (enc1 _) (by omega) (by omega) fun iv' ib' io' isp' h s w' => ?_
    rw [snoc_enc] at s w'
    have w' : Own 2 iv' (its ++ [emp]).length ib' io' ((its ++ [emp]).flatMap enc) isp' := by rw [List.length_append]; exact w'
    refine And.intro (by exact St.r_still0 s 3 rfl rfl) ?_
    refine r_nil ?_
    refine r_fld ?_
    refine St.r_store0 s 6 rfl (by simp) w'.one ?_; intro h s
    refine St.r_load0 s 3 rfl rfl ?_
    refine r_nil ?_
    refine r_fld ?_
    refine St.r_load0 s 6 rfl rfl ?_
    refine r_add (z := ((pos lt its x + 1 : Nat) : Int)) (by rw [i64w (by omega) (by omega)]; omega) ?_
    refine w'.slcLo encl (i := pos lt its x + 1) rfl (by simp; omega) fun dd2 wd2 => ?_
    refine St.r_load0 s 3 rfl rfl ?_
    refine r_nil ?_
    refine r_fld ?_
    refine St.r_load0 s 6 rfl rfl ?_
    refine (w'.rdl s 7 rfl).slcLo encl (i := pos lt its x) rfl (by simp; omega) fun src2 rs2 => ?_
    refine s.r_cpyF encl 7 (L := its ++ [emp]) (M := (its ++ [emp]).drop (pos lt its x)) rfl wd2 (by simp; omega) rs2 rfl (fun y _ => enc1 y) fun h s => ?_
    refine St.r_load0 s 3 rfl rfl ?_
    refine r_nil ?_
    refine r_fld ?_
    refine St.r_load0 s 6 rfl rfl ?_
    refine St.r_loadN0 s 2 rfl (by simp) ?_
    refine w'.idx (n := pos lt its x) rfl (by simp; omega) ?_
    refine s.r_storeF (x := md') encl 7 rfl (by simp; omega) (enc1 _) fun h s => ?_
    rw [List.set_set, ins_steps its emp md' hp] at s
    refine St.r_loadN0 s 4 rfl (by simp) ?_
    have hil := ins_length (x := md') hp
    have e8 : ins L (pos lt its x + 1) (ptr r.id 0) = ((ts.take (pos lt its x) ++ l :: r :: ts.drop (pos lt its x + 1)).map GT.id).map pp := by
      have e9 : ts.take (pos lt its x + 1) = ts.take (pos lt its x) ++ [c] := by rw [List.take_add_one, hc]; rfl
      unfold ins
      rw [← hL, ← List.map_take, ← List.map_take, ← List.map_drop, ← List.map_drop, e9]
      simp only [List.map_append, List.map_cons, List.map_nil, List.append_assoc, List.cons_append, List.nil_append, hlid, hc2]
    rw [e8, ← fpv] at s
    have hl2 : ((ts.take (pos lt its x) ++ l :: r :: ts.drop (pos lt its x + 1)).map GT.id).length = (L ++ [Value.pointer none]).length := by simp; omega
    have wk2 : Own 1 kv' (ts.take (pos lt its x) ++ l :: r :: ts.drop (pos lt its x + 1)).length krb' kro' (((ts.take (pos lt its x) ++ l :: r :: ts.drop (pos lt its x + 1)).map GT.id).flatMap fp) ksp' := by
      rw [← hl2, List.length_map] at wk'
      exact wk'.cong (by rw [flat_len fpl, flat_len fvl, hl2])
    have w2' : Own 2 iv' (ins its (pos lt its x) md').length ib' io' ((ins its (pos lt its x) md').flatMap enc) isp' := by
      rw [show (ins its (pos lt its x) md').length = (its ++ [emp]).length by rw [hil]; simp]
      exact w'.cong (by rw [flat_len encl, flat_len encl, hil]; simp)
    have ept2 : (ts.take (pos lt its x) ++ l :: r :: ts.drop (pos lt its x + 1)).map GT.pt = (ts.map GT.pt).take (pos lt its x) ++ c.pt.lo (m / 2) :: c.pt.hi (m / 2) :: (ts.map GT.pt).drop (pos lt its x + 1) := by
      rw [List.map_append, List.map_cons, List.map_cons, List.map_take, List.map_drop, hl, hr]
    have g2 : Gd is' (k := k + 1) ((⟨true, n, is', cnt, ins its (pos lt its x) md', iv', ib', io', isp', kb, kv', krb', kro', ksp'⟩ : Nd It), ts.take (pos lt its x) ++ l :: r :: ts.drop (pos lt its x + 1)) := by
      refine Gd.inner w2' rfl rfl wk2 (by show _ = (ins its (pos lt its x) md').length + 1; rw [hil]; simp; omega) (fun q hq => ?_) ?_
      · rcases List.mem_append.1 hq with e | e
        · exact g.kid (List.mem_of_mem_take e)
        · rcases List.mem_cons.1 e with e | e
          · rw [e]; exact gl
          · rcases List.mem_cons.1 e with e | e
            · rw [e]; exact gr
            · exact g.kid (List.mem_of_mem_drop e)
      · show cnt = ((PT.items (h := k + 1) (ins its (pos lt its x) md', (ts.take (pos lt its x) ++ l :: r :: ts.drop (pos lt its x + 1)).map GT.pt)).length : Int)
        rw [ept2, q1]; exact hcn
    have hpt2 : GT.pt (h := k + 1) ((⟨true, n, is', cnt, ins its (pos lt its x) md', iv', ib', io', isp', kb, kv', krb', kro', ksp'⟩ : Nd It), ts.take (pos lt its x) ++ l :: r :: ts.drop (pos lt its x + 1)) = (ins its (pos lt its x) md', (ts.map GT.pt).take (pos lt its x) ++ c.pt.lo (m / 2) :: c.pt.hi (m / 2) :: (ts.map GT.pt).drop (pos lt its x + 1)) := by
      show (_, _) = _; rw [ept2]
    have s : St h0 Z ((t9, 0, [ptr n 0]) :: ((GT.all enc (h := k + 1) ((⟨true, n, is', cnt, ins its (pos lt its x) md', iv', ib', io', isp', kb, kv', krb', kro', ksp'⟩ : Nd It), ts.take (pos lt its x) ++ l :: r :: ts.drop (pos lt its x + 1))) ++ ((pb, po, [ptr n 0]) :: E))) h := by
      have s1 : St h0 Z ((t9, 0, [ptr n 0]) :: (n, 0, [.int .u64 is', .int .i64 cnt, iv', ptr kb 0]) :: (ib', io', (ins its (pos lt its x) md').flatMap enc ++ isp') :: (kb, 0, [kv']) :: (krb', kro', ((ts.take (pos lt its x) ++ l :: r :: ts.drop (pos lt its x + 1)).map GT.id).flatMap fp ++ ksp') :: ((ts.take (pos lt its x) ++ l :: r :: ts.drop (pos lt its x + 1)).flatMap (GT.all enc) ++ ((pb, po, [ptr n 0]) :: E))) h :=
        (s.perm (E' := (qq, 0, _) :: (q, 0, _) :: (t13, 0, _) :: (t5, 0, _) :: _) (by ((apply perm_rg; intro f; simp only [List.set_cons_zero, List.set_cons_succ, List.eraseIdx_cons_zero, List.eraseIdx_cons_succ, List.cons_append, List.nil_append, List.map_append, List.map_cons, List.map_nil, List.sum_append, List.sum_cons, List.sum_nil, List.map_flatMap, Nat.add_zero, Nat.zero_add]; ac_rfl)))).drop 4
      rw [← mfp] at s1
      exact s1
    refine set_noSplit htb hT0 hT4 hm1 ho ih _ (by rw [hpt2]; exact q2) (by rw [hpt2, q1]; exact ha) (by rw [hpt2, q1]; exact hsz) g2 s (fun c2 h1 h2 => ?_) fun t' h' h1 h2 h3 s => ?_
    · rw [hpt2] at h1
      obtain ⟨c3, h3, h4⟩ := q4
      have : c2 = c3 := Option.some.inj (h1.symm.trans h3)
      rw [this]; exact h4
    · have hgt2 : PT.get lt (GT.pt (h := k + 1) ((⟨true, n, is', cnt, ins its (pos lt its x) md', iv', ib', io', isp', kb, kv', krb', kro', ksp'⟩ : Nd It), ts.take (pos lt its x) ++ l :: r :: ts.drop (pos lt its x + 1))) x = none := by
        rw [hpt2, PT.get_items swo q2 (by rw [q1]; exact ha), q1, ← PT.get_items (h := k + 1) (t := (its, ts.map GT.pt)) swo fl ha]; exact hgt
      rw [hgt2]
      refine r_ext rfl ?_
      refine r_ext rfl ?_
      refine r_ext rfl ?_
      have := H t' h' (by
        show _ = if PT.splits lt m (h := k + 1) (its, ts.map GT.pt) x = true then _ else _
        rw [hsp, h1, hpt2, q5]; rfl) h2 h3 ((s.drop 1).perm List.perm_middle.symm)
      change Q (.tuple #[old (PT.get lt (h := k + 1) (its, ts.map GT.pt) x), .bool (PT.get lt (h := k + 1) (its, ts.map GT.pt) x).isSome, .bool (PT.splits lt m (h := k + 1) (its, ts.map GT.pt) x)]) h' at this
      have hgt : PT.get lt (h := k + 1) (its, ts.map GT.pt) x = none := hgt
      rw [hsp, hgt] at this
      exact this

theorem SetOk.all {tb m : Nat} {iso mn : Int} {ctr : Option Addr} {x : It} (htb : h0.size ≤ tb) (hT0 : (tb, 0, hd0 iso ctr) ∈ Z) (hT4 : (tb, 4, hd4 mn m) ∈ Z) (hm1 : m ≤ 1024) (ho : m % 2 = 1) : ∀ k, SetOk h0 Z tb m iso x k
  | 0 => SetOk.zero htb hT0 hT4 hm1
  | k + 1 => SetOk.succ htb hT0 hT4 hm1 ho (SetOk.all htb hT0 hT4 hm1 ho k)
end Go.Proofs.Ytkkappjbcgnacaa.Ii
end
section
namespace Go.Proofs.Ytkkappjbcgnacaa.Ii
open Go.Hp Go.Proofs.Ytkkappjbcgnacaa
set_option linter.unusedVariables false
set_option linter.unusedSimpArgs false
variable {h0 h : Heap} {Z E : List Rg} {Q : Value → Heap → Prop}

/-- A map's root: none, or a tree. -/
abbrev Rt := Option ((k : Nat) × GT It k)
def rA : Rt → Option Addr
  | none => none
  | some t => some ⟨t.2.id, 0, none⟩
def rAll : Rt → List Rg
  | none => []
  | some t => t.2.all enc
def rPt : Rt → MT It
  | none => none
  | some t => some ⟨t.1, t.2.pt⟩
def rGd (iso : Int) : Rt → Prop
  | none => True
  | some t => Gd iso t.2

theorem Set_noSplit {tb m : Nat} {iso mn cnt : Int} {ctr : Option Addr} {x : It} (htb : h0.size ≤ tb) (hT0 : (tb, 0, hd0 iso ctr) ∈ Z) (hT4 : (tb, 4, hd4 mn m) ∈ Z) (hm1 : m ≤ 1024) (ho : m % 2 = 1) {k : Nat} (t : GT It k)
    (fl : t.pt.Fl m 1) (ha : Asc lt t.pt.items) (hsz : t.pt.items.length ≤ 4611686018427387903) (g : Gd iso t) (hcnt : cnt = t.pt.items.length) (hsp : t.pt.splits lt m x = false)
    (s : St h0 Z ((tb, 2, [ptr t.id 0]) :: (tb, 3, [.int .i64 cnt]) :: (t.all enc ++ E)) h)
    (H : ∀ (t' : GT It k) h', t'.pt = t.pt.set lt m x → Gd iso t' → St h0 Z ((tb, 2, [ptr t'.id 0]) :: (tb, 3, [.int .i64 t'.pt.items.length]) :: (t'.all enc ++ E)) h' → Q (.tuple #[old (lget lt t.pt.items x), .bool (lget lt t.pt.items x).isSome]) h') :
    Map_ii_Set.call #[ptr tb 0, kv x.1, vv x.2] h Q := by
  refine Map_ii_Set.body _ _ _ _ _ ?_
  unfold Map_ii_Set.sh
  have hset := (PT.set_items swo ho fl ha hsp).1
  have hgi := PT.get_items swo fl ha (x := x)
  (apply r_build; (simp only [fillV, fill1, Value.cells, zeros_succ, zeros_zero, List.size_toArray, List.length_cons, List.length_nil, List.length_append, List.take_succ_cons, List.take_zero, List.take_nil, List.drop_succ_cons, List.drop_zero, List.drop_nil, List.cons_append, List.nil_append, List.append_nil, Nat.reduceAdd, Nat.reduceMul, Nat.reduceLeDiff, Nat.reduceEqDiff, and_self, and_true, true_and, if_true, Nat.le_refl, Nat.zero_add, Nat.add_zero, Nat.zero_mul, reduceIte, if_false] <;> rfl))
  refine s.r_alloc fun t8 h s => ?_
  refine St.r_storeN0 s 0 rfl rfl (by simp) (enc1 x) ?_; intro h s
  refine r_nil ?_
  refine r_fld ?_
  refine s.r_load1 1 (o := 2) (j := 0) rfl rfl ?_
  refine r_eqNilP ?_
  refine r_if (fun e => absurd e (by simp)) (fun _ => ?_)
  unfold Map_ii_Set.j1
  refine r_nil ?_
  refine r_fld ?_
  refine St.r_loadN0 s 0 rfl (by simp) ?_
  refine SetOk.all htb hT0 hT4 hm1 ho k t (E := (t8, 0, enc x) :: (tb, 3, [.int .i64 cnt]) :: E) (pb := tb) (po := 2) fl ha hsz g (s.perm (by ((apply perm_rg; intro f; simp only [List.set_cons_zero, List.set_cons_succ, List.eraseIdx_cons_zero, List.eraseIdx_cons_succ, List.cons_append, List.nil_append, List.map_append, List.map_cons, List.map_nil, List.sum_append, List.sum_cons, List.sum_nil, List.map_flatMap, Nat.add_zero, Nat.zero_add]; ac_rfl)))) fun t' h' h1 h2 h3 s => ?_
  rw [hsp] at h1 ⊢
  simp only [Bool.false_eq_true, ↓reduceIte] at h1
  rw [hgi]
  refine r_ext rfl ?_
  refine r_ext rfl ?_
  refine r_ext rfl ?_
  refine r_if (fun e => absurd e (by simp)) (fun _ => ?_)
  unfold Map_ii_Set.j2
  have hl : t'.pt.items.length = t.pt.items.length + if (lget lt t.pt.items x).isSome then 0 else 1 := by rw [h1, hset, lput_length]
  refine r_if (fun hr => ?_) (fun hr => ?_)
  · rw [hr] at hl
    have s : St h0 Z ((tb, 2, [ptr t'.id 0]) :: (tb, 3, [.int .i64 t'.pt.items.length]) :: (t'.all enc ++ E)) h' := by
      have e : ((t.pt.items.length + if true = true then 0 else 1 : Nat) : Int) = cnt := by rw [hcnt]; simp
      rw [h2, hl, e]
      exact (s.perm (E' := (t8, 0, enc x) :: (tb, 2, [ptr t.id 0]) :: (tb, 3, [.int .i64 cnt]) :: (t'.all enc ++ E)) (by ((apply perm_rg; intro f; simp only [List.set_cons_zero, List.set_cons_succ, List.eraseIdx_cons_zero, List.eraseIdx_cons_succ, List.cons_append, List.nil_append, List.map_append, List.map_cons, List.map_nil, List.sum_append, List.sum_cons, List.sum_nil, List.map_flatMap, Nat.add_zero, Nat.zero_add]; ac_rfl)))).drop 1
    have := H t' h' h1 h3 s
    rw [hr] at this
    exact this
  · rw [hr] at hl
    have hn : lget lt t.pt.items x = none := by cases e : lget lt t.pt.items x with
      | none => rfl
      | some y => rw [e] at hr; cases hr
    unfold Map_ii_Set.j3
    have s : St h0 Z ((tb, 3, [.int .i64 cnt]) :: (tb, 2, [ptr t.id 0]) :: (t8, 0, enc x) :: (t'.all enc ++ E)) h' := s.perm (by ((apply perm_rg; intro f; simp only [List.set_cons_zero, List.set_cons_succ, List.eraseIdx_cons_zero, List.eraseIdx_cons_succ, List.cons_append, List.nil_append, List.map_append, List.map_cons, List.map_nil, List.sum_append, List.sum_cons, List.sum_nil, List.map_flatMap, Nat.add_zero, Nat.zero_add]; ac_rfl)))
    refine r_nil ?_
    refine r_fld ?_
    refine s.r_load1 0 (o := 3) (j := 0) rfl rfl ?_
    refine r_add (z := cnt + 1) (by rw [i64w (by omega) (by omega)]) ?_
    refine r_nil ?_
    refine r_fld ?_
    refine St.r_store1 s 0 (o := 3) (j := 0) rfl (by simp) rfl ?_; intro h s
    refine r_nil ?_
    refine r_fld ?_
    refine r_fld ?_
    refine s.r_lz hT4 0 rfl rfl ?_
    have := H t' h h1 h3 (by
      rw [h2, hl]
      have e : ((t.pt.items.length + if false = true then 0 else 1 : Nat) : Int) = cnt + 1 := by rw [hcnt]; simp
      rw [e]
      exact (s.perm (E' := (t8, 0, enc x) :: (tb, 2, [ptr t.id 0]) :: (tb, 3, [.int .i64 (cnt + 1)]) :: (t'.all enc ++ E)) (by ((apply perm_rg; intro f; simp only [List.set_cons_zero, List.set_cons_succ, List.eraseIdx_cons_zero, List.eraseIdx_cons_succ, List.cons_append, List.nil_append, List.map_append, List.map_cons, List.map_nil, List.sum_append, List.sum_cons, List.sum_nil, List.map_flatMap, Nat.add_zero, Nat.zero_add]; ac_rfl)))).drop 1)
    rw [hn] at this
    exact this

theorem Set_cut {tb m : Nat} {iso mn cnt : Int} {ctr : Option Addr} {x : It} (htb : h0.size ≤ tb) (hT0 : (tb, 0, hd0 iso ctr) ∈ Z) (hT4 : (tb, 4, hd4 mn m) ∈ Z) (hm1 : m ≤ 1024) (hm3 : 3 ≤ m) (ho : m % 2 = 1) {k : Nat} (t : GT It k)
    (fl : t.pt.Fl m 1) (ha : Asc lt t.pt.items) (hsz : t.pt.items.length ≤ 4611686018427387903) (g : Gd iso t) (hcnt : cnt = t.pt.items.length)
    (s : St h0 Z ((tb, 2, [ptr t.id 0]) :: (tb, 3, [.int .i64 cnt]) :: (t.all enc ++ E)) h)
    (H : ∀ (g' : (j : Nat) × GT It j) h', rPt (some g') = MT.set lt m (some ⟨k, t.pt⟩) x → Gd iso g'.2 → St h0 Z ((tb, 2, [ptr g'.2.id 0]) :: (tb, 3, [.int .i64 g'.2.pt.items.length]) :: (g'.2.all enc ++ E)) h' → Q (.tuple #[old (lget lt t.pt.items x), .bool (lget lt t.pt.items x).isSome]) h') :
    Map_ii_Set.call #[ptr tb 0, kv x.1, vv x.2] h Q := by
  have hi : ∀ {E h}, St h0 Z E h → cl h tb 0 = some (.int .u64 iso) := fun s => by have := s.getZ hT0 (j := 0) (by simp); simpa using this
  cases hsp : t.pt.splits lt m x with
  | false =>
    refine Set_noSplit htb hT0 hT4 hm1 ho t fl ha hsz g hcnt hsp s fun t' h' h1 h3 s => H ⟨k, t'⟩ h' ?_ h3 s
    show some (⟨k, t'.pt⟩ : (j : Nat) × PT It j) = _
    unfold MT.set
    simp only [hsp, Bool.false_eq_true, ↓reduceIte, h1]
  | true =>
    obtain ⟨md, hmd, _, fll', fh, _, _, _, _, _⟩ := PT.halves swo ho fl ha hsp
    obtain ⟨g1, g2, g3, g4⟩ := PT.grow_ok swo ho hm3 fl ha hsp
    have hgn : lget lt t.pt.items x = none := PT.splits_get swo fl ha hsp
    have egrow : t.pt.grow m = (([md], [t.pt.lo (m / 2), t.pt.hi (m / 2)]) : List It × List (PT It k)) := by unfold PT.grow; rw [hmd]; rfl
    refine Map_ii_Set.body _ _ _ _ _ ?_
    unfold Map_ii_Set.sh
    (apply r_build; (simp only [fillV, fill1, Value.cells, zeros_succ, zeros_zero, List.size_toArray, List.length_cons, List.length_nil, List.length_append, List.take_succ_cons, List.take_zero, List.take_nil, List.drop_succ_cons, List.drop_zero, List.drop_nil, List.cons_append, List.nil_append, List.append_nil, Nat.reduceAdd, Nat.reduceMul, Nat.reduceLeDiff, Nat.reduceEqDiff, and_self, and_true, true_and, if_true, Nat.le_refl, Nat.zero_add, Nat.add_zero, Nat.zero_mul, reduceIte, if_false] <;> rfl))
    refine s.r_alloc fun t8 h s => ?_
    refine St.r_storeN0 s 0 rfl rfl (by simp) (enc1 x) ?_; intro h s
    refine r_nil ?_
    refine r_fld ?_
    refine s.r_load1 1 (o := 2) (j := 0) rfl rfl ?_
    refine r_eqNilP ?_
    refine r_if (fun e => absurd e (by simp)) (fun _ => ?_)
    unfold Map_ii_Set.j1
    refine r_nil ?_
    refine r_fld ?_
    refine St.r_loadN0 s 0 rfl (by simp) ?_
    refine SetOk.all htb hT0 hT4 hm1 ho k t (E := (t8, 0, enc x) :: (tb, 3, [.int .i64 cnt]) :: E) (pb := tb) (po := 2) fl ha hsz g (s.perm (by ((apply perm_rg; intro f; simp only [List.set_cons_zero, List.set_cons_succ, List.eraseIdx_cons_zero, List.eraseIdx_cons_succ, List.cons_append, List.nil_append, List.map_append, List.map_cons, List.map_nil, List.sum_append, List.sum_cons, List.sum_nil, List.map_flatMap, Nat.add_zero, Nat.zero_add]; ac_rfl)))) fun t' h' h1 h2 h3 s => ?_
    rw [hsp] at h1 ⊢
    simp only [↓reduceIte] at h1
    refine r_ext rfl ?_
    refine r_ext rfl ?_
    refine r_ext rfl ?_
    refine r_if (fun _ => ?_) (fun e => absurd e (by simp))
    refine r_nil ?_
    refine r_fld ?_
    refine s.r_load1 0 (o := 2) (j := 0) rfl rfl ?_
    rw [← h2]
    refine nodeSplit_ok t' (m := m) (E := (tb, 2, [ptr t.id 0]) :: (t8, 0, enc x) :: (tb, 3, [.int .i64 cnt]) :: E) hT0 hT4 (by omega) (by omega) (by rw [h1]; exact fl) (by rw [h1]; exact (PT.splits_len hsp).1) (by rw [h1]; omega) h3 (s.perm (by ((apply perm_rg; intro f; simp only [List.set_cons_zero, List.set_cons_succ, List.eraseIdx_cons_zero, List.eraseIdx_cons_succ, List.cons_append, List.nil_append, List.map_append, List.map_cons, List.map_nil, List.sum_append, List.sum_cons, List.sum_nil, List.map_flatMap, Nat.add_zero, Nat.zero_add]; ac_rfl)))) fun l r md' h hmd' hl hr hlid gl gr s => ?_
    have : md' = md := by rw [h1] at hmd'; exact Option.some.inj (hmd'.symm.trans hmd)
    subst this
    rw [h1] at hl hr
    have s : St h0 Z ((tb, 2, [ptr t.id 0]) :: (t8, 0, enc x) :: (tb, 3, [.int .i64 cnt]) :: (l.all enc ++ (r.all enc ++ E))) h := s.perm (by ((apply perm_rg; intro f; simp only [List.set_cons_zero, List.set_cons_succ, List.eraseIdx_cons_zero, List.eraseIdx_cons_succ, List.cons_append, List.nil_append, List.map_append, List.map_cons, List.map_nil, List.sum_append, List.sum_cons, List.sum_nil, List.map_flatMap, Nat.add_zero, Nat.zero_add]; ac_rfl)))
    refine r_ext rfl ?_
    refine r_ext rfl ?_
    refine s.r_alloc fun t14 h s => ?_
    refine St.r_storeN0 s 0 rfl rfl (by simp) (enc1 _) ?_; intro h s
    refine newNode_inner (hi s) fun n' kb' h s1 => ?_
    have s := s.join s1
    have s : St h0 Z ((n', 0, [.int .u64 iso, .int .i64 0, .slice none 0 0, ptr kb' 0]) :: (kb', 0, [.slice none 0 0]) :: (t14, 0, enc md') :: (tb, 2, [ptr t.id 0]) :: (t8, 0, enc x) :: (tb, 3, [.int .i64 cnt]) :: (l.all enc ++ (r.all enc ++ E))) h := s
    refine r_nil ?_
    refine r_fld ?_
    refine St.r_store1 s 3 (o := 2) (j := 0) rfl (by simp) rfl ?_; intro h s
    refine r_nil ?_
    refine r_fld ?_
    refine s.r_load1 3 (o := 2) (j := 0) rfl rfl ?_
    refine r_nil ?_
    refine r_fld ?_
    refine St.r_load0 s 0 rfl rfl ?_
    refine r_nil ?_
    refine r_fld ?_
    refine s.r_lz hT4 3 rfl rfl ?_
    refine r_add (z := ((m + 1 : Nat) : Int)) (by rw [i64w (by omega) (by omega)]; omega) ?_
    refine s.r_mks (n := 0) rfl (by omega) (by omega) (by omega) fun v b h s w0 => ?_
    refine ⟨s.r_still1 4 (o := 2) (j := 0) rfl rfl, by (first | exact St.r_still0 s 0 rfl rfl | exact St.r_still0 s 1 rfl rfl | exact St.r_still0 s 2 rfl rfl | exact St.r_still0 s 3 rfl rfl | exact St.r_still0 s 4 rfl rfl | exact St.r_still0 s 5 rfl rfl | exact St.r_still0 s 6 rfl rfl), ?_⟩
    refine r_nil ?_
    refine St.r_store0 s 2 rfl (by simp) w0.one ?_; intro h s
    refine r_nil ?_
    refine r_fld ?_
    refine s.r_load1 4 (o := 2) (j := 0) rfl rfl ?_
    refine r_nil ?_
    refine r_fld ?_
    refine St.r_load0 s 1 rfl rfl ?_
    have s : St h0 Z ((n', 0, [.int .u64 iso, .int .i64 0, .slice none 0 0, ptr kb' 0]) :: (kb', 0, [v]) :: (t14, 0, enc md') :: (tb, 2, [ptr n' 0]) :: (t8, 0, enc x) :: (tb, 3, [.int .i64 cnt]) :: (l.all enc ++ (r.all enc ++ E))) h := s.drop 1
    -- what follows the items
    have fin : ∀ {iv kv : Value} {ib io rb ro : Nat} {isp ksp : List Value} {h : Heap}, Own 2 iv 1 ib io (enc md') isp → Own 1 kv 2 rb ro (fp l.id ++ fp r.id) ksp →
        St h0 Z ((n', 0, [.int .u64 iso, .int .i64 0, iv, ptr kb' 0]) :: (ib, io, enc md' ++ isp) :: (kb', 0, [kv]) :: (rb, ro, (fp l.id ++ fp r.id) ++ ksp) :: (tb, 2, [ptr n' 0]) :: (t8, 0, enc x) :: (tb, 3, [.int .i64 cnt]) :: (l.all enc ++ (r.all enc ++ E))) h →
        (nilck (ptr tb 0) fun t118 => fld 2 t118 fun t119 => load1 t119 h fun t120 => mapNode_ii_updateCount.call #[t120] h fun t121 h => fld 1 (ptr t8 0) fun t123 => load1 t123 h fun t124 =>
          fld 0 (ptr t8 0) fun t125 => load1 t125 h fun t126 => Map_ii_Set.call #[ptr tb 0, t124, t126] h fun t127 h => extr 0 t127 fun t128 => extr 1 t127 fun t129 => Q (.tuple #[t128, t129]) h) := by
      intro iv kv ib io rb ro isp ksp h wi wkk s
      have s : St h0 Z ((n', 0, [.int .u64 iso, .int .i64 0, iv, ptr kb' 0]) :: (kb', 0, [kv]) :: (rb, ro, ([l, r].map GT.id).flatMap fp ++ ksp) :: (tb, 2, [ptr n' 0]) :: (ib, io, enc md' ++ isp) :: (t8, 0, enc x) :: (tb, 3, [.int .i64 cnt]) :: (l.all enc ++ (r.all enc ++ E))) h := s.perm (by
        show ((n', 0, [.int .u64 iso, .int .i64 0, iv, ptr kb' 0]) :: (kb', 0, [kv]) :: (rb, ro, (fp l.id ++ fp r.id) ++ ksp) :: _ :: _ :: _ :: _ :: _).Perm _
        ((apply perm_rg; intro f; simp only [List.set_cons_zero, List.set_cons_succ, List.eraseIdx_cons_zero, List.eraseIdx_cons_succ, List.cons_append, List.nil_append, List.map_append, List.map_cons, List.map_nil, List.sum_append, List.sum_cons, List.sum_nil, List.map_flatMap, Nat.add_zero, Nat.zero_add]; ac_rfl)))
      have wkk : Own 1 kv ([l, r].map GT.id).length rb ro (([l, r].map GT.id).flatMap fp) ksp := wkk
      refine r_nil ?_
      refine r_fld ?_
      refine s.r_load1 3 (o := 2) (j := 0) rfl rfl ?_
      have hlr : l.pt.items.length + r.pt.items.length + 1 = t.pt.items.length := by
        rw [hl, hr, PT.cut_items fl hmd, List.length_append, List.length_cons]; omega
      refine updateCount_kids (ts := [l, r]) (len := 1) s wi wkk (fun q hq => ?_) (fun q hq z hz => ?_) (by simp) (by simp; omega) fun h s => ?_
      · simp at hq; rcases hq with e | e <;> subst e
        · exact gl.cn
        · exact gr.cn
      · simp at hq
        simp only [List.mem_cons, List.mem_append]
        rcases hq with e | e <;> subst e
        · exact .inr (.inr (.inr (.inr (.inl hz))))
        · exact .inr (.inr (.inr (.inr (.inr (.inl hz)))))
      · have hcc : 1 + ([l, r].map fun t => t.pt.items.length).sum = t.pt.items.length := by simp; omega
        rw [hcc] at s
        refine r_fld ?_
        refine St.r_load0 s 5 rfl rfl ?_
        refine r_fld ?_
        refine St.r_load0 s 5 rfl rfl ?_
        let tn : GT It (k + 1) := ((⟨true, n', iso, (t.pt.items.length : Int), [md'], iv, ib, io, isp, kb', kv, rb, ro, ksp⟩ : Nd It), [l, r])
        have hpn : tn.pt = t.pt.grow m := by
          rw [egrow]
          show ([md'], [l, r].map GT.pt) = _
          rw [List.map_cons, List.map_cons, List.map_nil, hl, hr]
        have gn : Gd iso tn := Gd.inner (by show Own 2 iv [md'].length ib io ([md'].flatMap enc) isp; simpa using wi) rfl rfl (by simpa using wkk) rfl (fun c hc => by
          have hc : c ∈ [l, r] := hc
          simp at hc; rcases hc with e | e <;> subst e
          · exact gl
          · exact gr) (by show (t.pt.items.length : Int) = (tn.pt.items.length : Int); rw [hpn, g1])
        have s : St h0 Z ((tb, 2, [ptr tn.id 0]) :: (tb, 3, [.int .i64 cnt]) :: (tn.all enc ++ ((t8, 0, enc x) :: E))) h := by
          have s1 : St h0 Z ((tb, 2, [ptr n' 0]) :: (tb, 3, [.int .i64 cnt]) :: (n', 0, [.int .u64 iso, .int .i64 t.pt.items.length, iv, ptr kb' 0]) :: (ib, io, [md'].flatMap enc ++ isp) :: (kb', 0, [kv]) :: (rb, ro, (([l, r].map GT.id).map fun m => ptr m 0) ++ ksp) :: ([l, r].flatMap (GT.all enc) ++ ((t8, 0, enc x) :: E))) h := by
            rw [mfp]
            exact s.perm (by
              rw [List.flatMap_singleton, List.flatMap_cons, List.flatMap_cons, List.flatMap_nil, List.append_nil]; ((apply perm_rg; intro f; simp only [List.set_cons_zero, List.set_cons_succ, List.eraseIdx_cons_zero, List.eraseIdx_cons_succ, List.cons_append, List.nil_append, List.map_append, List.map_cons, List.map_nil, List.sum_append, List.sum_cons, List.sum_nil, List.map_flatMap, Nat.add_zero, Nat.zero_add]; ac_rfl)))
          exact s1
        refine Set_noSplit htb hT0 hT4 hm1 ho tn (by rw [hpn]; exact g2) (by rw [hpn, g1]; exact ha) (by rw [hpn, g1]; exact hsz) gn (by rw [hpn, g1]; exact hcnt) (by rw [hpn]; exact g3) s fun t2 h' e1 e2 s => ?_
        rw [hpn, g1, hgn]
        refine r_ext rfl ?_
        refine r_ext rfl ?_
        have := H ⟨k + 1, t2⟩ h' (by
          show some (⟨k + 1, t2.pt⟩ : (j : Nat) × PT It j) = _
          unfold MT.set
          simp only [hsp, ↓reduceIte, e1, hpn]) e2 ((s.perm (E' := (t8, 0, enc x) :: (tb, 2, [ptr t2.id 0]) :: (tb, 3, [.int .i64 t2.pt.items.length]) :: (t2.all enc ++ E)) (by ((apply perm_rg; intro f; simp only [List.set_cons_zero, List.set_cons_succ, List.eraseIdx_cons_zero, List.eraseIdx_cons_succ, List.cons_append, List.nil_append, List.map_append, List.map_cons, List.map_nil, List.sum_append, List.sum_cons, List.sum_nil, List.map_flatMap, Nat.add_zero, Nat.zero_add]; ac_rfl)))).drop 1)
        rw [hgn] at this
        exact this
    -- what follows the children
    have tail : ∀ {kv : Value} {rb ro : Nat} {ksp : List Value} {h : Heap}, Own 1 kv 2 rb ro (fp l.id ++ fp r.id) ksp →
        St h0 Z ((n', 0, [.int .u64 iso, .int .i64 0, .slice none 0 0, ptr kb' 0]) :: (kb', 0, [kv]) :: (rb, ro, (fp l.id ++ fp r.id) ++ ksp) :: (t14, 0, enc md') :: (tb, 2, [ptr n' 0]) :: (t8, 0, enc x) :: (tb, 3, [.int .i64 cnt]) :: (l.all enc ++ (r.all enc ++ E))) h →
        (nilck (ptr tb 0) fun t108 => fld 2 t108 fun t109 => load1 t109 h fun t110 => loadN 2 (ptr t14 0) h fun t112 =>
          (mkSl (if 0 * 2 = 0 then [] else zeros (enc emp) 0) 0 [] 216 h fun t111 h => still1 t109 t110 h ∧ stillN 2 (ptr t14 0) t112 h ∧ mkSl (if 1 * 2 = 0 then [] else zeros (enc emp) 1) 1 [(0 * 2, 2, t112)] 216 h fun t113 h =>
            still1 t109 t110 h ∧ app 216 2 16 (enc emp) t111 t113 h fun t114 h => still1 t109 t110 h ∧ nilck t110 fun t115 => fld 2 t115 fun t116 => store1 t116 t114 h fun h =>
            nilck (ptr tb 0) fun t118 => fld 2 t118 fun t119 => load1 t119 h fun t120 => mapNode_ii_updateCount.call #[t120] h fun t121 h => fld 1 (ptr t8 0) fun t123 => load1 t123 h fun t124 =>
            fld 0 (ptr t8 0) fun t125 => load1 t125 h fun t126 => Map_ii_Set.call #[ptr tb 0, t124, t126] h fun t127 h => extr 0 t127 fun t128 => extr 1 t127 fun t129 => Q (.tuple #[t128, t129]) h) ∧
          (mkSl (if 1 * 2 = 0 then [] else zeros (enc emp) 1) 1 [(0 * 2, 2, t112)] 216 h fun t113 h => still1 t109 t110 h ∧ mkSl (if 0 * 2 = 0 then [] else zeros (enc emp) 0) 0 [] 216 h fun t111 h =>
            still1 t109 t110 h ∧ app 216 2 16 (enc emp) t111 t113 h fun t114 h => still1 t109 t110 h ∧ nilck t110 fun t115 => fld 2 t115 fun t116 => store1 t116 t114 h fun h =>
            nilck (ptr tb 0) fun t118 => fld 2 t118 fun t119 => load1 t119 h fun t120 => mapNode_ii_updateCount.call #[t120] h fun t121 h => fld 1 (ptr t8 0) fun t123 => load1 t123 h fun t124 =>
            fld 0 (ptr t8 0) fun t125 => load1 t125 h fun t126 => Map_ii_Set.call #[ptr tb 0, t124, t126] h fun t127 h => extr 0 t127 fun t128 => extr 1 t127 fun t129 => Q (.tuple #[t128, t129]) h)) := by
      intro kv rb ro ksp h wkk s
      refine r_nil ?_
      refine r_fld ?_
      refine s.r_load1 4 (o := 2) (j := 0) rfl rfl ?_
      refine St.r_loadN0 s 3 rfl (by simp) ?_
      constructor
      · refine St.r_mkSl (sz := 2) (cs := []) s (by ((simp only [fillV, fill1, Value.cells, zeros_succ, zeros_zero, List.size_toArray, List.length_cons, List.length_nil, List.length_append, List.take_succ_cons, List.take_zero, List.take_nil, List.drop_succ_cons, List.drop_zero, List.drop_nil, List.cons_append, List.nil_append, List.append_nil, Nat.reduceAdd, Nat.reduceMul, Nat.reduceLeDiff, Nat.reduceEqDiff, and_self, and_true, true_and, if_true, Nat.le_refl, Nat.zero_add, Nat.add_zero, Nat.zero_mul, reduceIte, if_false] <;> rfl))) rfl fun q1 h s w1 => ?_
        refine ⟨s.r_still1 5 (o := 2) (j := 0) rfl rfl, St.r_stillN0 s 4 rfl (by simp) rfl, ?_⟩
        refine St.r_mkSl (sz := 2) (cs := enc md') s (by ((simp only [fillV, fill1, Value.cells, zeros_succ, zeros_zero, List.size_toArray, List.length_cons, List.length_nil, List.length_append, List.take_succ_cons, List.take_zero, List.take_nil, List.drop_succ_cons, List.drop_zero, List.drop_nil, List.cons_append, List.nil_append, List.append_nil, Nat.reduceAdd, Nat.reduceMul, Nat.reduceLeDiff, Nat.reduceEqDiff, and_self, and_true, true_and, if_true, Nat.le_refl, Nat.zero_add, Nat.add_zero, Nat.zero_mul, reduceIte, if_false] <;> rfl))) rfl fun q2 h s w2 => ?_
        refine ⟨s.r_still1 6 (o := 2) (j := 0) rfl rfl, ?_⟩
        refine St.r_app s 1 (sz := 2) (n := 1) (new := enc md') rfl w1 rfl (w2.rdl s 0 rfl) (enc1 _) (by omega) (by omega) fun iv ib io isp h s wi => ?_
        refine ⟨s.r_still1 6 (o := 2) (j := 0) rfl rfl, ?_⟩
        refine r_nil ?_
        refine r_fld ?_
        refine St.r_store0 s 2 rfl (by simp) wi.one ?_; intro h s
        exact fin wi wkk ((s.perm (E' := (q2, 0, enc md' ++ []) :: (t14, 0, enc md') :: _) (by simp; ((apply perm_rg; intro f; simp only [List.set_cons_zero, List.set_cons_succ, List.eraseIdx_cons_zero, List.eraseIdx_cons_succ, List.cons_append, List.nil_append, List.map_append, List.map_cons, List.map_nil, List.sum_append, List.sum_cons, List.sum_nil, List.map_flatMap, Nat.add_zero, Nat.zero_add]; ac_rfl)))).drop 2)
      · refine St.r_mkSl (sz := 2) (cs := enc md') s (by ((simp only [fillV, fill1, Value.cells, zeros_succ, zeros_zero, List.size_toArray, List.length_cons, List.length_nil, List.length_append, List.take_succ_cons, List.take_zero, List.take_nil, List.drop_succ_cons, List.drop_zero, List.drop_nil, List.cons_append, List.nil_append, List.append_nil, Nat.reduceAdd, Nat.reduceMul, Nat.reduceLeDiff, Nat.reduceEqDiff, and_self, and_true, true_and, if_true, Nat.le_refl, Nat.zero_add, Nat.add_zero, Nat.zero_mul, reduceIte, if_false] <;> rfl))) rfl fun q2 h s w2 => ?_
        refine ⟨s.r_still1 5 (o := 2) (j := 0) rfl rfl, ?_⟩
        refine St.r_mkSl (sz := 2) (cs := []) s (by ((simp only [fillV, fill1, Value.cells, zeros_succ, zeros_zero, List.size_toArray, List.length_cons, List.length_nil, List.length_append, List.take_succ_cons, List.take_zero, List.take_nil, List.drop_succ_cons, List.drop_zero, List.drop_nil, List.cons_append, List.nil_append, List.append_nil, Nat.reduceAdd, Nat.reduceMul, Nat.reduceLeDiff, Nat.reduceEqDiff, and_self, and_true, true_and, if_true, Nat.le_refl, Nat.zero_add, Nat.add_zero, Nat.zero_mul, reduceIte, if_false] <;> rfl))) rfl fun q1 h s w1 => ?_
        refine ⟨s.r_still1 6 (o := 2) (j := 0) rfl rfl, ?_⟩
        refine St.r_app s 0 (sz := 2) (n := 1) (new := enc md') rfl w1 rfl (w2.rdl s 1 rfl) (enc1 _) (by omega) (by omega) fun iv ib io isp h s wi => ?_
        refine ⟨s.r_still1 6 (o := 2) (j := 0) rfl rfl, ?_⟩
        refine r_nil ?_
        refine r_fld ?_
        refine St.r_store0 s 2 rfl (by simp) wi.one ?_; intro h s
        exact fin wi wkk ((s.perm (E' := (q2, 0, enc md' ++ []) :: (t14, 0, enc md') :: _) (by simp; ((apply perm_rg; intro f; simp only [List.set_cons_zero, List.set_cons_succ, List.eraseIdx_cons_zero, List.eraseIdx_cons_succ, List.cons_append, List.nil_append, List.map_append, List.map_cons, List.map_nil, List.sum_append, List.sum_cons, List.sum_nil, List.map_flatMap, Nat.add_zero, Nat.zero_add]; ac_rfl)))).drop 2)
    constructor
    · refine St.r_mkSl (sz := 1) (cs := []) s (by ((simp only [fillV, fill1, Value.cells, zeros_succ, zeros_zero, List.size_toArray, List.length_cons, List.length_nil, List.length_append, List.take_succ_cons, List.take_zero, List.take_nil, List.drop_succ_cons, List.drop_zero, List.drop_nil, List.cons_append, List.nil_append, List.append_nil, Nat.reduceAdd, Nat.reduceMul, Nat.reduceLeDiff, Nat.reduceEqDiff, and_self, and_true, true_and, if_true, Nat.le_refl, Nat.zero_add, Nat.add_zero, Nat.zero_mul, reduceIte, if_false] <;> rfl))) rfl fun q1 h s w1 => ?_
      refine ⟨s.r_still1 4 (o := 2) (j := 0) rfl rfl, by (first | exact St.r_still0 s 0 rfl rfl | exact St.r_still0 s 1 rfl rfl | exact St.r_still0 s 2 rfl rfl | exact St.r_still0 s 3 rfl rfl | exact St.r_still0 s 4 rfl rfl | exact St.r_still0 s 5 rfl rfl | exact St.r_still0 s 6 rfl rfl), ?_⟩
      refine St.r_mkSl (sz := 1) (cs := fp l.id ++ fp r.id) s (by rw [hlid]; ((simp only [fillV, fill1, Value.cells, zeros_succ, zeros_zero, List.size_toArray, List.length_cons, List.length_nil, List.length_append, List.take_succ_cons, List.take_zero, List.take_nil, List.drop_succ_cons, List.drop_zero, List.drop_nil, List.cons_append, List.nil_append, List.append_nil, Nat.reduceAdd, Nat.reduceMul, Nat.reduceLeDiff, Nat.reduceEqDiff, and_self, and_true, true_and, if_true, Nat.le_refl, Nat.zero_add, Nat.add_zero, Nat.zero_mul, reduceIte, if_false] <;> rfl))) rfl fun q2 h s w2 => ?_
      refine ⟨s.r_still1 5 (o := 2) (j := 0) rfl rfl, by (first | exact St.r_still0 s 0 rfl rfl | exact St.r_still0 s 1 rfl rfl | exact St.r_still0 s 2 rfl rfl | exact St.r_still0 s 3 rfl rfl | exact St.r_still0 s 4 rfl rfl | exact St.r_still0 s 5 rfl rfl | exact St.r_still0 s 6 rfl rfl), ?_⟩
      refine St.r_app s 1 (sz := 1) (n := 2) (new := fp l.id ++ fp r.id) rfl w1 rfl (w2.rdl s 0 rfl) (by simp [one1]) (by omega) (by omega) fun kv rb ro ksp h s wkk => ?_
      refine ⟨s.r_still1 5 (o := 2) (j := 0) rfl rfl, by (first | exact St.r_still0 s 0 rfl rfl | exact St.r_still0 s 1 rfl rfl | exact St.r_still0 s 2 rfl rfl | exact St.r_still0 s 3 rfl rfl | exact St.r_still0 s 4 rfl rfl | exact St.r_still0 s 5 rfl rfl | exact St.r_still0 s 6 rfl rfl), ?_⟩
      refine r_nil ?_
      refine St.r_store0 s 3 rfl (by simp) wkk.one ?_; intro h s
      exact tail wkk ((s.perm (E' := (q2, 0, fp l.id ++ fp r.id ++ []) :: _) (by simp; ((apply perm_rg; intro f; simp only [List.set_cons_zero, List.set_cons_succ, List.eraseIdx_cons_zero, List.eraseIdx_cons_succ, List.cons_append, List.nil_append, List.map_append, List.map_cons, List.map_nil, List.sum_append, List.sum_cons, List.sum_nil, List.map_flatMap, Nat.add_zero, Nat.zero_add]; ac_rfl)))).drop 1)
    · refine St.r_mkSl (sz := 1) (cs := fp l.id ++ fp r.id) s (by rw [hlid]; ((simp only [fillV, fill1, Value.cells, zeros_succ, zeros_zero, List.size_toArray, List.length_cons, List.length_nil, List.length_append, List.take_succ_cons, List.take_zero, List.take_nil, List.drop_succ_cons, List.drop_zero, List.drop_nil, List.cons_append, List.nil_append, List.append_nil, Nat.reduceAdd, Nat.reduceMul, Nat.reduceLeDiff, Nat.reduceEqDiff, and_self, and_true, true_and, if_true, Nat.le_refl, Nat.zero_add, Nat.add_zero, Nat.zero_mul, reduceIte, if_false] <;> rfl))) rfl fun q2 h s w2 => ?_
      refine ⟨s.r_still1 4 (o := 2) (j := 0) rfl rfl, by (first | exact St.r_still0 s 0 rfl rfl | exact St.r_still0 s 1 rfl rfl | exact St.r_still0 s 2 rfl rfl | exact St.r_still0 s 3 rfl rfl | exact St.r_still0 s 4 rfl rfl | exact St.r_still0 s 5 rfl rfl | exact St.r_still0 s 6 rfl rfl), ?_⟩
      refine St.r_mkSl (sz := 1) (cs := []) s (by ((simp only [fillV, fill1, Value.cells, zeros_succ, zeros_zero, List.size_toArray, List.length_cons, List.length_nil, List.length_append, List.take_succ_cons, List.take_zero, List.take_nil, List.drop_succ_cons, List.drop_zero, List.drop_nil, List.cons_append, List.nil_append, List.append_nil, Nat.reduceAdd, Nat.reduceMul, Nat.reduceLeDiff, Nat.reduceEqDiff, and_self, and_true, true_and, if_true, Nat.le_refl, Nat.zero_add, Nat.add_zero, Nat.zero_mul, reduceIte, if_false] <;> rfl))) rfl fun q1 h s w1 => ?_
      refine ⟨s.r_still1 5 (o := 2) (j := 0) rfl rfl, by (first | exact St.r_still0 s 0 rfl rfl | exact St.r_still0 s 1 rfl rfl | exact St.r_still0 s 2 rfl rfl | exact St.r_still0 s 3 rfl rfl | exact St.r_still0 s 4 rfl rfl | exact St.r_still0 s 5 rfl rfl | exact St.r_still0 s 6 rfl rfl), ?_⟩
      refine St.r_app s 0 (sz := 1) (n := 2) (new := fp l.id ++ fp r.id) rfl w1 rfl (w2.rdl s 1 rfl) (by simp [one1]) (by omega) (by omega) fun kv rb ro ksp h s wkk => ?_
      refine ⟨s.r_still1 5 (o := 2) (j := 0) rfl rfl, by (first | exact St.r_still0 s 0 rfl rfl | exact St.r_still0 s 1 rfl rfl | exact St.r_still0 s 2 rfl rfl | exact St.r_still0 s 3 rfl rfl | exact St.r_still0 s 4 rfl rfl | exact St.r_still0 s 5 rfl rfl | exact St.r_still0 s 6 rfl rfl), ?_⟩
      refine r_nil ?_
      refine St.r_store0 s 3 rfl (by simp) wkk.one ?_; intro h s
      exact tail wkk ((s.perm (E' := (q2, 0, fp l.id ++ fp r.id ++ []) :: _) (by simp; ((apply perm_rg; intro f; simp only [List.set_cons_zero, List.set_cons_succ, List.eraseIdx_cons_zero, List.eraseIdx_cons_succ, List.cons_append, List.nil_append, List.map_append, List.map_cons, List.map_nil, List.sum_append, List.sum_cons, List.sum_nil, List.map_flatMap, Nat.add_zero, Nat.zero_add]; ac_rfl)))).drop 1)
end Go.Proofs.Ytkkappjbcgnacaa.Ii
end
section
namespace Go.Proofs.Ytkkappjbcgnacaa.Ii
open Go.Hp Go.Proofs.Ytkkappjbcgnacaa
set_option linter.unusedVariables false
set_option linter.unusedSimpArgs false
set_option maxHeartbeats 4000000
variable {h0 h : Heap} {Z E : List Rg} {Q : Value → Heap → Prop}

def GT.kp : {k : Nat} → GT It k → Value
  | 0, _ => .pointer none
  | _ + 1, t => ptr t.1.kb 0
def GT.rest : {k : Nat} → GT It k → List Rg
  | 0, _ => []
  | _ + 1, t => (t.1.kb, 0, [t.1.kv]) :: (t.1.krb, t.1.kro, ((t.2.map GT.id).map pp).flatMap fv ++ t.1.ksp) :: t.2.flatMap (GT.all enc)
theorem all_eq : ∀ {k : Nat} (t : GT It k), t.all enc = (t.id, 0, [.int .u64 t.nd.iso, .int .i64 t.nd.cnt, t.nd.iv, GT.kp t]) :: (t.nd.ib, t.nd.io, t.nd.its.flatMap enc ++ t.nd.isp) :: GT.rest t
  | 0, _ => rfl
  | _ + 1, t => by
    have e : GT.rest (k := _ + 1) t = (t.1.kb, 0, [t.1.kv]) :: (t.1.krb, t.1.kro, ((t.2.map GT.id).map pp).flatMap fv ++ t.1.ksp) :: t.2.flatMap (GT.all enc) := rfl
    rw [e, flat_fv]; rfl
theorem Gd.own {iso : Int} : ∀ {k : Nat} {t : GT It k}, Gd iso t → Own 2 t.nd.iv t.nd.its.length t.nd.ib t.nd.io (t.nd.its.flatMap enc) t.nd.isp
  | 0, _, g => g.wf.1
  | _ + 1, _, g => g.wf.1.1
theorem Gd.iso {iso : Int} : ∀ {k : Nat} {t : GT It k}, Gd iso t → t.nd.iso = iso
  | 0, _, g => g.wf.2.1 g.mine
  | _ + 1, _, g => g.wf.1.2.1 g.mine.1
theorem Gd.ownK {iso : Int} {k : Nat} {t : GT It (k + 1)} (g : Gd iso t) : Own 1 t.1.kv ((t.2.map GT.id).map pp).length t.1.krb t.1.kro (((t.2.map GT.id).map pp).flatMap fv) t.1.ksp := by
  have := g.wf.2.1
  rw [flat_fv, List.length_map, List.length_map]; exact this
theorem Gd.cntEq {iso : Int} {k : Nat} {t : GT It k} (g : Gd iso t) : t.nd.cnt = t.pt.items.length := g.cn.cnt
theorem fl_its {m lo : Nat} : ∀ {k : Nat} {t : GT It k}, t.pt.Fl m lo → lo ≤ t.nd.its.length ∧ t.nd.its.length ≤ m
  | 0, _, f => f
  | _ + 1, _, f => ⟨f.1, f.2.1⟩
/-- Of a node and its kids: a tree of the given parts. -/
theorem mk_inner {iso : Int} {k n ib io kb krb kro : Nat} {its : List It} {iv kv : Value} {isp ksp : List Value} {ts : List (GT It k)} (w : Own 2 iv its.length ib io (its.flatMap enc) isp) (wK : Own 1 kv ((ts.map GT.id).map pp).length krb kro (((ts.map GT.id).map pp).flatMap fv) ksp)
    (hl : ts.length = its.length + 1) (hk : ∀ c ∈ ts, Gd iso c) : ∃ t : GT It (k + 1), t.id = n ∧ Gd iso t ∧ t.pt = (its, ts.map GT.pt) ∧ t.nd.its = its ∧
      t.all enc = (n, 0, [.int .u64 iso, .int .i64 (PT.items (h := k + 1) (its, ts.map GT.pt)).length, iv, ptr kb 0]) :: (ib, io, its.flatMap enc ++ isp) :: (kb, 0, [kv]) :: (krb, kro, ((ts.map GT.id).map pp).flatMap fv ++ ksp) :: ts.flatMap (GT.all enc) := by
  refine ⟨((⟨true, n, iso, (PT.items (h := k + 1) (its, ts.map GT.pt)).length, its, iv, ib, io, isp, kb, kv, krb, kro, ksp⟩ : Nd It), ts), rfl, Gd.inner w rfl rfl ?_ hl hk rfl, rfl, rfl, ?_⟩
  · rw [flat_fv, List.length_map, List.length_map] at wK
    rw [← mfp]; exact wK
  · show Nd.inner enc _ (ts.map GT.id) ++ ts.flatMap (GT.all enc) = _
    unfold Nd.inner
    rw [flat_fv]; rfl
theorem mk_leaf {iso : Int} {n ib io : Nat} {its : List It} {iv : Value} {isp : List Value} (w : Own 2 iv its.length ib io (its.flatMap enc) isp) : ∃ t : GT It 0, t.id = n ∧ Gd iso t ∧ t.pt = its ∧ t.nd.its = its ∧
      t.all enc = [(n, 0, [.int .u64 iso, .int .i64 its.length, iv, .pointer none]), (ib, io, its.flatMap enc ++ isp)] :=
  ⟨(⟨true, n, iso, its.length, its, iv, ib, io, isp, 0, .pointer none, 0, 0, []⟩ : Nd It), rfl, Gd.leaf w rfl rfl rfl, rfl, rfl, rfl⟩
theorem ids_pp {k : Nat} (A B : List (GT It k)) (l r : GT It k) : (((A ++ l :: r :: B).map GT.id).map pp) = (A.map GT.id).map pp ++ pp l.id :: pp r.id :: (B.map GT.id).map pp := by simp
theorem ids_one {k : Nat} (A B : List (GT It k)) (l : GT It k) : (((A ++ l :: B).map GT.id).map pp) = (A.map GT.id).map pp ++ pp l.id :: (B.map GT.id).map pp := by simp
theorem two_of {β : Type} {ts : List β} {j : Nat} (h : j + 1 < ts.length) : ∃ A l r B, ts = A ++ l :: r :: B ∧ A.length = j :=
  ⟨ts.take j, ts[j], ts[j + 1], ts.drop (j + 2), by
    rw [← List.drop_eq_getElem_cons h, ← List.drop_eq_getElem_cons (by omega), List.take_append_drop], by rw [List.length_take]; omega⟩
theorem one_of {β : Type} {ts : List β} {j : Nat} (h : j < ts.length) : ∃ A l B, ts = A ++ l :: B ∧ A.length = j :=
  ⟨ts.take j, ts[j], ts.drop (j + 1), by rw [← List.drop_eq_getElem_cons h, List.take_append_drop], by rw [List.length_take]; omega⟩

/-- What mending leaves. -/
def Mended (iso : Int) (m j : Nat) {k : Nat} (t t' : GT It (k + 1)) : Prop := t'.id = t.id ∧ t'.pt.items = t.pt.items ∧ t'.pt.Fl m (t.pt.1.length - 1) ∧ Gd iso t' ∧ t'.pt = PT.mendAt m t.pt j

theorem mended_two {iso : Int} {m j k : Nat} {A B : List (GT It k)} {l r l' r' : GT It k} {P S : List It} {y z : It} {t t' : GT It (k + 1)} (e : t.pt = (P ++ y :: S, (A ++ l :: r :: B).map GT.pt)) (e' : t'.pt = (P ++ z :: S, (A ++ l' :: r' :: B).map GT.pt)) (hA : A.length = P.length) (hB : B.length = S.length)
    (hi : t'.id = t.id) (g' : Gd iso t') (hab : ∀ c ∈ A ++ B, PT.Fl m (m / 2) c.pt) (hlm : t.pt.1.length ≤ m) (fl : l'.pt.Fl m (m / 2)) (fr : r'.pt.Fl m (m / 2)) (hx : l.pt.items ++ y :: r.pt.items = l'.pt.items ++ z :: r'.pt.items) (hPj : P.length = j)
    (hs : ¬ l.nd.its.length + r.nd.its.length < m ∧ ((r.nd.its.length < l.nd.its.length ∧ PT.shR y l.pt r.pt = (l'.pt, z, r'.pt)) ∨ (¬ r.nd.its.length < l.nd.its.length ∧ PT.shL y l.pt r.pt = (l'.pt, z, r'.pt)))) : Mended iso m j t t' := by
  refine ⟨hi, ?_, ?_, g', ?_⟩
  rotate_right
  · have e1 : t.pt = (P ++ y :: S, A.map GT.pt ++ l.pt :: r.pt :: B.map GT.pt) := e.trans (congrArg (Prod.mk (P ++ y :: S)) (by rw [List.map_append, List.map_cons, List.map_cons]))
    have e2 : t'.pt = (P ++ z :: S, A.map GT.pt ++ l'.pt :: r'.pt :: B.map GT.pt) := e'.trans (congrArg (Prod.mk (P ++ z :: S)) (by rw [List.map_append, List.map_cons, List.map_cons]))
    have key := PT.mendAt_eq (m := m) (S := S) (A := A.map GT.pt) (B := B.map GT.pt) (y := y) (l := l.pt) (r := r.pt) hPj (by rw [List.length_map]; omega)
    rw [GT.pt_its, GT.pt_its, if_neg hs.1] at key
    rw [e1, e2]
    refine Eq.trans ?_ key.symm
    rcases hs.2 with ⟨h1, h2⟩ | ⟨h1, h2⟩
    · (rw [if_pos h1, h2]) <;> rfl
    · (rw [if_neg h1, h2]) <;> rfl
  · have e1 : t.pt = (P ++ y :: S, A.map GT.pt ++ l.pt :: r.pt :: B.map GT.pt) := e.trans (congrArg (Prod.mk (P ++ y :: S)) (by rw [List.map_append, List.map_cons, List.map_cons]))
    have e2 : t'.pt = (P ++ z :: S, A.map GT.pt ++ l'.pt :: r'.pt :: B.map GT.pt) := e'.trans (congrArg (Prod.mk (P ++ z :: S)) (by rw [List.map_append, List.map_cons, List.map_cons]))
    rw [e1, e2, PT.items_two _ _ _ _ _ _ _ (by rw [List.length_map]; exact hA) (by rw [List.length_map]; exact hB), PT.items_two _ _ _ _ _ _ _ (by rw [List.length_map]; exact hA) (by rw [List.length_map]; exact hB)]
    have h2 := congrArg (fun q => lz P ((A.map GT.pt).map PT.items) ++ (q ++ rz S ((B.map GT.pt).map PT.items))) hx
    simp only [List.append_assoc, List.cons_append] at h2 ⊢
    exact h2.symm
  · rw [e] at hlm ⊢
    rw [e']
    have hl : (P ++ y :: S).length ≤ m := hlm
    simp only [List.length_append, List.length_cons] at hl
    refine ⟨by show (P ++ y :: S).length - 1 ≤ (P ++ z :: S).length; simp, by show (P ++ z :: S).length ≤ m; simp; omega, by show ((A ++ l' :: r' :: B).map GT.pt).length = (P ++ z :: S).length + 1; simp; omega, fun c hc => ?_⟩
    obtain ⟨q, hq, rfl⟩ := List.mem_map.1 hc
    rcases List.mem_append.1 hq with h | h
    · exact hab q (List.mem_append.2 (.inl h))
    · rcases List.mem_cons.1 h with h | h
      · subst h; exact fl
      · rcases List.mem_cons.1 h with h | h
        · subst h; exact fr
        · exact hab q (List.mem_append.2 (.inr h))
theorem mended_one {iso : Int} {m j k : Nat} {A B : List (GT It k)} {l r l' : GT It k} {P S : List It} {y : It} {t t' : GT It (k + 1)} (e : t.pt = (P ++ y :: S, (A ++ l :: r :: B).map GT.pt)) (e' : t'.pt = (P ++ S, (A ++ l' :: B).map GT.pt)) (hA : A.length = P.length) (hB : B.length = S.length)
    (hi : t'.id = t.id) (g' : Gd iso t') (hab : ∀ c ∈ A ++ B, PT.Fl m (m / 2) c.pt) (hlm : t.pt.1.length ≤ m) (fl : l'.pt.Fl m (m / 2)) (hx : l.pt.items ++ y :: r.pt.items = l'.pt.items) (hPj : P.length = j) (hs : l.nd.its.length + r.nd.its.length < m ∧ PT.join2 y l.pt r.pt = l'.pt) : Mended iso m j t t' := by
  refine ⟨hi, ?_, ?_, g', ?_⟩
  rotate_right
  · have e1 : t.pt = (P ++ y :: S, A.map GT.pt ++ l.pt :: r.pt :: B.map GT.pt) := e.trans (congrArg (Prod.mk (P ++ y :: S)) (by rw [List.map_append, List.map_cons, List.map_cons]))
    have e2 : t'.pt = (P ++ S, A.map GT.pt ++ l'.pt :: B.map GT.pt) := e'.trans (congrArg (Prod.mk (P ++ S)) (by rw [List.map_append, List.map_cons]))
    have key := PT.mendAt_eq (m := m) (S := S) (A := A.map GT.pt) (B := B.map GT.pt) (y := y) (l := l.pt) (r := r.pt) hPj (by rw [List.length_map]; omega)
    rw [GT.pt_its, GT.pt_its, if_pos hs.1, hs.2] at key
    rw [e1, e2]
    exact key.symm
  · have e1 : t.pt = (P ++ y :: S, A.map GT.pt ++ l.pt :: r.pt :: B.map GT.pt) := e.trans (congrArg (Prod.mk (P ++ y :: S)) (by rw [List.map_append, List.map_cons, List.map_cons]))
    have e2 : t'.pt = (P ++ S, A.map GT.pt ++ l'.pt :: B.map GT.pt) := e'.trans (congrArg (Prod.mk (P ++ S)) (by rw [List.map_append, List.map_cons]))
    rw [e1, e2, PT.items_two _ _ _ _ _ _ _ (by rw [List.length_map]; exact hA) (by rw [List.length_map]; exact hB), PT.items_one _ _ _ _ _ (by rw [List.length_map]; exact hA) (by rw [List.length_map]; exact hB), ← hx]
    simp only [List.append_assoc, List.cons_append]
  · rw [e] at hlm ⊢
    rw [e']
    have hl : (P ++ y :: S).length ≤ m := hlm
    simp only [List.length_append, List.length_cons] at hl
    refine ⟨by show (P ++ y :: S).length - 1 ≤ (P ++ S).length; simp, by show (P ++ S).length ≤ m; simp; omega, by show ((A ++ l' :: B).map GT.pt).length = (P ++ S).length + 1; simp; omega, fun c hc => ?_⟩
    obtain ⟨q, hq, rfl⟩ := List.mem_map.1 hc
    rcases List.mem_append.1 hq with h | h
    · exact hab q (List.mem_append.2 (.inl h))
    · rcases List.mem_cons.1 h with h | h
      · subst h; exact fl
      · exact hab q (List.mem_append.2 (.inr h))
end Go.Proofs.Ytkkappjbcgnacaa.Ii
end
