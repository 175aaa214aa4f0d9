/-
  Texts of this claim, laid together: S4 S5 Kz G0 Ga Gb Gc Gd Ge Gf Gg Gq Gr Gs Gt Gu Gv Gh.
  Conditions: as each of them tells.
-/
import Derived.Test.YtgnnidefbeoibaaGreatRGCountedB2
section
namespace Go.Proofs.YtgnnidefbeoibaaGreat
open Go.Hp
set_option maxRecDepth 100000
set_option maxHeartbeats 8000000
set_option linter.unusedVariables false
set_option linter.unusedSimpArgs false

/-! ### (*pub/tidwallbtree.BTreeG[impl.Item]).setHint -/
def BTreeG_I_setHint.j3 (s0 s6 : Value) (h : Heap) (Q : Value → Heap → Prop) : Prop := nilck s0 fun b=>fld 3 b fun d=>load1 d h fun g=>arith (· + ·) g (.int .i64 1) fun i=>nilck s0 fun j=>fld 3 j fun k=>store1 k i h fun h=>nilck s0 fun l=>fld 7 l fun m=>loadN 2 m h fun n=>storeN 2 s6 n h fun h=>loadN 2 s6 h fun o=>Q (.tuple #[o, (.bool false)]) h
def BTreeG_I_setHint.j2 (s0 s6 s7 : Value) (h : Heap) (Q : Value → Heap → Prop) : Prop := ifV s7 (loadN 2 s6 h fun b=>storeN 2 s6 b h fun h=>loadN 2 s6 h fun d=>Q (.tuple #[d, (.bool true)]) h) (BTreeG_I_setHint.j3 s0 s6 h Q)
def BTreeG_I_setHint.j1 (s0 s2 s4 s6 : Value) (h : Heap) (Q : Value → Heap → Prop) : Prop := nilck s0 fun b=>fld 2 b fun d=>loadN 2 s4 h fun g=>BTreeG_I_nodeSet.call #[s0, d, g, s2, (.int .i64 0)] h fun i h=>extr 0 i fun j=>extr 1 i fun k=>extr 2 i fun l=>storeN 2 s6 j h fun h=>ifV l (nilck s0 fun m=>fld 2 m fun n=>BTreeG_I_isoLoad.call #[s0, n, (.bool true)] h fun o h=>BTreeG_I_nodeSplit.call #[s0, o] h fun p h=>extr 0 p fun q=>extr 1 p fun u=>alloc [(.int .i64 0), (.int .i64 0)] 45 h fun v h=>storeN 2 v u h fun h=>BTreeG_I_newNode.call #[s0, (.bool false)] h fun w h=>nilck s0 fun x=>fld 2 x fun y=>store1 y w h fun h=>nilck s0 fun z=>fld 2 z fun b0=>load1 b0 h fun b1=>nilck b1 fun b2=>fld 3 b2 fun b3=>load1 b3 h fun b4=>nilck s0 fun b5=>fld 9 b5 fun b6=>load1 b6 h fun b7=>arith (· + ·) b7 (.int .i64 1) fun b8=>mks 76 1 8 [(.pointer none)] (.int .i64 0) b8 h fun b9 h=>still1 b0 b1 h ∧ still1 b3 b4 h ∧ nilck b4 fun d0=>store1 d0 b9 h fun h=>nilck s0 fun d1=>fld 2 d1 fun d2=>load1 d2 h fun d3=>nilck d3 fun d4=>fld 3 d4 fun d5=>load1 d5 h fun d6=>(mkSl (if 0 * 1 = 0 then [] else zeros [(.pointer none)] 0) 0 [] 76 h fun d7 h=>still1 d2 d3 h ∧ still1 d5 d6 h ∧ mkSl (if 2 * 1 = 0 then [] else zeros [(.pointer none)] 2) 2 [(0 * 1, 1, o), (1 * 1, 1, q)] 76 h fun d8 h=>still1 d2 d3 h ∧ still1 d5 d6 h ∧ app 76 1 8 [(.pointer none)] d7 d8 h fun d9 h=>still1 d2 d3 h ∧ still1 d5 d6 h ∧ nilck d6 fun g0=>store1 g0 d9 h fun h=>nilck s0 fun g1=>fld 2 g1 fun g2=>load1 g2 h fun g3=>loadN 2 v h fun g4=>(mkSl (if 0 * 2 = 0 then [] else zeros [(.int .i64 0), (.int .i64 0)] 0) 0 [] 45 h fun g5 h=>still1 g2 g3 h ∧ stillN 2 v g4 h ∧ mkSl (if 1 * 2 = 0 then [] else zeros [(.int .i64 0), (.int .i64 0)] 1) 1 [(0 * 2, 2, g4)] 45 h fun g6 h=>still1 g2 g3 h ∧ app 45 2 16 [(.int .i64 0), (.int .i64 0)] g5 g6 h fun g7 h=>still1 g2 g3 h ∧ nilck g3 fun g8=>fld 2 g8 fun g9=>store1 g9 g7 h fun h=>nilck s0 fun i0=>fld 2 i0 fun i1=>load1 i1 h fun i2=>node_I_updateCount.call #[i2] h fun i3 h=>loadN 2 s4 h fun i4=>BTreeG_I_setHint.call #[s0, i4, s2] h fun i5 h=>extr 0 i5 fun i6=>extr 1 i5 fun i7=>storeN 2 s6 i6 h fun h=>loadN 2 s6 h fun i8=>Q (.tuple #[i8, i7]) h) ∧ (mkSl (if 1 * 2 = 0 then [] else zeros [(.int .i64 0), (.int .i64 0)] 1) 1 [(0 * 2, 2, g4)] 45 h fun i9 h=>still1 g2 g3 h ∧ mkSl (if 0 * 2 = 0 then [] else zeros [(.int .i64 0), (.int .i64 0)] 0) 0 [] 45 h fun j0 h=>still1 g2 g3 h ∧ app 45 2 16 [(.int .i64 0), (.int .i64 0)] j0 i9 h fun j1 h=>still1 g2 g3 h ∧ nilck g3 fun j2=>fld 2 j2 fun j3=>store1 j3 j1 h fun h=>nilck s0 fun j4=>fld 2 j4 fun j5=>load1 j5 h fun j6=>node_I_updateCount.call #[j6] h fun j7 h=>loadN 2 s4 h fun j8=>BTreeG_I_setHint.call #[s0, j8, s2] h fun j9 h=>extr 0 j9 fun k0=>extr 1 j9 fun k1=>storeN 2 s6 k0 h fun h=>loadN 2 s6 h fun k2=>Q (.tuple #[k2, k1]) h)) ∧ (mkSl (if 2 * 1 = 0 then [] else zeros [(.pointer none)] 2) 2 [(0 * 1, 1, o), (1 * 1, 1, q)] 76 h fun k3 h=>still1 d2 d3 h ∧ still1 d5 d6 h ∧ mkSl (if 0 * 1 = 0 then [] else zeros [(.pointer none)] 0) 0 [] 76 h fun k4 h=>still1 d2 d3 h ∧ still1 d5 d6 h ∧ app 76 1 8 [(.pointer none)] k4 k3 h fun k5 h=>still1 d2 d3 h ∧ still1 d5 d6 h ∧ nilck d6 fun k6=>store1 k6 k5 h fun h=>nilck s0 fun k7=>fld 2 k7 fun k8=>load1 k8 h fun k9=>loadN 2 v h fun l0=>(mkSl (if 0 * 2 = 0 then [] else zeros [(.int .i64 0), (.int .i64 0)] 0) 0 [] 45 h fun l1 h=>still1 k8 k9 h ∧ stillN 2 v l0 h ∧ mkSl (if 1 * 2 = 0 then [] else zeros [(.int .i64 0), (.int .i64 0)] 1) 1 [(0 * 2, 2, l0)] 45 h fun l2 h=>still1 k8 k9 h ∧ app 45 2 16 [(.int .i64 0), (.int .i64 0)] l1 l2 h fun l3 h=>still1 k8 k9 h ∧ nilck k9 fun l4=>fld 2 l4 fun l5=>store1 l5 l3 h fun h=>nilck s0 fun l6=>fld 2 l6 fun l7=>load1 l7 h fun l8=>node_I_updateCount.call #[l8] h fun l9 h=>loadN 2 s4 h fun m0=>BTreeG_I_setHint.call #[s0, m0, s2] h fun m1 h=>extr 0 m1 fun m2=>extr 1 m1 fun m3=>storeN 2 s6 m2 h fun h=>loadN 2 s6 h fun m4=>Q (.tuple #[m4, m3]) h) ∧ (mkSl (if 1 * 2 = 0 then [] else zeros [(.int .i64 0), (.int .i64 0)] 1) 1 [(0 * 2, 2, l0)] 45 h fun m5 h=>still1 k8 k9 h ∧ mkSl (if 0 * 2 = 0 then [] else zeros [(.int .i64 0), (.int .i64 0)] 0) 0 [] 45 h fun m6 h=>still1 k8 k9 h ∧ app 45 2 16 [(.int .i64 0), (.int .i64 0)] m6 m5 h fun m7 h=>still1 k8 k9 h ∧ nilck k9 fun m8=>fld 2 m8 fun m9=>store1 m9 m7 h fun h=>nilck s0 fun n0=>fld 2 n0 fun n1=>load1 n1 h fun n2=>node_I_updateCount.call #[n2] h fun n3 h=>loadN 2 s4 h fun n4=>BTreeG_I_setHint.call #[s0, n4, s2] h fun n5 h=>extr 0 n5 fun n6=>extr 1 n5 fun n7=>storeN 2 s6 n6 h fun h=>loadN 2 s6 h fun n8=>Q (.tuple #[n8, n7]) h))) (BTreeG_I_setHint.j2 s0 s6 k h Q)
def BTreeG_I_setHint.sh (a0 a1 a2 : Value) (h : Heap) (Q : Value → Heap → Prop) : Prop := box 45 a1 h fun b h=>alloc [(.int .i64 0), (.int .i64 0)] 45 h fun d h=>nilck a0 fun g=>fld 2 g fun i=>load1 i h fun j=>eqNilP j fun k=>ifV k (BTreeG_I_init.call #[a0, (.int .i64 0)] h fun l h=>BTreeG_I_newNode.call #[a0, (.bool true)] h fun m h=>nilck a0 fun n=>fld 2 n fun o=>store1 o m h fun h=>nilck a0 fun p=>fld 2 p fun q=>load1 q h fun u=>loadN 2 b h fun v=>(mkSl (if 0 * 2 = 0 then [] else zeros [(.int .i64 0), (.int .i64 0)] 0) 0 [] 45 h fun w h=>still1 q u h ∧ stillN 2 b v h ∧ mkSl (if 1 * 2 = 0 then [] else zeros [(.int .i64 0), (.int .i64 0)] 1) 1 [(0 * 2, 2, v)] 45 h fun x h=>still1 q u h ∧ app 45 2 16 [(.int .i64 0), (.int .i64 0)] w x h fun y h=>still1 q u h ∧ nilck u fun z=>fld 2 z fun b0=>store1 b0 y h fun h=>nilck a0 fun b1=>fld 2 b1 fun b2=>load1 b2 h fun b3=>nilck b3 fun b4=>fld 1 b4 fun b5=>store1 b5 (.int .i64 1) h fun h=>nilck a0 fun b6=>fld 3 b6 fun b7=>store1 b7 (.int .i64 1) h fun h=>nilck a0 fun b8=>fld 7 b8 fun b9=>loadN 2 b9 h fun d0=>storeN 2 d d0 h fun h=>loadN 2 d h fun d1=>Q (.tuple #[d1, (.bool false)]) h) ∧ (mkSl (if 1 * 2 = 0 then [] else zeros [(.int .i64 0), (.int .i64 0)] 1) 1 [(0 * 2, 2, v)] 45 h fun d2 h=>still1 q u h ∧ mkSl (if 0 * 2 = 0 then [] else zeros [(.int .i64 0), (.int .i64 0)] 0) 0 [] 45 h fun d3 h=>still1 q u h ∧ app 45 2 16 [(.int .i64 0), (.int .i64 0)] d3 d2 h fun d4 h=>still1 q u h ∧ nilck u fun d5=>fld 2 d5 fun d6=>store1 d6 d4 h fun h=>nilck a0 fun d7=>fld 2 d7 fun d8=>load1 d8 h fun d9=>nilck d9 fun g0=>fld 1 g0 fun g1=>store1 g1 (.int .i64 1) h fun h=>nilck a0 fun g2=>fld 3 g2 fun g3=>store1 g3 (.int .i64 1) h fun h=>nilck a0 fun g4=>fld 7 g4 fun g5=>loadN 2 g5 h fun g6=>storeN 2 d g6 h fun h=>loadN 2 d h fun g7=>Q (.tuple #[g7, (.bool false)]) h)) (BTreeG_I_setHint.j1 a0 a2 b d h Q)
theorem BTreeG_I_setHint.body (a0 a1 a2 : Value) (h : Heap) (Q : Value → Heap → Prop) (H : BTreeG_I_setHint.sh a0 a1 a2 h Q) : BTreeG_I_setHint.call #[a0, a1, a2] h Q := by
  refine callsH_of (args := [a0, a1, a2]) Tryz.func167 rfl rfl ?_
  unfold BTreeG_I_setHint.sh at H
  refine sR <| vl_n <| H_box H fun _ h H => vl_n <| H_alloc TV_45 H fun _ h H => nS (.bool false) rfl <| vl_e ?_
  refine WPc_seq (fun e h => BTreeG_I_setHint.j1 (e 0) (e 2) (e 4) (e 6) h Q) ?_ (fun e h H => ?_)
  rotate_left
  · unfold BTreeG_I_setHint.j1 at H
    refine WPc_seq' <| W_drawn [0, 0, 2, 6, 0, 0, 63, 127, 255, 255, 255, 511, 3071, 8191] (.take 0 (.take 1 (.take 2 (.take 3 (.take 4 (.take 5 (.alt 6 (.take 7 (.take 8 (.take 9 (.take 10 (.alt 11 (.take 12 (.take 13 .done)) .none))))) .none))))))) mixed (by kernel_rfl) <| pM (e 0) rfl rfl <| pM (e 0) rfl rfl <| pP rfl R_nil H fun _ H => pP rfl (R_fld TF_162_2) H fun _ H => tkL rfl <| R_loadN TN_45 H fun _ _ _ _ H _ _ => pM (e 2) rfl rfl <| aE rfl <| H_call HB_190 H fun t54 h H => ⟨(hskip rfl hnil), pM t54 rfl rfl <| pP rfl R_ext H fun _ H => pP rfl R_ext H fun t56 H => pP rfl R_ext H fun t57 H => aE rfl <| H_storeN TS_45 H fun h H => ⟨hnil, ?_⟩⟩
    refine pS t56 rfl rfl <| pS t57 rfl rfl <| vp_done ?_
    refine WPc_seq (fun e h => BTreeG_I_setHint.j2 (e 0) (e 6) (e 7) h Q) ?_ (fun e h H => ?_)
    rotate_left
    · unfold BTreeG_I_setHint.j2 at H
      refine WPc_seq (fun e h => BTreeG_I_setHint.j3 (e 0) (e 6) h Q) ?_ (fun e h H => ?_)
      rotate_left
      · unfold BTreeG_I_setHint.j3 at H
        refine sR <| nM (e 0) rfl <| nP R_nil H fun _ H => nP (R_fld TF_162_3) H fun _ H => nL T1_3 H fun _ H => nP R_add H fun _ H => nP R_nil H fun _ H => nP (R_fld TF_162_3) H fun _ H => vl_n <| H_store1 TS_3 H fun h H => vl_e <| sR <| nM (e 0) rfl <| nP R_nil H fun _ H => nP (R_fld TF_162_7) H fun _ H => ?_
        exact nLN TN_45 H fun _ H => vl_n <| H_storeN TS_45 H fun h H => nS (.bool false) rfl <| vl_e <| WPc_ret <| resH_of rfl <| resL_N TN_45 <| loadN_imp H fun r6 H => resL_t <| H
      refine sR <| nM (e 7) rfl <| vl_e ?_
      refine cI H (fun H => ?_) fun H => ?_
      · exact sR <| nLN TN_45 H fun _ H => vl_n <| H_storeN TS_45 H fun h H => nS (.bool true) rfl <| vl_e <| WPc_ret <| resH_of rfl <| resL_N TN_45 <| loadN_imp H fun r6 H => resL_t <| H
      · exact WPc_skip <| H
    refine sR <| nM t57 rfl <| vl_e ?_
    refine cI H (fun H => ?_) fun H => ?_
    · refine sR <| nM (e 0) rfl <| nM (e 0) rfl <| nP R_nil H fun _ H => nP (R_fld TF_162_2) H fun _ H => vl_n <| H_call HB_103 H fun t63 h H => nS t63 rfl <| vl_e <| sR <| nM (e 0) rfl <| nM t63 rfl <| vl_n <| H_call HB_191 H fun t67 h H => nM t67 rfl <| nP R_ext H fun t68 H => ?_
      refine nP R_ext H fun _ H => vl_n <| H_alloc TV_45 H fun _ h H => nS t68 rfl <| vl_n <| H_storeN TS_45 H fun h H => vl_e <| sR <| nM (e 0) rfl <| nM (e 0) rfl <| vl_n <| H_call HB_189 H fun _ h H => nP R_nil H fun _ H => nP (R_fld TF_162_2) H fun _ H => vl_n <| H_store1 TS_76 H fun h H => vl_e <| WPc_seq' ?_
      refine W_drawn [0, 1, 3, 7, 15, 31, 63, 0, 128, 384, 896, 1920, 3968, 8191, 16383] (.take 0 (.take 1 (.take 2 (.take 3 (.take 4 (.take 5 (.take 6 (.take 7 (.take 8 (.take 9 (.take 10 (.take 11 (.alt 12 (.take 13 (.alt 14 .done .none)) .none))))))))))))) mixed (by kernel_rfl) <| pM (e 0) rfl rfl <| pP rfl R_nil H fun _ H => pP rfl (R_fld TF_162_2) H fun _ H => pL rfl T1_76 H fun _ _ hat78 H => pP rfl R_nil H fun _ H => pP rfl (R_fld TF_167_3) H fun _ H => pL rfl T1_165 H fun _ _ hat81 H => pM (e 0) rfl rfl <| pP rfl R_nil H fun _ H => pP rfl (R_fld TF_162_8) H fun _ H => pL rfl T1_3 H fun _ _ _ H => pP rfl R_add H fun _ H => aE rfl <| H_mks TZ_168 rfl H fun _ h ⟨S, S_2, H⟩ => ⟨(hskip rfl (hcons rfl (still_1 S_2 hat81) (hcons rfl (still_1 S hat78) hnil))), ?_⟩
      refine pP rfl R_nil H fun _ H => aE rfl <| H_store1 TS_168 H fun h H => ⟨(hskip rfl (hskip rfl hnil)), vp_done <| WPc_seq' <| W_drawn [0, 1, 3, 7, 15, 31, 63, 0, 0, 0, 768, 1920, 4095, 8191] (.take 0 (.take 1 (.take 2 (.take 3 (.take 4 (.take 5 (.take 6 (.take 8 (.take 9 (.alt 7 (.alt 10 (.alt 11 (.take 12 (.alt 13 .done .none)) .none) .none) (.alt 10 (.alt 7 (.alt 11 (.take 12 (.alt 13 .done .none)) .none) .none) .none))))))))))) mixed (by kernel_rfl) <| pM (e 0) rfl rfl <| pP rfl R_nil H fun _ H => pP rfl (R_fld TF_162_2) H fun _ H => pL rfl T1_76 H fun _ _ hat92 H => pP rfl R_nil H fun _ H => pP rfl (R_fld TF_167_3) H fun _ H => pL rfl T1_165 H fun _ _ hat95 H => pM t63 rfl rfl <| pM t68 rfl rfl ?_⟩
      obtain ⟨HA0, HA1⟩ := H
      refine alt_n rfl ?_ ?_
      · have H := HA0
        clear HA0 HA1
        refine H_mkSl TZ_168 (by decide) rfl H rfl fun _ h ⟨S_3, S_4, H⟩ => ⟨(hcons rfl (still_1 S_4 hat95) (hcons rfl (still_1 S_3 hat92) hnil)), ?_⟩
        refine aE rfl <| H_mkSl TZ_168 (by decide) rfl H rfl fun _ h ⟨S_5, S_6, H⟩ => ⟨(hcons rfl (still_1 S_6 hat95) (hcons rfl (still_1 S_5 hat92) hnil)), aE rfl <| H_app TZ_168 TU_168 H fun _ h ⟨S_7, S_8, H⟩ => ⟨(hcons rfl (still_1 S_8 hat95) (hcons rfl (still_1 S_7 hat92) hnil)), pP rfl R_nil H fun _ H => aE rfl <| H_store1 TS_168 H fun h H => ⟨(hskip rfl (hskip rfl hnil)), vp_done <| WPc_seq' <| W_drawn [0, 1, 3, 7, 0, 0, 32, 112, 255, 511, 1023] (.take 0 (.take 1 (.take 2 (.take 3 (.take 5 (.alt 4 (.alt 6 (.alt 7 (.take 8 (.take 9 (.alt 10 .done .none))) .none) .none) (.alt 6 (.alt 4 (.alt 7 (.take 8 (.take 9 (.alt 10 .done .none))) .none) .none) .none))))))) mixed (by kernel_rfl) <| pM (e 0) rfl rfl <| pP rfl R_nil H fun _ H => pP rfl (R_fld TF_162_2) H fun _ H => pL rfl T1_76 H fun _ _ hat105 H => tkL rfl <| R_loadN TN_45 H fun _ _ hat107 _ H _ hSt107 => ?_⟩⟩⟩
        obtain ⟨HA0, HA1⟩ := H
        refine alt_n rfl ?_ ?_
        · have H := HA0
          clear HA0 HA1
          refine H_mkSl TZ_25 (by decide) rfl H rfl fun _ h ⟨S_9, S_10, H⟩ => ⟨(hcons rfl (hSt107 _ (still_N S_10 hat107 rfl)) (hcons rfl (still_1 S_9 hat105) hnil)), ?_⟩
          refine aE rfl <| H_mkSl TZ_25 (by decide) rfl H rfl fun _ h ⟨S_11, H⟩ => ⟨(hskip rfl (hcons rfl (still_1 S_11 hat105) hnil)), aE rfl <| H_app TZ_25 TU_25 H fun _ h ⟨S_12, H⟩ => ⟨(hcons rfl (still_1 S_12 hat105) hnil), pP rfl R_nil H fun _ H => pP rfl (R_fld TF_167_2) H fun _ H => aE rfl <| H_store1 TS_25 H fun h H => ⟨(hskip rfl hnil), vp_done <| sR <| nM (e 0) rfl <| nP R_nil H fun _ H => nP (R_fld TF_162_2) H fun _ H => nL T1_76 H fun _ H => vl_n <| H_call HB_192 H fun _ h H => vl_e <| sR ?_⟩⟩⟩
          exact nM (e 0) rfl <| nLN TN_45 H fun _ H => nM (e 2) rfl <| vl_n <| H_call HB_167 H fun _ h H => nP R_ext H fun _ H => nP R_ext H fun t122 H => vl_n <| H_storeN TS_45 H fun h H => nS t122 rfl <| vl_e <| WPc_ret <| resH_of rfl <| resL_N TN_45 <| loadN_imp H fun r6 H => resL_t <| H
        refine alt_n rfl ?_ vp_none
        have H := HA1
        clear HA0 HA1
        refine H_mkSl TZ_25 (by decide) rfl H rfl fun _ h ⟨S_13, H⟩ => ⟨(hskip rfl (hcons rfl (still_1 S_13 hat105) hnil)), ?_⟩
        refine aE rfl <| H_mkSl TZ_25 (by decide) rfl H rfl fun _ h ⟨S_14, H⟩ => ⟨(hcons rfl (still_1 S_14 hat105) hnil), aE rfl <| H_app TZ_25 TU_25 H fun _ h ⟨S_15, H⟩ => ⟨(hcons rfl (still_1 S_15 hat105) hnil), pP rfl R_nil H fun _ H => pP rfl (R_fld TF_167_2) H fun _ H => aE rfl <| H_store1 TS_25 H fun h H => ⟨(hskip rfl hnil), vp_done <| sR <| nM (e 0) rfl <| nP R_nil H fun _ H => nP (R_fld TF_162_2) H fun _ H => nL T1_76 H fun _ H => vl_n <| H_call HB_192 H fun _ h H => vl_e <| sR ?_⟩⟩⟩
        exact nM (e 0) rfl <| nLN TN_45 H fun _ H => nM (e 2) rfl <| vl_n <| H_call HB_167 H fun _ h H => nP R_ext H fun _ H => nP R_ext H fun t122_2 H => vl_n <| H_storeN TS_45 H fun h H => nS t122_2 rfl <| vl_e <| WPc_ret <| resH_of rfl <| resL_N TN_45 <| loadN_imp H fun r6_2 H => resL_t <| H
      refine alt_n rfl ?_ vp_none
      have H := HA1
      clear HA0 HA1
      refine H_mkSl TZ_168 (by decide) rfl H rfl fun _ h ⟨S_16, S_17, H⟩ => ⟨(hcons rfl (still_1 S_17 hat95) (hcons rfl (still_1 S_16 hat92) hnil)), ?_⟩
      refine aE rfl <| H_mkSl TZ_168 (by decide) rfl H rfl fun _ h ⟨S_18, S_19, H⟩ => ⟨(hcons rfl (still_1 S_19 hat95) (hcons rfl (still_1 S_18 hat92) hnil)), aE rfl <| H_app TZ_168 TU_168 H fun _ h ⟨S_20, S_21, H⟩ => ⟨(hcons rfl (still_1 S_21 hat95) (hcons rfl (still_1 S_20 hat92) hnil)), pP rfl R_nil H fun _ H => aE rfl <| H_store1 TS_168 H fun h H => ⟨(hskip rfl (hskip rfl hnil)), vp_done <| WPc_seq' <| W_drawn [0, 1, 3, 7, 0, 0, 32, 112, 255, 511, 1023] (.take 0 (.take 1 (.take 2 (.take 3 (.take 5 (.alt 4 (.alt 6 (.alt 7 (.take 8 (.take 9 (.alt 10 .done .none))) .none) .none) (.alt 6 (.alt 4 (.alt 7 (.take 8 (.take 9 (.alt 10 .done .none))) .none) .none) .none))))))) mixed (by kernel_rfl) <| pM (e 0) rfl rfl <| pP rfl R_nil H fun _ H => pP rfl (R_fld TF_162_2) H fun _ H => pL rfl T1_76 H fun _ _ hat105_2 H => tkL rfl <| R_loadN TN_45 H fun _ _ hat107_2 _ H _ hSt107_2 => ?_⟩⟩⟩
      obtain ⟨HA0, HA1⟩ := H
      refine alt_n rfl ?_ ?_
      · have H := HA0
        clear HA0 HA1
        refine H_mkSl TZ_25 (by decide) rfl H rfl fun _ h ⟨S_22, S_23, H⟩ => ⟨(hcons rfl (hSt107_2 _ (still_N S_23 hat107_2 rfl)) (hcons rfl (still_1 S_22 hat105_2) hnil)), ?_⟩
        refine aE rfl <| H_mkSl TZ_25 (by decide) rfl H rfl fun _ h ⟨S_24, H⟩ => ⟨(hskip rfl (hcons rfl (still_1 S_24 hat105_2) hnil)), aE rfl <| H_app TZ_25 TU_25 H fun _ h ⟨S_25, H⟩ => ⟨(hcons rfl (still_1 S_25 hat105_2) hnil), pP rfl R_nil H fun _ H => pP rfl (R_fld TF_167_2) H fun _ H => aE rfl <| H_store1 TS_25 H fun h H => ⟨(hskip rfl hnil), vp_done <| sR <| nM (e 0) rfl <| nP R_nil H fun _ H => nP (R_fld TF_162_2) H fun _ H => nL T1_76 H fun _ H => vl_n <| H_call HB_192 H fun _ h H => vl_e <| sR ?_⟩⟩⟩
        exact nM (e 0) rfl <| nLN TN_45 H fun _ H => nM (e 2) rfl <| vl_n <| H_call HB_167 H fun _ h H => nP R_ext H fun _ H => nP R_ext H fun t122_3 H => vl_n <| H_storeN TS_45 H fun h H => nS t122_3 rfl <| vl_e <| WPc_ret <| resH_of rfl <| resL_N TN_45 <| loadN_imp H fun r6_3 H => resL_t <| H
      refine alt_n rfl ?_ vp_none
      have H := HA1
      clear HA0 HA1
      refine H_mkSl TZ_25 (by decide) rfl H rfl fun _ h ⟨S_26, H⟩ => ⟨(hskip rfl (hcons rfl (still_1 S_26 hat105_2) hnil)), ?_⟩
      refine aE rfl <| H_mkSl TZ_25 (by decide) rfl H rfl fun _ h ⟨S_27, H⟩ => ⟨(hcons rfl (still_1 S_27 hat105_2) hnil), aE rfl <| H_app TZ_25 TU_25 H fun _ h ⟨S_28, H⟩ => ⟨(hcons rfl (still_1 S_28 hat105_2) hnil), pP rfl R_nil H fun _ H => pP rfl (R_fld TF_167_2) H fun _ H => aE rfl <| H_store1 TS_25 H fun h H => ⟨(hskip rfl hnil), vp_done <| sR <| nM (e 0) rfl <| nP R_nil H fun _ H => nP (R_fld TF_162_2) H fun _ H => nL T1_76 H fun _ H => vl_n <| H_call HB_192 H fun _ h H => vl_e <| sR ?_⟩⟩⟩
      exact nM (e 0) rfl <| nLN TN_45 H fun _ H => nM (e 2) rfl <| vl_n <| H_call HB_167 H fun _ h H => nP R_ext H fun _ H => nP R_ext H fun t122_4 H => vl_n <| H_storeN TS_45 H fun h H => nS t122_4 rfl <| vl_e <| WPc_ret <| resH_of rfl <| resL_N TN_45 <| loadN_imp H fun r6_4 H => resL_t <| H
    · exact WPc_skip <| H
  refine sR <| nM a0 rfl <| nP R_nil H fun _ H => nP (R_fld TF_162_2) H fun _ H => nL T1_76 H fun _ H => nP (R_eqNilP Tryz.underlying76 rfl) H fun _ H => vl_e ?_
  refine cI H (fun H => ?_) fun H => ?_
  · refine sR <| nM a0 rfl <| vl_n <| H_call HB_129 H fun _ h H => vl_e <| sR <| nM a0 rfl <| nM a0 rfl <| vl_n <| H_call HB_189 H fun _ h H => nP R_nil H fun _ H => nP (R_fld TF_162_2) H fun _ H => vl_n <| H_store1 TS_76 H fun h H => vl_e <| WPc_seq' <| W_drawn [0, 1, 3, 7, 0, 0, 32, 112, 255, 511, 1023] (.take 0 (.take 1 (.take 2 (.take 3 (.take 5 (.alt 4 (.alt 6 (.alt 7 (.take 8 (.take 9 (.alt 10 .done .none))) .none) .none) (.alt 6 (.alt 4 (.alt 7 (.take 8 (.take 9 (.alt 10 .done .none))) .none) .none) .none))))))) mixed (by kernel_rfl) ?_
    refine pM a0 rfl rfl <| pP rfl R_nil H fun _ H => pP rfl (R_fld TF_162_2) H fun _ H => pL rfl T1_76 H fun _ _ hat27 H => tkL rfl <| R_loadN TN_45 H fun _ _ hat29 _ H _ hSt29 => ?_
    obtain ⟨HA0, HA1⟩ := H
    refine alt_n rfl ?_ ?_
    · have H := HA0
      clear HA0 HA1
      refine H_mkSl TZ_25 (by decide) rfl H rfl fun _ h ⟨S, S_2, H⟩ => ⟨(hcons rfl (hSt29 _ (still_N S_2 hat29 rfl)) (hcons rfl (still_1 S hat27) hnil)), ?_⟩
      refine aE rfl <| H_mkSl TZ_25 (by decide) rfl H rfl fun _ h ⟨S_3, H⟩ => ⟨(hskip rfl (hcons rfl (still_1 S_3 hat27) hnil)), aE rfl <| H_app TZ_25 TU_25 H fun _ h ⟨S_4, H⟩ => ⟨(hcons rfl (still_1 S_4 hat27) hnil), pP rfl R_nil H fun _ H => pP rfl (R_fld TF_167_2) H fun _ H => aE rfl <| H_store1 TS_25 H fun h H => ⟨(hskip rfl hnil), vp_done <| sR <| nM a0 rfl <| nP R_nil H fun _ H => nP (R_fld TF_162_2) H fun _ H => nL T1_76 H fun _ H => nP R_nil H fun _ H => nP (R_fld TF_167_1) H fun _ H => vl_n <| H_store1 TS_3 H fun h H => ?_⟩⟩⟩
      refine vl_e <| sR <| nM a0 rfl <| nP R_nil H fun _ H => nP (R_fld TF_162_3) H fun _ H => vl_n <| H_store1 TS_3 H fun h H => vl_e <| sR <| nM a0 rfl <| nP R_nil H fun _ H => nP (R_fld TF_162_7) H fun _ H => nLN TN_45 H fun _ H => vl_n <| H_storeN TS_45 H fun h H => nS (.bool false) rfl ?_
      exact vl_e <| WPc_ret <| resH_of rfl <| resL_N TN_45 <| loadN_imp H fun r6 H => resL_t <| H
    refine alt_n rfl ?_ vp_none
    have H := HA1
    clear HA0 HA1
    refine H_mkSl TZ_25 (by decide) rfl H rfl fun _ h ⟨S_5, H⟩ => ⟨(hskip rfl (hcons rfl (still_1 S_5 hat27) hnil)), ?_⟩
    refine aE rfl <| H_mkSl TZ_25 (by decide) rfl H rfl fun _ h ⟨S_6, H⟩ => ⟨(hcons rfl (still_1 S_6 hat27) hnil), aE rfl <| H_app TZ_25 TU_25 H fun _ h ⟨S_7, H⟩ => ⟨(hcons rfl (still_1 S_7 hat27) hnil), pP rfl R_nil H fun _ H => pP rfl (R_fld TF_167_2) H fun _ H => aE rfl <| H_store1 TS_25 H fun h H => ⟨(hskip rfl hnil), vp_done <| sR <| nM a0 rfl <| nP R_nil H fun _ H => nP (R_fld TF_162_2) H fun _ H => nL T1_76 H fun _ H => nP R_nil H fun _ H => nP (R_fld TF_167_1) H fun _ H => vl_n <| H_store1 TS_3 H fun h H => ?_⟩⟩⟩
    refine vl_e <| sR <| nM a0 rfl <| nP R_nil H fun _ H => nP (R_fld TF_162_3) H fun _ H => vl_n <| H_store1 TS_3 H fun h H => vl_e <| sR <| nM a0 rfl <| nP R_nil H fun _ H => nP (R_fld TF_162_7) H fun _ H => nLN TN_45 H fun _ H => vl_n <| H_storeN TS_45 H fun h H => nS (.bool false) rfl ?_
    exact vl_e <| WPc_ret <| resH_of rfl <| resL_N TN_45 <| loadN_imp H fun r6_2 H => resL_t <| H
  · exact WPc_skip <| H
/-! ### (*pub/tidwallbtree.BTreeG[impl.Item]).SetHint -/
def BTreeG_I_SetHint.sh (a0 a1 a2 : Value) (h : Heap) (Q : Value → Heap → Prop) : Prop := box 45 a1 h fun b h=>alloc [(.int .i64 0), (.int .i64 0)] 45 h fun d h=>loadN 2 b h fun g=>BTreeG_I_setHint.call #[a0, g, a2] h fun i h=>extr 0 i fun j=>extr 1 i fun k=>storeN 2 d j h fun h=>loadN 2 d h fun l=>storeN 2 d l h fun h=>loadN 2 d h fun m=>Q (.tuple #[m, k]) h
theorem BTreeG_I_SetHint.body (a0 a1 a2 : Value) (h : Heap) (Q : Value → Heap → Prop) (H : BTreeG_I_SetHint.sh a0 a1 a2 h Q) : BTreeG_I_SetHint.call #[a0, a1, a2] h Q := by
  refine callsH_of (args := [a0, a1, a2]) Tryz.func133 rfl rfl ?_
  unfold BTreeG_I_SetHint.sh at H
  refine sR <| vl_n <| H_box H fun _ h H => vl_n <| H_alloc TV_45 H fun _ h H => nS (.bool false) rfl <| vl_e <| sR <| nM a0 rfl <| nLN TN_45 H fun _ H => nM a2 rfl <| vl_n <| H_call HB_167 H fun t12 h H => nM t12 rfl <| nP R_ext H fun _ H => nP R_ext H fun t14 H => vl_n <| H_storeN TS_45 H fun h H => ?_
  exact nS t14 rfl <| vl_e <| sR <| nLN TN_45 H fun _ H => nM t14 rfl <| vl_n <| H_storeN TS_45 H fun h H => nS t14 rfl <| vl_e <| WPc_ret <| resH_of rfl <| resL_N TN_45 <| loadN_imp H fun r6 H => resL_t <| H
/-! ### (*pub/tidwallbtree.BTreeG[impl.Item]).Set -/
def BTreeG_I_Set.sh (a0 a1 : Value) (h : Heap) (Q : Value → Heap → Prop) : Prop := box 45 a1 h fun b h=>alloc [(.int .i64 0), (.int .i64 0)] 45 h fun d h=>loadN 2 b h fun g=>BTreeG_I_SetHint.call #[a0, g, (.pointer none)] h fun i h=>extr 0 i fun j=>extr 1 i fun k=>storeN 2 d j h fun h=>loadN 2 d h fun l=>Q (.tuple #[l, k]) h
theorem BTreeG_I_Set.body (a0 a1 : Value) (h : Heap) (Q : Value → Heap → Prop) (H : BTreeG_I_Set.sh a0 a1 h Q) : BTreeG_I_Set.call #[a0, a1] h Q := by
  refine callsH_of (args := [a0, a1]) Tryz.func90 rfl rfl ?_
  unfold BTreeG_I_Set.sh at H
  refine sR <| vl_n <| H_box H fun _ h H => vl_n <| H_alloc TV_45 H fun _ h H => nS (.bool false) rfl <| vl_e <| sR <| nM a0 rfl <| nLN TN_45 H fun _ H => vl_n <| H_call HB_133 H fun _ h H => nP R_ext H fun _ H => nP R_ext H fun t10 H => vl_n <| H_storeN TS_45 H fun h H => nS t10 rfl <| vl_e ?_
  exact WPc_ret <| resH_of rfl <| resL_N TN_45 <| loadN_imp H fun r4 H => resL_t <| H
/-! ### impl.grow -/
def i_grow.j1 (s5 : Value) (h : Heap) (Q : Value → Heap → Prop) : Prop := Q s5 h
def i_grow.j4 (s5 s14 s15 s16 : Value) (h : Heap) (K1 : List Value → Heap → Prop) (Q : Value → Heap → Prop) : Prop := arith (· + ·) s16 (.int .i64 1) fun b=>K1 [b] h
def i_grow.j3 (s5 s14 s15 s16 : Value) (h : Heap) (K1 : List Value → Heap → Prop) (Q : Value → Heap → Prop) : Prop := idx 2 s14 s16 fun b=>loadN 2 b h fun d=>alloc [(.int .i64 0), (.int .i64 0)] 45 h fun g h=>storeN 2 g d h fun h=>loadN 2 g h fun i=>BTreeG_I_Set.call #[s5, i] h fun j h=>i_grow.j4 s5 s14 s15 s16 h K1 Q
def i_grow.l2.b (c5 c14 c15 s16 : Value) (h : Heap) (K1 : List Value → Heap → Prop) (Q : Value → Heap → Prop) : Prop := cmpI (fun a b=>decide (a < b)) s16 c15 fun b=>ifV b (i_grow.j3 c5 c14 c15 s16 h K1 Q) (i_grow.j1 c5 h Q)
def i_grow.sh (a0 a1 : Value) (h : Heap) (Q : Value → Heap → Prop) : Prop := box 24 a0 h fun b h=>fld 0 b fun d=>load1 d h fun g=>loadN 3 b h fun i=>i_before.call #[g] h fun j h=>stillN 3 b i h ∧ i_options.call #[i] h fun k h=>NewBTreeGOptions_I.call #[j, k] h fun l h=>lenV a1 fun m=>loopC (fun c s h K1=>i_grow.l2.b (c.getD 0 undef) (c.getD 1 undef) (c.getD 2 undef) (s.getD 0 undef) h K1 Q) [l, a1, m] [(.int .i64 0)] h
theorem i_grow.body (a0 a1 : Value) (h : Heap) (Q : Value → Heap → Prop) (H : i_grow.sh a0 a1 h Q) : i_grow.call #[a0, a1] h Q := by
  refine callsH_of (args := [a0, a1]) Tryz.func43 rfl rfl ?_
  unfold i_grow.sh at H
  refine sR <| vl_n <| H_box H fun _ h H => nS (.pointer none) rfl <| vl_e <| WPc_seq' <| W_drawn [0, 1, 3, 0, 15, 31, 63] (.take 0 (.take 1 (.take 3 (.alt 2 (.alt 4 (.alt 5 (.take 6 .done) .none) .none) .none)))) mixed (by kernel_rfl) <| pP rfl (R_fld TF_24_0) H fun _ H => pL rfl T1_22 H fun _ _ _ H => tkL rfl <| R_loadN TN_24 H fun _ _ hat11 _ H _ hSt11 => aE rfl <| H_call HB_88 H fun _ h ⟨S, H⟩ => ⟨(hcons rfl (hSt11 _ (still_N S hat11 rfl)) (hskip rfl hnil)), aE rfl <| H_call HB_89 H fun _ h H => ⟨(hskip rfl hnil), aE rfl <| H_call HB_87 H fun t13 h H => ⟨hnil, pS t13 rfl rfl <| vp_done ?_⟩⟩⟩
  refine WPc_seq (fun e h => i_grow.j1 (e 5) h Q) ?_ (fun e h H => ?_)
  rotate_left
  · unfold i_grow.j1 at H
    exact sR <| nM (e 5) rfl <| nS (e 5) rfl <| vl_e <| WPc_ret <| resH_of rfl <| H
  refine sR <| nM a1 rfl <| nP (R_len Tryz.underlying25) H fun _ H => nM (.int .i64 0) rfl <| vl_e <| WPc_block ?_
  refine loop_at (fun e => [e 16]) (fun e => [e 5, e 14, e 15]) H rfl rfl ?_
  intro K1 e1 h H hin1
  replace H : i_grow.l2.b (e1 5) (e1 14) (e1 15) (e1 16) h K1 Q := H
  unfold i_grow.l2.b at H
  clear hin1
  refine sR <| nP R_lss H fun _ H => vl_e ?_
  refine WPc_seq (fun e h => i_grow.j3 (e 5) (e 14) (e 15) (e 16) h K1 Q ∧ [e1 5, e1 14, e1 15] = [e 5, e 14, e 15]) ?_ (fun e h ⟨H, hq1⟩ => ?_)
  rotate_left
  · unfold i_grow.j3 at H
    refine WPc_seq (fun e h => i_grow.j4 (e 5) (e 14) (e 15) (e 16) h K1 Q ∧ [e1 5, e1 14, e1 15] = [e 5, e 14, e 15]) ?_ (fun e h ⟨H, hq1⟩ => ?_)
    rotate_left
    · unfold i_grow.j4 at H
      refine W_region (by kernel_rfl) <| nP R_add H fun t23 H => nM t23 rfl <| vl_e ?_
      exact ⟨H, hq1⟩
    refine WPc_block <| sR <| nP (R_idx TE_25) H fun _ H => nLN TN_45 H fun _ H => vl_n <| H_alloc TV_45 H fun _ h H => vl_n <| H_storeN TS_45 H fun h H => vl_e <| W_region (by kernel_rfl) <| nM (e 5) rfl <| nLN TN_45 H fun _ H => vl_n <| H_call HB_90 H fun _ h H => vl_e ?_
    exact ⟨H, hq1⟩
  refine cI H (fun H => ?_) fun H => ?_
  · refine WPc_skip ?_
    exact ⟨H, rfl⟩
  · refine WPc_exit ?_
    exact H
/-! ### (*pub/tidwallbtree.BTreeG[impl.Item]).Len -/
def BTreeG_I_Len.sh (a0 : Value) (h : Heap) (Q : Value → Heap → Prop) : Prop := nilck a0 fun b=>fld 3 b fun d=>load1 d h fun g=>Q g h
theorem BTreeG_I_Len.body (a0 : Value) (h : Heap) (Q : Value → Heap → Prop) (H : BTreeG_I_Len.sh a0 h Q) : BTreeG_I_Len.call #[a0] h Q := by
  refine callsH_of (args := [a0]) Tryz.func69 rfl rfl ?_
  unfold BTreeG_I_Len.sh at H
  exact sR <| nS (.int .i64 0) rfl <| vl_e <| sR <| nM a0 rfl <| nP R_nil H fun _ H => nP (R_fld TF_162_3) H fun _ H => nL T1_3 H fun t6 H => nS t6 rfl <| vl_e <| WPc_ret <| resH_of rfl <| H
/-! ### (*pub/tidwallbtree.BTreeG[impl.Item]).lock -/
def BTreeG_I_lock.sh (a0 a1 : Value) (h : Heap) (Q : Value → Heap → Prop) : Prop := Q (.bool false) h
theorem BTreeG_I_lock.body (a0 a1 : Value) (h : Heap) (Q : Value → Heap → Prop) (H : BTreeG_I_lock.sh a0 a1 h Q) : BTreeG_I_lock.call #[a0, a1] h Q := by
  refine callsH_of (args := [a0, a1]) Tryz.func102 rfl rfl ?_
  unfold BTreeG_I_lock.sh at H
  exact sR <| nS (.bool false) rfl <| vl_e <| sR <| nS (.bool false) rfl <| vl_e <| WPc_ret <| resH_of rfl <| H
/-! ### (*pub/tidwallbtree.BTreeG[impl.Item]).nodeItems -/
def BTreeG_I_nodeItems.j2 (s0 s2 s3 s9 : Value) (h : Heap) (Q : Value → Heap → Prop) : Prop := nilck s9 fun b=>fld 3 b fun d=>load1 d h fun g=>nilck g fun i=>load1 i h fun j=>nilck s9 fun k=>fld 3 k fun l=>load1 l h fun m=>nilck m fun n=>load1 n h fun o=>lenV o fun p=>arith (· - ·) p (.int .i64 1) fun q=>idx 1 j q fun u=>BTreeG_I_nodeItems.call #[s0, u, s2, s3] h fun v h=>Q v h
def BTreeG_I_nodeItems.j5 (s0 s2 s3 s9 s10 : Value) (h : Heap) (K1 : List Value → Heap → Prop) (Q : Value → Heap → Prop) : Prop := arith (· + ·) s10 (.int .i64 1) fun b=>K1 [s2, b] h
def BTreeG_I_nodeItems.j4 (s0 s2 s3 s9 s10 : Value) (h : Heap) (K1 : List Value → Heap → Prop) (Q : Value → Heap → Prop) : Prop := nilck s9 fun b=>fld 3 b fun d=>load1 d h fun g=>nilck g fun i=>load1 i h fun j=>idx 1 j s10 fun k=>BTreeG_I_nodeItems.call #[s0, k, s2, s3] h fun l h=>nilck s9 fun m=>fld 2 m fun n=>load1 n h fun o=>idx 2 o s10 fun p=>loadN 2 p h fun q=>mkSl (if 1 * 2 = 0 then [] else zeros [(.int .i64 0), (.int .i64 0)] 1) 1 [(0 * 2, 2, q)] 45 h fun u h=>app 45 2 16 [(.int .i64 0), (.int .i64 0)] l u h fun v h=>BTreeG_I_nodeItems.j5 s0 v s3 s9 s10 h K1 Q
def BTreeG_I_nodeItems.l3.b (c0 c3 c9 s2 s10 : Value) (h : Heap) (K1 : List Value → Heap → Prop) (Q : Value → Heap → Prop) : Prop := nilck c9 fun b=>fld 2 b fun d=>load1 d h fun g=>lenV g fun i=>cmpI (fun a b=>decide (a < b)) s10 i fun j=>ifV j (BTreeG_I_nodeItems.j4 c0 s2 c3 c9 s10 h K1 Q) (BTreeG_I_nodeItems.j2 c0 s2 c3 c9 h Q)
def BTreeG_I_nodeItems.j1 (s0 s2 s3 s9 : Value) (h : Heap) (Q : Value → Heap → Prop) : Prop := loopC (fun c s h K1=>BTreeG_I_nodeItems.l3.b (c.getD 0 undef) (c.getD 1 undef) (c.getD 2 undef) (s.getD 0 undef) (s.getD 1 undef) h K1 Q) [s0, s3, s9] [s2, (.int .i64 0)] h
def BTreeG_I_nodeItems.sh (a0 a1 a2 a3 : Value) (h : Heap) (Q : Value → Heap → Prop) : Prop := BTreeG_I_isoLoad.call #[a0, a1, a3] h fun b h=>node_I_leaf.call #[b] h fun d h=>ifV d (nilck b fun g=>fld 2 g fun i=>load1 i h fun j=>app 45 2 16 [(.int .i64 0), (.int .i64 0)] a2 j h fun k h=>Q k h) (BTreeG_I_nodeItems.j1 a0 a2 a3 b h Q)
theorem BTreeG_I_nodeItems.body (a0 a1 a2 a3 : Value) (h : Heap) (Q : Value → Heap → Prop) (H : BTreeG_I_nodeItems.sh a0 a1 a2 a3 h Q) : BTreeG_I_nodeItems.call #[a0, a1, a2, a3] h Q := by
  refine callsH_of (args := [a0, a1, a2, a3]) Tryz.func134 rfl rfl ?_
  unfold BTreeG_I_nodeItems.sh at H
  refine sR <| nS (.slice none 0 0) rfl <| vl_e <| sR <| nM a0 rfl <| nM a1 rfl <| nM a3 rfl <| vl_n <| H_call HB_103 H fun t14 h H => nS t14 rfl <| vl_e ?_
  refine WPc_seq (fun e h => BTreeG_I_nodeItems.j1 (e 0) (e 2) (e 3) (e 9) h Q) ?_ (fun e h H => ?_)
  rotate_left
  · unfold BTreeG_I_nodeItems.j1 at H
    refine WPc_seq (fun e h => BTreeG_I_nodeItems.j2 (e 0) (e 2) (e 3) (e 9) h Q) ?_ (fun e h H => ?_)
    rotate_left
    · unfold BTreeG_I_nodeItems.j2 at H
      refine WPc_seq' <| W_drawn [0, 0, 2, 6, 14, 30, 62, 0, 128, 384, 896, 1920, 3968, 8064, 16256, 32766, 0, 0, 262143, 524287] (.take 0 (.take 1 (.take 2 (.take 3 (.take 4 (.take 5 (.take 6 (.take 7 (.take 8 (.take 9 (.take 10 (.take 11 (.take 12 (.take 13 (.take 14 (.take 15 (.take 16 (.take 17 (.alt 18 (.take 19 .done) .none))))))))))))))))))) mixed (by kernel_rfl) <| pM (e 0) rfl rfl <| pM (e 9) rfl rfl <| pP rfl R_nil H fun _ H => pP rfl (R_fld TF_167_3) H fun _ H => pL rfl T1_165 H fun _ _ _ H => pP rfl R_nil H fun _ H => pL rfl T1_168 H fun _ _ _ H => pM (e 9) rfl rfl <| pP rfl R_nil H fun _ H => pP rfl (R_fld TF_167_3) H fun _ H => pL rfl T1_165 H fun _ _ _ H => pP rfl R_nil H fun _ H => ?_
      exact pL rfl T1_168 H fun _ _ _ H => pP rfl (R_len Tryz.underlying168) H fun _ H => pP rfl R_sub H fun _ H => pP rfl (R_idx TE_168) H fun _ H => pM (e 2) rfl rfl <| pM (e 3) rfl rfl <| aE rfl <| H_call HB_134 H fun t72 h H => ⟨(hskip rfl (hskip rfl (hskip rfl (hskip rfl hnil)))), pS t72 rfl rfl <| vp_done <| WPc_ret <| resH_of rfl <| H⟩
    refine sR <| nS (.int .i64 0) rfl <| vl_e <| WPc_block ?_
    refine loop_at (fun e => [e 2, e 10]) (fun e => [e 0, e 3, e 9]) H rfl rfl ?_
    intro K1 e1 h H hin1
    replace H : BTreeG_I_nodeItems.l3.b (e1 0) (e1 3) (e1 9) (e1 2) (e1 10) h K1 Q := H
    unfold BTreeG_I_nodeItems.l3.b at H
    clear hin1
    refine WPc_seq (fun e h => BTreeG_I_nodeItems.j4 (e 0) (e 2) (e 3) (e 9) (e 10) h K1 Q ∧ [e1 0, e1 3, e1 9] = [e 0, e 3, e 9]) ?_ (fun e h ⟨H, hq1⟩ => ?_)
    rotate_left
    · unfold BTreeG_I_nodeItems.j4 at H
      refine WPc_seq (fun e h => BTreeG_I_nodeItems.j5 (e 0) (e 2) (e 3) (e 9) (e 10) h K1 Q ∧ [e1 0, e1 3, e1 9] = [e 0, e 3, e 9]) ?_ (fun e h ⟨H, hq1⟩ => ?_)
      rotate_left
      · unfold BTreeG_I_nodeItems.j5 at H
        refine W_region (by kernel_rfl) <| nM (e 10) rfl <| nP R_add H fun t31 H => nS t31 rfl <| vl_e ?_
        exact ⟨H, hq1⟩
      refine WPc_block <| sR <| nM (e 0) rfl <| nM (e 9) rfl <| nP R_nil H fun _ H => nP (R_fld TF_167_3) H fun _ H => nL T1_165 H fun _ H => nP R_nil H fun _ H => nL T1_168 H fun _ H => nM (e 10) rfl <| nP (R_idx TE_168) H fun _ H => nM (e 2) rfl <| nM (e 3) rfl <| vl_n <| H_call HB_134 H fun t43 h H => ?_
      refine nS t43 rfl <| vl_e <| W_region (by kernel_rfl) <| nM t43 rfl <| nM (e 9) rfl <| nP R_nil H fun _ H => nP (R_fld TF_167_2) H fun _ H => nL T1_25 H fun _ H => nM (e 10) rfl <| nP (R_idx TE_25) H fun _ H => nLN TN_45 H fun _ H => vl_n <| H_mkSl TZ_25 (by decide) rfl H rfl fun _ h H => vl_n <| H_app TZ_25 TU_25 H fun t53 h H => nS t53 rfl ?_
      refine vl_e ?_
      exact ⟨H, hq1⟩
    refine sR <| nM (e1 10) rfl <| nM (e1 9) rfl <| nP R_nil H fun _ H => nP (R_fld TF_167_2) H fun _ H => nL T1_25 H fun _ H => nP (R_len Tryz.underlying25) H fun _ H => nP R_lss H fun _ H => vl_e ?_
    refine cI H (fun H => ?_) fun H => ?_
    · refine WPc_skip ?_
      exact ⟨H, rfl⟩
    · refine WPc_exit ?_
      exact H
  refine sR <| nM t14 rfl <| vl_n <| H_call HB_104 H fun _ h H => vl_e ?_
  refine cI H (fun H => ?_) fun H => ?_
  · exact sR <| nM a2 rfl <| nM t14 rfl <| nP R_nil H fun _ H => nP (R_fld TF_167_2) H fun _ H => nL T1_25 H fun _ H => vl_n <| H_app TZ_25 TU_25 H fun t22 h H => nS t22 rfl <| vl_e <| WPc_ret <| resH_of rfl <| H
  · exact WPc_skip <| H

end Go.Proofs.YtgnnidefbeoibaaGreat
end
section
namespace Go.Proofs.YtgnnidefbeoibaaGreat
open Go.Hp
set_option maxRecDepth 100000
set_option maxHeartbeats 8000000
set_option linter.unusedVariables false
set_option linter.unusedSimpArgs false

/-! ### (*pub/tidwallbtree.BTreeG[impl.Item]).items -/
def BTreeG_I_items.j2 (s5 : Value) (h : Heap) (Q : Value → Heap → Prop) : Prop := Q s5 h
def BTreeG_I_items.j1 (s0 s1 : Value) (h : Heap) (Q : Value → Heap → Prop) : Prop := BTreeG_I_Len.call #[s0] h fun b h=>mks 45 2 16 [(.int .i64 0), (.int .i64 0)] (.int .i64 0) b h fun d h=>nilck s0 fun g=>fld 2 g fun i=>load1 i h fun j=>neNilP j fun k=>ifV k (nilck s0 fun l=>fld 2 l fun m=>BTreeG_I_nodeItems.call #[s0, m, d, s1] h fun n h=>BTreeG_I_items.j2 n h Q) (BTreeG_I_items.j2 d h Q)
def BTreeG_I_items.sh (a0 a1 : Value) (h : Heap) (Q : Value → Heap → Prop) : Prop := BTreeG_I_lock.call #[a0, a1] h fun b h=>ifV b (False) (BTreeG_I_items.j1 a0 a1 h Q)
theorem BTreeG_I_items.body (a0 a1 : Value) (h : Heap) (Q : Value → Heap → Prop) (H : BTreeG_I_items.sh a0 a1 h Q) : BTreeG_I_items.call #[a0, a1] h Q := by
  refine callsH_of (args := [a0, a1]) Tryz.func91 rfl rfl ?_
  unfold BTreeG_I_items.sh at H
  refine sR <| nS (.slice none 0 0) rfl <| vl_e ?_
  refine WPc_seq (fun e h => BTreeG_I_items.j1 (e 0) (e 1) h Q) ?_ (fun e h H => ?_)
  rotate_left
  · unfold BTreeG_I_items.j1 at H
    refine sR <| nM (e 0) rfl <| vl_n <| H_call HB_69 H fun _ h H => vl_n <| H_mks TZ_25 rfl H fun t13 h H => nS t13 rfl <| vl_e ?_
    refine WPc_seq (fun e h => BTreeG_I_items.j2 (e 5) h Q) ?_ (fun e h H => ?_)
    rotate_left
    · unfold BTreeG_I_items.j2 at H
      exact sR <| nM (e 5) rfl <| nS (e 5) rfl <| vl_e <| WPc_ret <| resH_of rfl <| H
    refine sR <| nM (e 0) rfl <| nP R_nil H fun _ H => nP (R_fld TF_162_2) H fun _ H => nL T1_76 H fun _ H => nP (R_neNilP Tryz.underlying76 rfl) H fun _ H => vl_e ?_
    refine cI H (fun H => ?_) fun H => ?_
    · exact W_region (by kernel_rfl) <| nM (e 0) rfl <| nM (e 0) rfl <| nP R_nil H fun _ H => nP (R_fld TF_162_2) H fun _ H => nM t13 rfl <| nM (e 1) rfl <| vl_n <| H_call HB_134 H fun t25 h H => nS t25 rfl <| vl_e <| H
    · exact WPc_skip <| H
  refine sR <| nM a0 rfl <| nM a1 rfl <| vl_n <| H_call HB_102 H fun _ h H => vl_e ?_
  refine cI H (fun H => ?_) fun H => ?_
  · refine W_region (by kernel_rfl) <| nM a0 rfl <| nM a1 rfl ?_
    refine vl_n ?_
    exact H.elim
  · exact WPc_skip <| H
/-! ### (*pub/tidwallbtree.BTreeG[impl.Item]).Items -/
def BTreeG_I_Items.sh (a0 : Value) (h : Heap) (Q : Value → Heap → Prop) : Prop := BTreeG_I_items.call #[a0, (.bool false)] h fun b h=>Q b h
theorem BTreeG_I_Items.body (a0 : Value) (h : Heap) (Q : Value → Heap → Prop) (H : BTreeG_I_Items.sh a0 h Q) : BTreeG_I_Items.call #[a0] h Q := by
  refine callsH_of (args := [a0]) Tryz.func44 rfl rfl ?_
  unfold BTreeG_I_Items.sh at H
  exact sR <| nS (.slice none 0 0) rfl <| vl_e <| sR <| nM a0 rfl <| vl_n <| H_call HB_91 H fun t4 h H => nS t4 rfl <| vl_e <| WPc_ret <| resH_of rfl <| H
/-! ### impl.GItems -/
def i_GItems.sh (a0 a1 : Value) (h : Heap) (Q : Value → Heap → Prop) : Prop := box 24 a0 h fun b h=>loadN 3 b h fun d=>i_grow.call #[d, a1] h fun g h=>BTreeG_I_Items.call #[g] h fun i h=>Q i h
theorem i_GItems.body (a0 a1 : Value) (h : Heap) (Q : Value → Heap → Prop) (H : i_GItems.sh a0 a1 h Q) : i_GItems.call #[a0, a1] h Q := by
  refine callsH_of (args := [a0, a1]) Tryz.func9 rfl rfl ?_
  unfold i_GItems.sh at H
  exact sR <| vl_n <| H_box H fun _ h H => nS (.slice none 0 0) rfl <| vl_e <| sR <| nLN TN_24 H fun _ H => nM a1 rfl <| vl_n <| H_call HB_43 H fun _ h H => vl_n <| H_call HB_44 H fun t8 h H => nS t8 rfl <| vl_e <| WPc_ret <| resH_of rfl <| H
/-! ### laws.exMake -/
def l_exMake.sh (h : Heap) (Q : Value → Heap → Prop) : Prop := alloc [(.slice none 0 0), (.int .i64 0), (.bool false)] 24 h fun b h=>buildV [(.slice none 0 0), (.int .i64 0), (.bool false)] [(1, 1, (.int .i64 2))] fun d=>storeN 3 b d h fun h=>loadN 3 b h fun g=>Q g h
theorem l_exMake.body (h : Heap) (Q : Value → Heap → Prop) (H : l_exMake.sh h Q) : l_exMake.call #[] h Q := by
  refine callsH_of (args := []) Tryz.func41 rfl rfl ?_
  unfold l_exMake.sh at H
  exact sR <| vl_n <| H_alloc TV_24 H fun _ h H => vl_e <| sR <| nP (R_build TB_24 rfl (by decide)) H fun _ H => vl_n <| H_storeN TS_24 H fun h H => vl_e <| WPc_ret <| resH_of rfl <| resL_N TN_24 <| loadN_imp H fun r0 H => H
/-! ### laws.exItems -/
def l_exItems.sh (h : Heap) (Q : Value → Heap → Prop) : Prop := buildV [(.int .i64 0), (.int .i64 0)] [(0, 1, (.int .i64 5)), (1, 1, (.int .i64 1))] fun b=>buildV [(.int .i64 0), (.int .i64 0)] [(0, 1, (.int .i64 3)), (1, 1, (.int .i64 2))] fun d=>buildV [(.int .i64 0), (.int .i64 0)] [(0, 1, (.int .i64 9)), (1, 1, (.int .i64 3))] fun g=>buildV [(.int .i64 0), (.int .i64 0)] [(0, 1, (.int .i64 3)), (1, 1, (.int .i64 4))] fun i=>buildV [(.int .i64 0), (.int .i64 0)] [(0, 1, (.int .i64 1)), (1, 1, (.int .i64 5))] fun j=>buildV [(.int .i64 0), (.int .i64 0)] [(0, 1, (.int .i64 7)), (1, 1, (.int .i64 6))] fun k=>buildV [(.int .i64 0), (.int .i64 0)] [(0, 1, (.int .i64 8)), (1, 1, (.int .i64 7))] fun l=>mkSl (if 7 * 2 = 0 then [] else zeros [(.int .i64 0), (.int .i64 0)] 7) 7 [(0 * 2, 2, b), (1 * 2, 2, d), (2 * 2, 2, g), (3 * 2, 2, i), (4 * 2, 2, j), (5 * 2, 2, k), (6 * 2, 2, l)] 45 h fun m h=>Q m h
theorem l_exItems.body (h : Heap) (Q : Value → Heap → Prop) (H : l_exItems.sh h Q) : l_exItems.call #[] h Q := by
  refine callsH_of (args := []) Tryz.func42 rfl rfl ?_
  unfold l_exItems.sh at H
  refine sR <| nS (.slice none 0 0) rfl <| vl_e <| sR <| nP (R_build TB_45 rfl (by decide)) H fun _ H => nP (R_build TB_45 rfl (by decide)) H fun _ H => nP (R_build TB_45 rfl (by decide)) H fun _ H => nP (R_build TB_45 rfl (by decide)) H fun _ H => nP (R_build TB_45 rfl (by decide)) H fun _ H => nP (R_build TB_45 rfl (by decide)) H fun _ H => nP (R_build TB_45 rfl (by decide)) H fun _ H => vl_n <| H_mkSl TZ_25 (by decide) rfl H rfl fun t8 h H => nS t8 rfl <| vl_e ?_
  exact WPc_ret <| resH_of rfl <| H
/-! ### laws.alive -/
def l_alive.sh (h : Heap) (Q : Value → Heap → Prop) : Prop := l_exMake.call #[] h fun b h=>l_exItems.call #[] h fun d h=>slc 2 d none (some (.int .i64 3)) none fun g=>i_GItems.call #[b, g] h fun i h=>lenV i fun j=>cmpI (fun a b=>a == b) j (.int .i64 3) fun k=>Q k h
theorem l_alive.body (h : Heap) (Q : Value → Heap → Prop) (H : l_alive.sh h Q) : l_alive.call #[] h Q := by
  refine callsH_of (args := []) Tryz.func8 rfl rfl ?_
  unfold l_alive.sh at H
  exact sR <| nS (.bool false) rfl <| vl_e <| sR <| vl_n <| H_call HB_41 H fun _ h H => vl_n <| H_call HB_42 H fun _ h H => nP (R_slice TE_25 (by decide)) H fun _ H => vl_n <| H_call HB_9 H fun _ h H => nP (R_len Tryz.underlying25) H fun _ H => nP R_eqI H fun t6 H => nS t6 rfl <| vl_e <| WPc_ret <| resH_of rfl <| H
/-! ### spec.Fits -/
def s_Fits.sh (a0 : Value) (h : Heap) (Q : Value → Heap → Prop) : Prop := cmpI (fun a b=>a == b) a0 (.int .i64 0) fun b=>br b false (cmpI (fun a b=>decide (a ≥ b)) a0 (.int .i64 2) fun d=>br d true (cmpI (fun a b=>decide (a ≤ b)) a0 (.int .i64 128) fun g=>Q g h) (Q (.bool false) h)) (Q (.bool true) h)
theorem s_Fits.body (a0 : Value) (h : Heap) (Q : Value → Heap → Prop) (H : s_Fits.sh a0 h Q) : s_Fits.call #[a0] h Q := by
  refine callsH_of (args := [a0]) Tryz.func40 rfl rfl ?_
  unfold s_Fits.sh at H
  refine sR <| nS (.bool false) rfl <| vl_e <| sR <| nM a0 rfl <| nP R_eqI H fun t4 H => nM t4 rfl ?_
  obtain ⟨b, hb, H1, H2⟩ := H
  cases b
  · have H := H1 rfl
    clear H1 H2
    refine vl_y rfl hb ?_
    refine H_of_R (R_move (v := a0) rfl ?_)
    refine vl_y rfl hb ?_
    refine H_of_R (R_geq H fun t7 H => ?_)
    refine vl_y rfl hb ?_
    refine H_of_R (R_move (v := t7) rfl ?_)
    obtain ⟨b_2, hb_2, H1, H2⟩ := H
    cases b_2
    · have H := H2 rfl
      clear H1 H2
      refine vl_s rfl (nbT hb_2) ?_
      refine vl_s rfl (nbT hb_2) ?_
      refine vl_y rfl hb ?_
      refine H_of_R (R_pickC (v := (.bool false)) false hb_2 rfl ?_)
      exact nA (R_pickC (v := (.bool false)) false hb rfl) <| nS (.bool false) rfl <| vl_e <| WPc_ret <| resH_of rfl <| H
    · have H := H1 rfl
      clear H1 H2
      refine vl_y rfl hb_2 ?_
      refine H_of_R (R_move (v := a0) rfl ?_)
      refine vl_y rfl hb_2 ?_
      refine H_of_R (R_leq H fun t10 H => ?_)
      refine vl_y rfl hb ?_
      refine H_of_R (R_pickC (v := t10) true hb_2 rfl ?_)
      exact nA (R_pickC (v := t10) false hb rfl) <| nS t10 rfl <| vl_e <| WPc_ret <| resH_of rfl <| H
  · have H := H2 rfl
    clear H1 H2
    refine vl_s rfl (nbF hb) ?_
    refine vl_s rfl (nbF hb) ?_
    refine vl_s rfl (nbF hb) ?_
    refine vl_s rfl nbU ?_
    refine vl_s rfl nbU ?_
    refine vl_s rfl (nbF hb) ?_
    exact nA (R_pickC (v := (.bool true)) true hb rfl) <| nS (.bool true) rfl <| vl_e <| WPc_ret <| resH_of rfl <| H
/-! ### laws.fit -/
def l_fit.sh (a0 : Value) (h : Heap) (Q : Value → Heap → Prop) : Prop := cmpI (fun a b=>decide (a > b)) a0 (.int .i64 0) fun b=>br b true (s_Fits.call #[a0] h fun d h=>Q d h) (Q (.bool false) h)
theorem l_fit.body (a0 : Value) (h : Heap) (Q : Value → Heap → Prop) (H : l_fit.sh a0 h Q) : l_fit.call #[a0] h Q := by
  refine callsH_of (args := [a0]) Tryz.func70 rfl rfl ?_
  unfold l_fit.sh at H
  refine sR <| nS (.bool false) rfl <| vl_e <| sR <| nM a0 rfl <| nP R_gtr H fun t4 H => nM t4 rfl ?_
  obtain ⟨b, hb, H1, H2⟩ := H
  cases b
  · have H := H2 rfl
    clear H1 H2
    refine vl_s rfl (nbT hb) ?_
    refine vl_s rfl (nbT hb) ?_
    exact nA (R_pickC (v := (.bool false)) false hb rfl) <| nS (.bool false) rfl <| vl_e <| WPc_ret <| resH_of rfl <| H
  · have H := H1 rfl
    clear H1 H2
    refine vl_y rfl hb ?_
    refine H_of_R (R_move (v := a0) rfl ?_)
    refine vl_y rfl hb ?_
    refine H_call HB_40 H fun t7 h H => ?_
    exact nA (R_pickC (v := t7) true hb rfl) <| nS t7 rfl <| vl_e <| WPc_ret <| resH_of rfl <| H
/-! ### laws.short -/
def l_short.j1 (s0 : Value) (h : Heap) (Q : Value → Heap → Prop) : Prop := l_fit.call #[s0] h fun b h=>Q b h
def l_short.j4 (s0 s7 s8 s9 : Value) (h : Heap) (K1 : List Value → Heap → Prop) (Q : Value → Heap → Prop) : Prop := arith (· + ·) s9 (.int .i64 1) fun b=>K1 [b] h
def l_short.j3 (s0 s7 s8 s9 : Value) (h : Heap) (K1 : List Value → Heap → Prop) (Q : Value → Heap → Prop) : Prop := idx 1 s7 s9 fun b=>load1 b h fun d=>lenV d fun g=>cmpI (fun a b=>decide (a > b)) g (.int .i64 150) fun i=>ifV i (Q (.bool false) h) (l_short.j4 s0 s7 s8 s9 h K1 Q)
def l_short.l2.b (c0 c7 c8 s9 : Value) (h : Heap) (K1 : List Value → Heap → Prop) (Q : Value → Heap → Prop) : Prop := cmpI (fun a b=>decide (a < b)) s9 c8 fun b=>ifV b (l_short.j3 c0 c7 c8 s9 h K1 Q) (l_short.j1 c0 h Q)
def l_short.sh (a0 a1 : Value) (h : Heap) (Q : Value → Heap → Prop) : Prop := lenV a1 fun b=>loopC (fun c s h K1=>l_short.l2.b (c.getD 0 undef) (c.getD 1 undef) (c.getD 2 undef) (s.getD 0 undef) h K1 Q) [a0, a1, b] [(.int .i64 0)] h
theorem l_short.body (a0 a1 : Value) (h : Heap) (Q : Value → Heap → Prop) (H : l_short.sh a0 a1 h Q) : l_short.call #[a0, a1] h Q := by
  refine callsH_of (args := [a0, a1]) Tryz.func31 rfl rfl ?_
  unfold l_short.sh at H
  refine sR <| nS (.bool false) rfl <| vl_e ?_
  refine WPc_seq (fun e h => l_short.j1 (e 0) h Q) ?_ (fun e h H => ?_)
  rotate_left
  · unfold l_short.j1 at H
    exact sR <| nM (e 0) rfl <| vl_n <| H_call HB_70 H fun t18 h H => nS t18 rfl <| vl_e <| WPc_ret <| resH_of rfl <| H
  refine sR <| nM a1 rfl <| nP (R_len Tryz.underlying50) H fun _ H => nM (.int .i64 0) rfl <| vl_e <| WPc_block ?_
  refine loop_at (fun e => [e 9]) (fun e => [e 0, e 7, e 8]) H rfl rfl ?_
  intro K1 e1 h H hin1
  replace H : l_short.l2.b (e1 0) (e1 7) (e1 8) (e1 9) h K1 Q := H
  unfold l_short.l2.b at H
  clear hin1
  refine sR <| nP R_lss H fun _ H => vl_e ?_
  refine WPc_seq (fun e h => l_short.j3 (e 0) (e 7) (e 8) (e 9) h K1 Q ∧ [e1 0, e1 7, e1 8] = [e 0, e 7, e 8]) ?_ (fun e h ⟨H, hq1⟩ => ?_)
  rotate_left
  · unfold l_short.j3 at H
    refine WPc_seq (fun e h => l_short.j4 (e 0) (e 7) (e 8) (e 9) h K1 Q ∧ [e1 0, e1 7, e1 8] = [e 0, e 7, e 8]) ?_ (fun e h ⟨H, hq1⟩ => ?_)
    rotate_left
    · unfold l_short.j4 at H
      refine W_region (by kernel_rfl) <| nP R_add H fun t16 H => nM t16 rfl <| vl_e ?_
      exact ⟨H, hq1⟩
    refine WPc_block <| sR <| nP (R_idx TE_50) H fun _ H => nL T1_25 H fun t12 H => nS t12 rfl <| vl_e <| sR <| nM t12 rfl <| nP (R_len Tryz.underlying25) H fun _ H => nP R_gtr H fun _ H => vl_e ?_
    refine cI H (fun H => ?_) fun H => ?_
    · exact sR <| nS (.bool false) rfl <| vl_e <| WPc_ret <| resH_of rfl <| H
    · refine WPc_skip ?_
      exact ⟨H, hq1⟩
  refine cI H (fun H => ?_) fun H => ?_
  · refine WPc_skip ?_
    exact ⟨H, rfl⟩
  · refine WPc_exit ?_
    exact H
/-! ### spec.Recorded -/
def s_Recorded.sh (h : Heap) (Q : Value → Heap → Prop) : Prop := mkSl (if 1 * 1 = 0 then [] else zeros [(.slice none 0 0)] 1) 1 [(0 * 1, 1, (.slice none 0 0))] 25 h fun b h=>buildV [(.slice none 0 0), (.bool false), (.bool false), (.slice none 0 0), (.slice none 0 0)] [(4, 1, b)] fun d=>box 131 d h fun g h=>Q g h
theorem s_Recorded.body (h : Heap) (Q : Value → Heap → Prop) (H : s_Recorded.sh h Q) : s_Recorded.call #[] h Q := by
  refine callsH_of (args := []) Tryz.func82 rfl rfl ?_
  unfold s_Recorded.sh at H
  exact sR <| nS (.pointer none) rfl <| vl_e <| sR <| vl_n <| H_mkSl TZ_50 (by decide) rfl H rfl fun _ h H => nP (R_build TB_131 rfl (by decide)) H fun _ H => vl_n <| H_box H fun t3 h H => nS t3 rfl <| vl_e <| WPc_ret <| resH_of rfl <| H
/-! ### impl.found -/
def i_found.j1 (s2 s4 : Value) (h : Heap) (Q : Value → Heap → Prop) : Prop := loadN 2 s2 h fun b=>buildV [(.int .i64 0), (.int .i64 0), (.bool false)] [(0, 2, b), (2, 1, (.bool true))] fun d=>storeN 3 s4 d h fun h=>loadN 3 s4 h fun g=>Q g h
def i_found.sh (a0 a1 : Value) (h : Heap) (Q : Value → Heap → Prop) : Prop := box 45 a0 h fun b h=>alloc [(.int .i64 0), (.int .i64 0), (.bool false)] 47 h fun d h=>notV a1 fun g=>ifV g (buildV [(.int .i64 0), (.int .i64 0), (.bool false)] [] fun i=>storeN 3 d i h fun h=>loadN 3 d h fun j=>Q j h) (i_found.j1 b d h Q)
theorem i_found.body (a0 a1 : Value) (h : Heap) (Q : Value → Heap → Prop) (H : i_found.sh a0 a1 h Q) : i_found.call #[a0, a1] h Q := by
  refine callsH_of (args := [a0, a1]) Tryz.func48 rfl rfl ?_
  unfold i_found.sh at H
  refine sR <| vl_n <| H_box H fun _ h H => vl_n <| H_alloc TV_47 H fun _ h H => vl_e ?_
  refine WPc_seq (fun e h => i_found.j1 (e 2) (e 4) h Q) ?_ (fun e h H => ?_)
  rotate_left
  · unfold i_found.j1 at H
    exact sR <| nLN TN_45 H fun _ H => nP (R_build TB_47 rfl (by decide)) H fun _ H => vl_n <| H_storeN TS_47 H fun h H => vl_e <| WPc_ret <| resH_of rfl <| resL_N TN_47 <| loadN_imp H fun r4 H => H
  refine sR <| nM a1 rfl <| nP R_not H fun _ H => vl_e ?_
  refine cI H (fun H => ?_) fun H => ?_
  · exact sR <| nP (R_build TB_47 rfl (by decide)) H fun _ H => vl_n <| H_storeN TS_47 H fun h H => vl_e <| WPc_ret <| resH_of rfl <| resL_N TN_47 <| loadN_imp H fun r4 H => H
  · exact WPc_skip <| H
/-! ### (*pub/tidwallbtree.BTreeG[impl.Item]).getAt -/
def BTreeG_I_getAt.j5 (s0 s1 s2 s6 s8 s9 : Value) (h : Heap) (K1 : List Value → Heap → Prop) (Q : Value → Heap → Prop) : Prop := nilck s8 fun b=>fld 3 b fun d=>load1 d h fun g=>nilck g fun i=>load1 i h fun j=>idx 1 j s9 fun k=>BTreeG_I_isoLoad.call #[s0, k, s2] h fun l h=>K1 [s1, l] h
def BTreeG_I_getAt.j8 (s0 s1 s2 s6 s8 s9 : Value) (h : Heap) (K1 : List Value → Heap → Prop) (K2 : List Value → Heap → Prop) (Q : Value → Heap → Prop) : Prop := arith (· + ·) s9 (.int .i64 1) fun b=>K2 [s1, b] h
def BTreeG_I_getAt.j9 (s0 s1 s2 s6 s8 s9 : Value) (h : Heap) (K1 : List Value → Heap → Prop) (K2 : List Value → Heap → Prop) (Q : Value → Heap → Prop) : Prop := nilck s8 fun b=>fld 3 b fun d=>load1 d h fun g=>nilck g fun i=>load1 i h fun j=>idx 1 j s9 fun k=>load1 k h fun l=>nilck l fun m=>fld 1 m fun n=>load1 n h fun o=>arith (· + ·) o (.int .i64 1) fun p=>arith (· - ·) s1 p fun q=>BTreeG_I_getAt.j8 s0 q s2 s6 s8 s9 h K1 K2 Q
def BTreeG_I_getAt.j7 (s0 s1 s2 s6 s8 s9 : Value) (h : Heap) (K1 : List Value → Heap → Prop) (K2 : List Value → Heap → Prop) (Q : Value → Heap → Prop) : Prop := nilck s8 fun b=>fld 3 b fun d=>load1 d h fun g=>nilck g fun i=>load1 i h fun j=>idx 1 j s9 fun k=>load1 k h fun l=>nilck l fun m=>fld 1 m fun n=>load1 n h fun o=>cmpI (fun a b=>decide (a < b)) s1 o fun p=>ifV p (BTreeG_I_getAt.j5 s0 s1 s2 s6 s8 s9 h K1 Q) (nilck s8 fun q=>fld 3 q fun u=>load1 u h fun v=>nilck v fun w=>load1 w h fun x=>idx 1 x s9 fun y=>load1 y h fun z=>nilck z fun b0=>fld 1 b0 fun b1=>load1 b1 h fun b2=>cmpI (fun a b=>a == b) s1 b2 fun b3=>ifV b3 (nilck s8 fun b4=>fld 2 b4 fun b5=>load1 b5 h fun b6=>idx 2 b6 s9 fun b7=>loadN 2 b7 h fun b8=>storeN 2 s6 b8 h fun h=>loadN 2 s6 h fun b9=>Q (.tuple #[b9, (.bool true)]) h) (BTreeG_I_getAt.j9 s0 s1 s2 s6 s8 s9 h K1 K2 Q))
def BTreeG_I_getAt.l6.b (c0 c2 c6 c8 s1 s9 : Value) (h : Heap) (K1 : List Value → Heap → Prop) (K2 : List Value → Heap → Prop) (Q : Value → Heap → Prop) : Prop := nilck c8 fun b=>fld 2 b fun d=>load1 d h fun g=>lenV g fun i=>cmpI (fun a b=>decide (a < b)) s9 i fun j=>ifV j (BTreeG_I_getAt.j7 c0 s1 c2 c6 c8 s9 h K1 K2 Q) (BTreeG_I_getAt.j5 c0 s1 c2 c6 c8 s9 h K1 Q)
def BTreeG_I_getAt.j4 (s0 s1 s2 s6 s8 : Value) (h : Heap) (K1 : List Value → Heap → Prop) (Q : Value → Heap → Prop) : Prop := loopC (fun c s h K2=>BTreeG_I_getAt.l6.b (c.getD 0 undef) (c.getD 1 undef) (c.getD 2 undef) (c.getD 3 undef) (s.getD 0 undef) (s.getD 1 undef) h K1 K2 Q) [s0, s2, s6, s8] [s1, (.int .i64 0)] h
def BTreeG_I_getAt.l3.b (c0 c2 c6 s1 s8 : Value) (h : Heap) (K1 : List Value → Heap → Prop) (Q : Value → Heap → Prop) : Prop := node_I_leaf.call #[s8] h fun b h=>ifV b (nilck s8 fun d=>fld 2 d fun g=>load1 g h fun i=>idx 2 i s1 fun j=>loadN 2 j h fun k=>storeN 2 c6 k h fun h=>loadN 2 c6 h fun l=>Q (.tuple #[l, (.bool true)]) h) (BTreeG_I_getAt.j4 c0 s1 c2 c6 s8 h K1 Q)
def BTreeG_I_getAt.j2 (s0 s1 s2 s6 : Value) (h : Heap) (Q : Value → Heap → Prop) : Prop := nilck s0 fun b=>fld 2 b fun d=>BTreeG_I_isoLoad.call #[s0, d, s2] h fun g h=>loopC (fun c s h K1=>BTreeG_I_getAt.l3.b (c.getD 0 undef) (c.getD 1 undef) (c.getD 2 undef) (s.getD 0 undef) (s.getD 1 undef) h K1 Q) [s0, s2, s6] [s1, g] h
def BTreeG_I_getAt.j1 (s0 s1 s2 s6 : Value) (h : Heap) (Q : Value → Heap → Prop) : Prop := nilck s0 fun b=>fld 2 b fun d=>load1 d h fun g=>eqNilP g fun i=>br i false (cmpI (fun a b=>decide (a < b)) s1 (.int .i64 0) fun j=>br j false (nilck s0 fun k=>fld 3 k fun l=>load1 l h fun m=>cmpI (fun a b=>decide (a ≥ b)) s1 m fun n=>ifV n (nilck s0 fun o=>fld 7 o fun p=>loadN 2 p h fun q=>storeN 2 s6 q h fun h=>loadN 2 s6 h fun u=>Q (.tuple #[u, (.bool false)]) h) (BTreeG_I_getAt.j2 s0 s1 s2 s6 h Q)) (nilck s0 fun v=>fld 7 v fun w=>loadN 2 w h fun x=>storeN 2 s6 x h fun h=>loadN 2 s6 h fun y=>Q (.tuple #[y, (.bool false)]) h)) (nilck s0 fun z=>fld 7 z fun b0=>loadN 2 b0 h fun b1=>storeN 2 s6 b1 h fun h=>loadN 2 s6 h fun b2=>Q (.tuple #[b2, (.bool false)]) h)
def BTreeG_I_getAt.sh (a0 a1 a2 : Value) (h : Heap) (Q : Value → Heap → Prop) : Prop := alloc [(.int .i64 0), (.int .i64 0)] 45 h fun b h=>BTreeG_I_lock.call #[a0, a2] h fun d h=>ifV d (False) (BTreeG_I_getAt.j1 a0 a1 a2 b h Q)
theorem BTreeG_I_getAt.body (a0 a1 a2 : Value) (h : Heap) (Q : Value → Heap → Prop) (H : BTreeG_I_getAt.sh a0 a1 a2 h Q) : BTreeG_I_getAt.call #[a0, a1, a2] h Q := by
  refine callsH_of (args := [a0, a1, a2]) Tryz.func101 rfl rfl ?_
  unfold BTreeG_I_getAt.sh at H
  refine sR <| vl_n <| H_alloc TV_45 H fun _ h H => nS (.bool false) rfl <| vl_e ?_
  refine WPc_seq (fun e h => BTreeG_I_getAt.j1 (e 0) (e 1) (e 2) (e 6) h Q) ?_ (fun e h H => ?_)
  rotate_left
  · unfold BTreeG_I_getAt.j1 at H
    refine WPc_seq (fun e h => BTreeG_I_getAt.j2 (e 0) (e 1) (e 2) (e 6) h Q) ?_ (fun e h H => ?_)
    rotate_left
    · unfold BTreeG_I_getAt.j2 at H
      refine sR <| nM (e 0) rfl <| nM (e 0) rfl <| nP R_nil H fun _ H => nP (R_fld TF_162_2) H fun _ H => nM (e 2) rfl <| vl_n <| H_call HB_103 H fun t41 h H => nS t41 rfl <| vl_e <| WPc_block ?_
      refine loop_at (fun e => [e 1, e 8]) (fun e => [e 0, e 2, e 6]) H rfl rfl ?_
      intro K1 e1 h H hin1
      replace H : BTreeG_I_getAt.l3.b (e1 0) (e1 2) (e1 6) (e1 1) (e1 8) h K1 Q := H
      unfold BTreeG_I_getAt.l3.b at H
      clear hin1
      refine WPc_block ?_
      refine WPc_seq (fun e h => BTreeG_I_getAt.j4 (e 0) (e 1) (e 2) (e 6) (e 8) h K1 Q ∧ [e1 0, e1 2, e1 6] = [e 0, e 2, e 6]) ?_ (fun e h ⟨H, hq1⟩ => ?_)
      rotate_left
      · unfold BTreeG_I_getAt.j4 at H
        refine sR <| nS (.int .i64 0) rfl <| vl_e ?_
        refine WPc_seq (fun e h => BTreeG_I_getAt.j5 (e 0) (e 1) (e 2) (e 6) (e 8) (e 9) h K1 Q ∧ [e1 0, e1 2, e1 6] = [e 0, e 2, e 6]) ?_ (fun e h ⟨H, hq1⟩ => ?_)
        rotate_left
        · unfold BTreeG_I_getAt.j5 at H
          refine W_region (by kernel_rfl) <| nM (e 0) rfl <| nM (e 8) rfl <| nP R_nil H fun _ H => nP (R_fld TF_167_3) H fun _ H => nL T1_165 H fun _ H => nP R_nil H fun _ H => nL T1_168 H fun _ H => nM (e 9) rfl <| nP (R_idx TE_168) H fun _ H => nM (e 2) rfl <| vl_n <| H_call HB_103 H fun t120 h H => nS t120 rfl <| vl_e ?_
          exact ⟨H, hq1⟩
        refine WPc_block ?_
        refine loop_at (fun e => [e 1, e 9]) (fun e => [e 0, e 2, e 6, e 8]) H rfl rfl ?_
        intro K2 e2 h H hin2
        replace H : BTreeG_I_getAt.l6.b (e2 0) (e2 2) (e2 6) (e2 8) (e2 1) (e2 9) h K1 K2 Q := H
        unfold BTreeG_I_getAt.l6.b at H
        have hz1 : [e1 0, e1 2, e1 6] = [e2 0, e2 2, e2 6] := Eq.trans hq1 (congrArg (fun l : List Value => [l.getD 0 undef, l.getD 1 undef, l.getD 2 undef]) hin2)
        clear hin2
        refine WPc_seq (fun e h => BTreeG_I_getAt.j7 (e 0) (e 1) (e 2) (e 6) (e 8) (e 9) h K1 K2 Q ∧ [e1 0, e1 2, e1 6] = [e 0, e 2, e 6] ∧ [e2 0, e2 2, e2 6, e2 8] = [e 0, e 2, e 6, e 8]) ?_ (fun e h ⟨H, hq1, hq2⟩ => ?_)
        rotate_left
        · unfold BTreeG_I_getAt.j7 at H
          refine WPc_seq (fun e h => BTreeG_I_getAt.j8 (e 0) (e 1) (e 2) (e 6) (e 8) (e 9) h K1 K2 Q ∧ [e1 0, e1 2, e1 6] = [e 0, e 2, e 6] ∧ [e2 0, e2 2, e2 6, e2 8] = [e 0, e 2, e 6, e 8]) ?_ (fun e h ⟨H, hq1, hq2⟩ => ?_)
          rotate_left
          · unfold BTreeG_I_getAt.j8 at H
            refine W_region (by kernel_rfl) <| nM (e 9) rfl <| nP R_add H fun t59 H => nS t59 rfl <| vl_e ?_
            exact ⟨H, hq2⟩
          refine WPc_block ?_
          refine WPc_seq (fun e h => BTreeG_I_getAt.j9 (e 0) (e 1) (e 2) (e 6) (e 8) (e 9) h K1 K2 Q ∧ [e1 0, e1 2, e1 6] = [e 0, e 2, e 6] ∧ [e2 0, e2 2, e2 6, e2 8] = [e 0, e 2, e 6, e 8]) ?_ (fun e h ⟨H, hq1, hq2⟩ => ?_)
          rotate_left
          · unfold BTreeG_I_getAt.j9 at H
            refine W_region (by kernel_rfl) <| nM (e 1) rfl <| nM (e 8) rfl <| nP R_nil H fun _ H => nP (R_fld TF_167_3) H fun _ H => nL T1_165 H fun _ H => nP R_nil H fun _ H => nL T1_168 H fun _ H => nM (e 9) rfl <| nP (R_idx TE_168) H fun _ H => nL T1_76 H fun _ H => nP R_nil H fun _ H => nP (R_fld TF_167_1) H fun _ H => nL T1_3 H fun _ H => ?_
            refine nP R_add H fun _ H => nP R_sub H fun t109 H => nS t109 rfl <| vl_e ?_
            exact ⟨H, hq1, hq2⟩
          refine sR <| nM (e 1) rfl <| nM (e 8) rfl <| nP R_nil H fun _ H => nP (R_fld TF_167_3) H fun _ H => nL T1_165 H fun _ H => nP R_nil H fun _ H => nL T1_168 H fun _ H => nM (e 9) rfl <| nP (R_idx TE_168) H fun _ H => nL T1_76 H fun _ H => nP R_nil H fun _ H => nP (R_fld TF_167_1) H fun _ H => nL T1_3 H fun _ H => ?_
          refine nP R_lss H fun _ H => vl_e ?_
          refine cI H (fun H => ?_) fun H => ?_
          · refine WPc_exit ?_
            exact ⟨H, hq1⟩
          · refine sR <| nM (e 1) rfl <| nM (e 8) rfl <| nP R_nil H fun _ H => nP (R_fld TF_167_3) H fun _ H => nL T1_165 H fun _ H => nP R_nil H fun _ H => nL T1_168 H fun _ H => nM (e 9) rfl <| nP (R_idx TE_168) H fun _ H => nL T1_76 H fun _ H => nP R_nil H fun _ H => nP (R_fld TF_167_1) H fun _ H => nL T1_3 H fun _ H => ?_
            refine nP R_eqI H fun _ H => vl_e ?_
            refine cI H (fun H => ?_) fun H => ?_
            · refine sR <| nM (e 8) rfl <| nP R_nil H fun _ H => nP (R_fld TF_167_2) H fun _ H => nL T1_25 H fun _ H => nM (e 9) rfl <| nP (R_idx TE_25) H fun _ H => nLN TN_45 H fun _ H => vl_n <| H_storeN TS_45 H fun h H => nS (.bool true) rfl <| vl_e <| WPc_ret <| resH_of rfl <| resL_N TN_45 ?_
              exact loadN_imp H fun r6 H => resL_t <| H
            · refine WPc_skip ?_
              exact ⟨H, hq1, hq2⟩
        refine sR <| nM (e2 9) rfl <| nM (e2 8) rfl <| nP R_nil H fun _ H => nP (R_fld TF_167_2) H fun _ H => nL T1_25 H fun _ H => nP (R_len Tryz.underlying25) H fun _ H => nP R_lss H fun _ H => vl_e ?_
        refine cI H (fun H => ?_) fun H => ?_
        · refine WPc_skip ?_
          exact ⟨H, hz1, rfl⟩
        · refine WPc_exit ?_
          exact ⟨H, hz1⟩
      refine sR <| nM (e1 8) rfl <| vl_n <| H_call HB_104 H fun _ h H => vl_e ?_
      refine cI H (fun H => ?_) fun H => ?_
      · refine sR <| nM (e1 8) rfl <| nP R_nil H fun _ H => nP (R_fld TF_167_2) H fun _ H => nL T1_25 H fun _ H => nM (e1 1) rfl <| nP (R_idx TE_25) H fun _ H => nLN TN_45 H fun _ H => vl_n <| H_storeN TS_45 H fun h H => nS (.bool true) rfl <| vl_e <| WPc_ret <| resH_of rfl <| resL_N TN_45 ?_
        exact loadN_imp H fun r6 H => resL_t <| H
      · refine WPc_skip ?_
        exact ⟨H, rfl⟩
    refine sR <| nM (e 0) rfl <| nP R_nil H fun _ H => nP (R_fld TF_162_2) H fun _ H => nL T1_76 H fun _ H => nP (R_eqNilP Tryz.underlying76 rfl) H fun t19 H => nM t19 rfl ?_
    obtain ⟨b, hb, H1, H2⟩ := H
    cases b
    · have H := H1 rfl
      clear H1 H2
      refine vl_y rfl hb ?_
      refine H_of_R (R_move (v := (e 1)) rfl ?_)
      refine vl_y rfl hb ?_
      refine H_of_R (R_lss H fun t22 H => ?_)
      refine nA (R_pickC (v := t22) false hb rfl) <| nM t22 rfl ?_
      obtain ⟨b_2, hb_2, H1, H2⟩ := H
      cases b_2
      · have H := H1 rfl
        clear H1 H2
        refine vl_y rfl hb_2 ?_
        refine H_of_R (R_move (v := (e 1)) rfl ?_)
        refine vl_y rfl hb_2 ?_
        refine H_of_R (R_move (v := (e 0)) rfl ?_)
        refine vl_y rfl hb_2 ?_
        refine H_of_R (R_nil H fun _ H => ?_)
        refine vl_y rfl hb_2 ?_
        refine H_of_R (R_fld TF_162_3 H fun _ H => ?_)
        refine vl_y rfl hb_2 ?_
        refine H_of_R (R_load1 T1_3 H fun _ _ _ _ H => ?_)
        refine vl_y rfl hb_2 ?_
        refine H_of_R (R_geq H fun t30 H => ?_)
        refine nA (R_pickC (v := t30) false hb_2 rfl) <| vl_e ?_
        refine cI H (fun H => ?_) fun H => ?_
        · exact sR <| nM (e 0) rfl <| nP R_nil H fun _ H => nP (R_fld TF_162_7) H fun _ H => nLN TN_45 H fun _ H => vl_n <| H_storeN TS_45 H fun h H => nS (.bool false) rfl <| vl_e <| WPc_ret <| resH_of rfl <| resL_N TN_45 <| loadN_imp H fun r6 H => resL_t <| H
        · exact WPc_skip <| H
      · have H := H2 rfl
        clear H1 H2
        refine vl_s rfl (nbF hb_2) ?_
        refine vl_s rfl (nbF hb_2) ?_
        refine vl_s rfl (nbF hb_2) ?_
        refine vl_s rfl (nbF hb_2) ?_
        refine vl_s rfl (nbF hb_2) ?_
        refine vl_s rfl (nbF hb_2) ?_
        refine nA (R_pickC (v := (.bool true)) true hb_2 rfl) <| vl_e ?_
        refine WPc_cond (t := true) rfl (fun _ => ?_) (fun hh => by cases hh)
        exact sR <| nM (e 0) rfl <| nP R_nil H fun _ H => nP (R_fld TF_162_7) H fun _ H => nLN TN_45 H fun _ H => vl_n <| H_storeN TS_45 H fun h H => nS (.bool false) rfl <| vl_e <| WPc_ret <| resH_of rfl <| resL_N TN_45 <| loadN_imp H fun r6_2 H => resL_t <| H
    · have H := H2 rfl
      clear H1 H2
      refine vl_s rfl (nbF hb) ?_
      refine vl_s rfl (nbF hb) ?_
      refine nA (R_pickC (v := (.bool true)) true hb rfl) <| nM (.bool true) rfl ?_
      refine vl_s rfl (nbF rfl) ?_
      refine vl_s rfl (nbF rfl) ?_
      refine vl_s rfl (nbF rfl) ?_
      refine vl_s rfl (nbF rfl) ?_
      refine vl_s rfl (nbF rfl) ?_
      refine vl_s rfl (nbF rfl) ?_
      refine nA (R_pickC (v := (.bool true)) true rfl rfl) <| vl_e ?_
      refine WPc_cond (t := true) rfl (fun _ => ?_) (fun hh => by cases hh)
      exact sR <| nM (e 0) rfl <| nP R_nil H fun _ H => nP (R_fld TF_162_7) H fun _ H => nLN TN_45 H fun _ H => vl_n <| H_storeN TS_45 H fun h H => nS (.bool false) rfl <| vl_e <| WPc_ret <| resH_of rfl <| resL_N TN_45 <| loadN_imp H fun r6_3 H => resL_t <| H
  refine sR <| nM a0 rfl <| nM a2 rfl <| vl_n <| H_call HB_102 H fun _ h H => vl_e ?_
  refine cI H (fun H => ?_) fun H => ?_
  · refine W_region (by kernel_rfl) <| nM a0 rfl <| nM a2 rfl ?_
    refine vl_n ?_
    exact H.elim
  · exact WPc_skip <| H
/-! ### (*pub/tidwallbtree.BTreeG[impl.Item]).GetAt -/
def BTreeG_I_GetAt.sh (a0 a1 : Value) (h : Heap) (Q : Value → Heap → Prop) : Prop := alloc [(.int .i64 0), (.int .i64 0)] 45 h fun b h=>BTreeG_I_getAt.call #[a0, a1, (.bool false)] h fun d h=>extr 0 d fun g=>extr 1 d fun i=>storeN 2 b g h fun h=>loadN 2 b h fun j=>Q (.tuple #[j, i]) h
theorem BTreeG_I_GetAt.body (a0 a1 : Value) (h : Heap) (Q : Value → Heap → Prop) (H : BTreeG_I_GetAt.sh a0 a1 h Q) : BTreeG_I_GetAt.call #[a0, a1] h Q := by
  refine callsH_of (args := [a0, a1]) Tryz.func49 rfl rfl ?_
  unfold BTreeG_I_GetAt.sh at H
  refine sR <| vl_n <| H_alloc TV_45 H fun _ h H => nS (.bool false) rfl <| vl_e <| sR <| nM a0 rfl <| nM a1 rfl <| vl_n <| H_call HB_101 H fun _ h H => nP R_ext H fun _ H => nP R_ext H fun t10 H => vl_n <| H_storeN TS_45 H fun h H => nS t10 rfl <| vl_e <| WPc_ret ?_
  exact resH_of rfl <| resL_N TN_45 <| loadN_imp H fun r4 H => resL_t <| H
end Go.Proofs.YtgnnidefbeoibaaGreat
end
section
namespace Go.Proofs.YtgnnidefbeoibaaGreat
open Go.Hp
set_option linter.unusedVariables false
set_option linter.unusedSimpArgs false
theorem degree_ok {h : Heap} {Q : Value → Heap → Prop} {d : Int} (h1 : 2 ≤ d) (h2 : d ≤ 1073741824) (H : Q (.tuple #[.int .i64 (d - 1), .int .i64 (2 * d - 1)]) h) : degreeToMinMax.call #[.int .i64 d] h Q := by
  refine degreeToMinMax.body _ _ _ ?_
  unfold degreeToMinMax.sh
  simp only [w_load1, w_loadN, w_nil, w_fld, w_idx, w_len, w_lenStr, w_cap, w_arith, w_divi, w_remi, w_cmpI, w_cmpS, w_not, w_ext, w_eqNilP, w_neNilP, w_eqB, w_pick, w_max, w_ifV, w_br, w_store1, w_storeN, w_alloc, w_box, add_mk, Nat.zero_add, Nat.add_zero, Option.some.injEq, exists_eq_left', List.getElem?_cons_zero, List.getElem?_cons_succ, List.getD_cons_zero, List.getD_cons_succ]
  refine ⟨fun e => absurd e (by simp; omega), fun _ => ⟨fun e => absurd e (by simp; omega), fun _ => ?_⟩⟩
  unfold degreeToMinMax.j1
  simp only [w_load1, w_loadN, w_nil, w_fld, w_idx, w_len, w_lenStr, w_cap, w_arith, w_divi, w_remi, w_cmpI, w_cmpS, w_not, w_ext, w_eqNilP, w_neNilP, w_eqB, w_pick, w_max, w_ifV, w_br, w_store1, w_storeN, w_alloc, w_box, add_mk, Nat.zero_add, Nat.add_zero, Option.some.injEq, exists_eq_left', List.getElem?_cons_zero, List.getElem?_cons_succ, List.getD_cons_zero, List.getD_cons_succ]
  rw [i64w (n := d * 2) (by omega) (by omega), i64w (n := d * 2 - 1) (by omega) (by omega)]
  have hd : (d * 2 - 1).tdiv 2 = d - 1 := by rw [Int.tdiv_eq_ediv_of_nonneg (by omega)]; omega
  rw [hd, i64w (n := d - 1) (by omega) (by omega), show d * 2 - 1 = 2 * d - 1 by omega]
  exact ⟨by decide, H⟩
theorem degree_zero {h : Heap} {Q : Value → Heap → Prop} (H : Q (.tuple #[.int .i64 31, .int .i64 63]) h) : degreeToMinMax.call #[.int .i64 0] h Q := by
  refine degreeToMinMax.body _ _ _ ?_
  unfold degreeToMinMax.sh
  simp only [w_load1, w_loadN, w_nil, w_fld, w_idx, w_len, w_lenStr, w_cap, w_arith, w_divi, w_remi, w_cmpI, w_cmpS, w_not, w_ext, w_eqNilP, w_neNilP, w_eqB, w_pick, w_max, w_ifV, w_br, w_store1, w_storeN, w_alloc, w_box, add_mk, Nat.zero_add, Nat.add_zero, Option.some.injEq, exists_eq_left', List.getElem?_cons_zero, List.getElem?_cons_succ, List.getD_cons_zero, List.getD_cons_succ]
  refine ⟨fun _ => ?_, fun e => absurd e (by simp)⟩
  unfold degreeToMinMax.j1
  simp only [w_load1, w_loadN, w_nil, w_fld, w_idx, w_len, w_lenStr, w_cap, w_arith, w_divi, w_remi, w_cmpI, w_cmpS, w_not, w_ext, w_eqNilP, w_neNilP, w_eqB, w_pick, w_max, w_ifV, w_br, w_store1, w_storeN, w_alloc, w_box, add_mk, Nat.zero_add, Nat.add_zero, Option.some.injEq, exists_eq_left', List.getElem?_cons_zero, List.getElem?_cons_succ, List.getD_cons_zero, List.getD_cons_succ]
  exact ⟨by decide, H⟩
end Go.Proofs.YtgnnidefbeoibaaGreat
end
section
namespace Go.Proofs.YtgnnidefbeoibaaGreat.Gi
open Go.Hp
set_option linter.unusedVariables false
set_option linter.unusedSimpArgs false
abbrev It := Int × Int
abbrev enc (p : It) : List Value := [.int .i64 p.1, .int .i64 p.2]
abbrev emp : It := (0, 0)
abbrev av (p : It) : Value := .agg (enc p).toArray
/-- The cells of a tree's head, in parts. -/
abbrev hd0 (iso : Int) (ctr : Option Addr) : List Value := [.int .u64 iso, .pointer ctr]
abbrev hd4 (lf : Value) (mn mx : Int) : List Value := [.bool false, .bool false, lf] ++ enc emp ++ [.int .i64 mx, .int .i64 mn]
abbrev hdr (iso : Int) (ctr root : Option Addr) (cnt : Int) (lf : Value) (mn mx : Int) : List Value := [.int .u64 iso, .pointer ctr, .pointer root, .int .i64 cnt] ++ hd4 lf mn mx
theorem encl (p : It) : (enc p).length = 2 := rfl
theorem enc1 (p : It) : ∀ y ∈ enc p, one1 y = true := by simp [one1]
/-- A function value that answers as the order does, as long as what it hangs on stays. -/
structure OrdC (Z : List Rg) (lf : Value) (lt : It → It → Bool) : Prop where
  nn : notNil lf = true
  one : one1 lf = true
  call : ∀ {h0 h : Heap} {E : List Rg} {a b : It} {Q : Value → Heap → Prop}, St h0 Z E h → (∀ E' h', St h [] E' h' → Q (.bool (lt a b)) h') → callV Tryz.prog lf #[av a, av b] h Q
theorem OrdC.mono {Z Z' : List Rg} {lf : Value} {lt : It → It → Bool} (o : OrdC Z lf lt) (hz : ∀ r, r ∈ Z → r ∈ Z') : OrdC Z' lf lt := ⟨o.nn, o.one, fun s H => o.call (s.subZ hz) H⟩
/-- The cells of a hint. -/
def HintC (hc : List Value) : Prop := ∃ (us : List Bool) (ps : List Int), us.length = 8 ∧ ps.length = 8 ∧ (∀ p ∈ ps, 0 ≤ p ∧ p ≤ 255) ∧ hc = (us.map fun b => .bool b) ++ ps.map fun p => .int .u8 p
theorem HintC.len {hc : List Value} (h : HintC hc) : hc.length = 16 := by
  obtain ⟨us, ps, h1, h2, _, rfl⟩ := h; simp [h1, h2]
theorem HintC.used {hc : List Value} (h : HintC hc) {i : Nat} (hi : i < 8) : ∃ b, hc[i]? = some (.bool b) := by
  obtain ⟨us, ps, h1, h2, _, rfl⟩ := h
  exact ⟨us[i], by rw [List.getElem?_append_left (by simp; omega), List.getElem?_map, List.getElem?_eq_getElem (by omega)]; rfl⟩
theorem HintC.path {hc : List Value} (h : HintC hc) {i : Nat} (hi : i < 8) : ∃ p, hc[8 + i]? = some (.int .u8 p) ∧ 0 ≤ p ∧ p ≤ 255 := by
  obtain ⟨us, ps, h1, h2, h3, rfl⟩ := h
  refine ⟨ps[i], ?_, h3 _ (List.getElem_mem _)⟩
  rw [List.getElem?_append_right (by simp; omega), List.length_map, h1, Nat.add_sub_cancel_left, List.getElem?_map, List.getElem?_eq_getElem (by omega)]; rfl
theorem HintC.setU {hc : List Value} (h : HintC hc) {i : Nat} (hi : i < 8) (b : Bool) : HintC (hc.set i (.bool b)) := by
  obtain ⟨us, ps, h1, h2, h3, rfl⟩ := h
  refine ⟨us.set i b, ps, by simp [h1], h2, h3, ?_⟩
  rw [List.set_append_left _ _ (by simp; omega), List.map_set]
theorem HintC.setP {hc : List Value} (h : HintC hc) {i : Nat} (hi : i < 8) {p : Int} (h0 : 0 ≤ p) (hp : p ≤ 255) : HintC (hc.set (8 + i) (.int .u8 p)) := by
  obtain ⟨us, ps, h1, h2, h3, rfl⟩ := h
  refine ⟨us, ps.set i p, h1, by simp [h2], fun q hq => ?_, ?_⟩
  · rcases List.mem_or_eq_of_mem_set hq with e | e
    · exact h3 q e
    · rw [e]; exact ⟨h0, hp⟩
  · rw [List.set_append_right _ _ (by simp; omega), List.length_map, h1, Nat.add_sub_cancel_left, List.map_set]
theorem HintC.zero : HintC (List.replicate 8 (.bool false) ++ List.replicate 8 (.int .u8 0)) := ⟨List.replicate 8 false, List.replicate 8 0, rfl, rfl, by simp, by simp⟩
/-- No hint, or one that lies in the range. -/
def HnO (hv : Value) (hb ho : Nat) (hc : List Value) : Prop := (hv = .pointer none ∧ hc = []) ∨ (hv = ptr hb ho ∧ HintC hc)
abbrev Hn (hv : Value) (hb : Nat) (hc : List Value) : Prop := HnO hv hb 0 hc
theorem Hn.none : Hn (.pointer none) 0 [] := .inl ⟨rfl, rfl⟩
theorem Hn.some {hb : Nat} {hc : List Value} (h : HintC hc) : Hn (ptr hb 0) hb hc := .inr ⟨rfl, h⟩
theorem u64w {n : Int} (h1 : 0 ≤ n) (h2 : n ≤ 9223372036854775807) : IntKind.wrap .u64 n = n := by
  have e : IntKind.wrap .u64 n = n % 18446744073709551616 := rfl
  rw [e]; omega
theorem u8w (n : Int) : 0 ≤ IntKind.wrap .u8 n ∧ IntKind.wrap .u8 n ≤ 255 := by
  have e : IntKind.wrap .u8 n = n % 256 := rfl
  rw [e]; omega
theorem r_idxA {len sz b o : Nat} {k : IntKind} {i : Int} {K : Value → Prop} (n j : Nat) (hi : i = n) (hn : n < len) (hj : o + n * sz = j) (H : K (ptr b j)) : idxA len sz (ptr b o) (.int k i) K :=
  ⟨_, k, i, rfl, rfl, by omega, by omega, by rw [add_mk, show i.toNat = n by omega, hj]; exact H⟩
theorem r_div2 {n : Nat} {K : Value → Prop} (h : n ≤ 9223372036854775807) (H : K (.int .i64 ((n / 2 : Nat) : Int))) : divi (.int .i64 n) (.int .i64 2) K :=
  ⟨.i64, _, _, rfl, rfl, by decide, by rw [show ((n : Int)).tdiv 2 = ((n / 2 : Nat) : Int) from (Int.ofNat_tdiv n 2).symm, i64w (by omega) (by omega)]; exact H⟩
theorem _root_.Go.Hp.St.dropMid {h0 h : Heap} {Z A E : List Rg} {r : Rg} (s : St h0 Z (r :: (A ++ E)) h) : St h0 Z (r :: E) h := s.sub (List.Sublist.cons_cons _ (List.sublist_append_right _ _))
/-- What the search in a node tells. -/
theorem found_at {lt : It → It → Bool} (o : Swo lt) {its : List It} {x : It} (ha : Asc lt its) {i : Nat} (hi : i < its.length) (h1 : lt x its[i] = false) (h2 : lt its[i] x = false) : pos lt its x = i ∧ (lget lt its x).isSome = true := by
  have hs : ∀ i j (hi : i < its.length) (hj : j < its.length), i < j → lt its[i] its[j] = true := fun i j hi hj hij => List.pairwise_iff_getElem.1 ha i j hi hj hij
  have e : pos lt its x = i := pos_uni (by omega) (fun j hj hjl => o.tr1 (hs j i hj hi hjl) h1) (fun _ => h2)
  refine ⟨e, ?_⟩
  unfold lget; rw [e, List.getElem?_eq_getElem hi, Option.bind_some, h1]; rfl
theorem notfound_at {lt : It → It → Bool} (o : Swo lt) {its : List It} {x : It} (ha : Asc lt its) {i : Nat} (hi : i ≤ its.length) (h1 : ∀ (h : i < its.length), lt x its[i] = true) (h2 : ∀ (h : i - 1 < its.length), 0 < i → lt its[i - 1] x = true) : pos lt its x = i ∧ (lget lt its x).isSome = false := by
  have hs : ∀ i j (hi : i < its.length) (hj : j < its.length), i < j → lt its[i] its[j] = true := fun i j hi hj hij => List.pairwise_iff_getElem.1 ha i j hi hj hij
  have e : pos lt its x = i := by
    refine pos_uni hi (fun j hj hjl => ?_) (fun hl => o.asym (h1 hl))
    rcases Nat.lt_or_ge j (i - 1) with hl | hl
    · exact o.tr _ _ _ (hs j (i - 1) hj (by omega) hl) (h2 (by omega) (by omega))
    · have : j = i - 1 := by omega
      subst this; exact h2 hj (by omega)
  refine ⟨e, ?_⟩
  unfold lget; rw [e]
  rcases Nat.lt_or_ge i its.length with hl | hl
  · rw [List.getElem?_eq_getElem hl, Option.bind_some, h1 hl]; rfl
  · rw [List.getElem?_eq_none hl]; rfl
end Go.Proofs.YtgnnidefbeoibaaGreat.Gi
end
section
namespace Go.Proofs.YtgnnidefbeoibaaGreat.Gi
open Go.Hp Go.Proofs.YtgnnidefbeoibaaGreat
set_option linter.unusedVariables false
set_option linter.unusedSimpArgs false
variable {h0 h : Heap} {Z E : List Rg} {Q : Value → Heap → Prop} {lt : It → It → Bool} {lf : Value}

theorem bsearch_ok (o : Swo lt) (hO : OrdC Z lf lt) {tb n : Nat} {iv : Value} {its : List It} {x : It} (s : St h0 Z E h) (hlf : cl h tb 6 = some lf) (hn : cl h n 2 = some iv) (hr : Rdl 2 h iv its.length (its.flatMap enc)) (ha : Asc lt its) (hb : its.length ≤ 4611686018427387903)
    (H : ∀ E' h', St h [] E' h' → Q (.tuple #[.int .i64 (pos lt its x), .bool (lget lt its x).isSome]) h') : BTreeG_I_bsearch.call #[ptr tb 0, ptr n 0, av x] h Q := by
  have hs : ∀ i j (hi : i < its.length) (hj : j < its.length), i < j → lt its[i] its[j] = true := fun i j hi hj hij => List.pairwise_iff_getElem.1 ha i j hi hj hij
  refine BTreeG_I_bsearch.body _ _ _ _ _ ?_
  unfold BTreeG_I_bsearch.sh
  have u := St.start h
  refine St.r_box (cs := enc x) u fun t5 h1 u => ?_
  refine r_nil ?_
  refine r_fld ?_
  refine u.r_loadB hn ?_
  refine hr.lenV ?_
  refine loop_intro (fun st h' => ∃ (lo hi : Nat) (R : List Rg), st = [.int .i64 lo, .int .i64 hi] ∧ lo ≤ hi ∧ hi ≤ its.length ∧ (∀ i (hi' : i < its.length), i < lo → lt x its[i] = false) ∧ (∀ i (hi' : i < its.length), hi ≤ i → lt x its[i] = true) ∧ St h [] ((t5, 0, enc x) :: R) h')
    (fun st _ => (Hp.iv (st.getD 1 undef) - Hp.iv (st.getD 0 undef)).toNat) ⟨0, its.length, [], rfl, by omega, by omega, fun i hi hl => by omega, fun i h1 h2 => by omega, u⟩ ?_
  clear u
  rintro st h1 ⟨lo, hi, R, rfl, h1', h2, h3, h4, u⟩
  unfold BTreeG_I_bsearch.l3.b
  refine r_cmpI ?_
  refine r_if (fun hlt => ?_) (fun hge => ?_)
  · have hlt : lo < hi := by simpa using hlt
    have hm : (lo + hi) / 2 < its.length := by omega
    unfold BTreeG_I_bsearch.j4
    refine r_add (z := ((lo + hi : Nat) : Int)) (by rw [i64w (by omega) (by omega)]; omega) ?_
    refine r_cvI (z := ((lo + hi : Nat) : Int)) (u64w (by omega) (by omega)) ?_
    refine r_shr (z := (((lo + hi) / 2 : Nat) : Int)) (by decide) (by show (((lo + hi : Nat) : Int)).fdiv 2 = _; rw [Int.fdiv_eq_ediv_of_nonneg _ (by decide)]; omega) ?_
    refine r_cvI (z := (((lo + hi) / 2 : Nat) : Int)) (i64w (by omega) (by omega)) ?_
    refine r_nil ?_
    refine r_fld ?_
    refine u.r_loadB hlf ?_
    refine St.r_loadN0 u 0 rfl (by simp) ?_
    refine r_nil ?_
    refine r_fld ?_
    refine u.r_loadB hn ?_
    refine hr.at (n := (lo + hi) / 2) (f := enc) rfl encl rfl rfl hm fun b ob hbb => ?_
    refine (hbb.st u).loadN rfl ?_
    refine hO.call (s.join u) (a := x) (b := its[(lo + hi) / 2]) fun E2 h2' u2 => ?_
    have u := (u.join u2).perm List.perm_append_comm
    refine r_not ?_
    refine r_if (fun hc => ?_) (fun hc => ?_)
    · have hc : lt x its[(lo + hi) / 2] = false := by simpa using hc
      refine r_add (z := (((lo + hi) / 2 + 1 : Nat) : Int)) (by rw [i64w (by omega) (by omega)]; omega) ?_
      refine ⟨⟨(lo + hi) / 2 + 1, hi, _, rfl, by omega, h2, fun i hi' hl => ?_, h4, u⟩, by simp; omega⟩
      rcases Nat.lt_or_ge i ((lo + hi) / 2) with hl | hl
      · cases e : lt x its[i] with
        | false => rfl
        | true => have := o.tr _ _ _ e (hs i _ hi' hm hl); rw [hc] at this; cases this
      · have : i = (lo + hi) / 2 := by omega
        subst this; exact hc
    · have hc : lt x its[(lo + hi) / 2] = true := by simpa using hc
      refine ⟨⟨lo, (lo + hi) / 2, _, rfl, by omega, by omega, h3, fun i hi1 hi2 => ?_, u⟩, by simp; omega⟩
      rcases Nat.lt_or_ge ((lo + hi) / 2) i with hl | hl
      · exact o.tr _ _ _ hc (hs _ i hm hi1 hl)
      · have : i = (lo + hi) / 2 := by omega
        subst this; exact hc
  · have hge : lo = hi := by simp at hge; omega
    subst hge
    have no : ∀ {h' : Heap} {R : List Rg}, St h [] R h' → (∀ hp : lo - 1 < its.length, 0 < lo → lt its[lo - 1] x = true) → BTreeG_I_bsearch.j2 (.int .i64 lo) h' Q := fun u h5 => by
      obtain ⟨e1, e2⟩ := notfound_at o (x := x) ha h2 (fun hl => h4 lo hl (Nat.le_refl _)) h5
      have := H _ _ u
      rw [e1, e2] at this
      exact this
    unfold BTreeG_I_bsearch.j1
    refine r_cmpI ?_
    refine r_br (fun hpos => ?_) (fun hz => ?_)
    · have hpos : 0 < lo := by simpa using hpos
      have hm : lo - 1 < its.length := by omega
      refine r_nil ?_
      refine r_fld ?_
      refine u.r_loadB hlf ?_
      refine r_nil ?_
      refine r_fld ?_
      refine u.r_loadB hn ?_
      refine r_sub1 (by omega) (by omega) ?_
      refine hr.at (n := lo - 1) (f := enc) rfl encl rfl rfl hm fun b ob hbb => ?_
      refine (hbb.st u).loadN rfl ?_
      refine St.r_loadN0 u 0 rfl (by simp) ?_
      refine hO.call (s.join u) (a := its[lo - 1]) (b := x) fun E2 h2' u2 => ?_
      have u := (u.join u2).perm List.perm_append_comm
      refine r_not ?_
      refine r_if (fun hc => ?_) (fun hc => ?_)
      · have hc : lt its[lo - 1] x = false := by simpa using hc
        refine r_sub1 (by omega) (by omega) ?_
        obtain ⟨e1, e2⟩ := found_at o ha hm (h3 _ hm (by omega)) hc
        have := H _ _ u
        rw [e1, e2] at this
        exact this
      · exact no u (fun _ _ => by simpa using hc)
    · exact no u (fun _ e => by simp at hz; omega)
theorem node_leaf_ok {n : Nat} {a : Option Addr} (hn : cl h n 3 = some (.pointer a)) (H : Q (.bool a.isNone) h) : node_I_leaf.call #[ptr n 0] h Q := by
  refine node_I_leaf.body _ _ _ ?_
  unfold node_I_leaf.sh
  have s := St.start h
  refine r_nil ?_
  refine r_fld ?_
  refine s.r_loadB hn ?_
  refine r_eqNilP ?_
  exact H
theorem Less_ok (hO : OrdC Z lf lt) {tb : Nat} {a b : It} (s : St h0 Z E h) (hlf : cl h tb 6 = some lf) (H : ∀ E' h', St h [] E' h' → Q (.bool (lt a b)) h') : BTreeG_I_Less.call #[ptr tb 0, av a, av b] h Q := by
  refine BTreeG_I_Less.body _ _ _ _ _ ?_
  unfold BTreeG_I_Less.sh
  have u := St.start h
  refine St.r_box (cs := enc a) u fun t4 h1 u => ?_
  refine St.r_box (cs := enc b) u fun t5 h1 u => ?_
  refine r_nil ?_
  refine r_fld ?_
  refine u.r_loadB hlf ?_
  refine St.r_loadN0 u 1 rfl (by simp) ?_
  refine St.r_loadN0 u 0 rfl (by simp) ?_
  refine hO.call (s.join u) fun E2 h2 u2 => ?_
  exact H _ _ (u.join u2)
section
variable {tb n hb ho dp : Nat} {iv : Value} {its : List It} {x : It} {a : Option Addr}
/-- The end of a search with a hint: the hint is written. -/
theorem hint_end {hc : List Value} {i : Int} {f : Bool} (hh : HintC hc) (hd : dp ≤ 4611686018427387903) (s : St h0 Z ((hb, ho, hc) :: E) h) {c0 c1 c2 : Value} (hl : (n, 0, [c0, c1, c2, .pointer a]) ∈ E ++ Z) (hi : 0 ≤ i) (hi2 : i ≤ 4611686018427387903)
    (H : ∀ hc' h', HintC hc' → St h0 Z ((hb, ho, hc') :: E) h' → Q (.tuple #[.int .i64 i, .bool f]) h') : BTreeG_I_hintsearch.j1 (ptr n 0) (ptr hb ho) (.int .i64 dp) (.int .i64 i) (.bool f) h Q := by
  unfold BTreeG_I_hintsearch.j1
  have e2 : ∀ {hc' : List Value} {h' : Heap}, HintC hc' → St h0 Z ((hb, ho, hc') :: E) h' → BTreeG_I_hintsearch.j2 (.int .i64 i) (.bool f) h' Q := fun h1 s => H _ _ h1 s
  refine r_cmpI ?_
  refine r_if (fun hlt => ?_) (fun _ => e2 hh s)
  have hlt : dp < 8 := by have := of_decide_eq_true hlt; omega
  have e3 : ∀ {hc' : List Value} {h' : Heap} (p : Int), HintC hc' → St h0 Z ((hb, ho, hc') :: E) h' → BTreeG_I_hintsearch.j3 (ptr hb ho) (.int .i64 dp) (.int .i64 i) (.bool f) (.int .u8 (IntKind.wrap .u8 p)) h' Q := fun {hc'} {h'} p hh s => by
    unfold BTreeG_I_hintsearch.j3
    obtain ⟨q, hq, _, _⟩ := hh.path hlt
    have hlen := hh.len
    refine r_nil ?_
    refine r_fld ?_
    refine r_idxA dp (ho + (8 + dp)) rfl hlt (by omega) ?_
    refine St.r_load1 s 0 (j := 8 + dp) rfl hq ?_
    refine r_cmpI ?_
    refine r_if (fun _ => ?_) (fun _ => e2 hh s)
    refine r_nil ?_
    refine r_fld ?_
    refine r_idxA dp (ho + (8 + dp)) rfl hlt (by omega) ?_
    refine St.r_store1 s 0 (j := 8 + dp) rfl (by omega) rfl ?_; intro h' s
    have hh := hh.setP hlt (u8w p).1 (u8w p).2
    have s : St h0 Z ((hb, ho, hc'.set (8 + dp) (.int .u8 (IntKind.wrap .u8 p))) :: E) h' := s
    refine r_add1 (by omega) ?_
    refine loop_intro (fun st h => ∃ (j : Nat) (hc : List Value), st = [.int .i64 j] ∧ j ≤ 8 ∧ HintC hc ∧ St h0 Z ((hb, ho, hc) :: E) h) (fun st _ => 8 - (Hp.iv (st.getD 0 undef)).toNat) ⟨dp + 1, _, rfl, by omega, hh, s⟩ ?_
    clear hh s
    rintro st h ⟨j, hc, rfl, hj, hh, s⟩
    unfold BTreeG_I_hintsearch.l4.b
    have hlen := hh.len
    refine r_cmpI ?_
    refine r_if (fun hl => ?_) (fun _ => e2 hh s)
    have hl : j < 8 := by have := of_decide_eq_true hl; omega
    unfold BTreeG_I_hintsearch.j5
    refine r_nil ?_
    refine r_fld ?_
    refine r_idxA j (ho + j) rfl hl (by omega) ?_
    refine St.r_store1 s 0 (j := j) rfl (by omega) rfl ?_; intro h s
    unfold BTreeG_I_hintsearch.j6
    refine r_add1 (by omega) ?_
    exact ⟨⟨j + 1, _, rfl, by omega, hh.setU hl false, s⟩, by simp; omega⟩
  have hlen := hh.len
  refine r_nil ?_
  refine r_fld ?_
  refine r_idxA dp (ho + dp) rfl hlt (by omega) ?_
  refine St.r_store1 s 0 (j := dp) rfl (by omega) rfl ?_; intro h1 s1
  have hh1 := hh.setU hlt true
  have s1 : St h0 Z ((hb, ho, hc.set dp (.bool true)) :: E) h1 := s1
  have hl1 : cl h1 n 3 = some (.pointer a) := by
    have := s1.getM (j := 3) (List.mem_cons_of_mem _ hl) (by simp); simpa using this
  refine node_leaf_ok hl1 ?_
  refine r_br (fun _ => ?_) (fun _ => ?_)
  · refine r_if (fun _ => ?_) (fun _ => ?_)
    · refine r_add (z := i + 1) (i64w (by omega) (by omega)) ?_
      exact r_cvI rfl (e3 _ hh1 s1)
    · exact r_cvI rfl (e3 _ hh1 s1)
  · exact r_cvI rfl (e3 _ hh1 s1)
/-- The search between two bounds. -/
theorem hint_mid (o : Swo lt) (hO : OrdC Z lf lt) {b : Heap} {R : List Rg} {t7 lo : Nat} {hi : Int} {hc : List Value} (hh : HintC hc) (hd : dp ≤ 4611686018427387903) (s : St h0 Z ((hb, ho, hc) :: E) b) (hlf : cl b tb 6 = some lf) {c0 c1 : Value} (hl : (n, 0, [c0, c1, iv, .pointer a]) ∈ E ++ Z) (hr : Rdl 2 b iv its.length (its.flatMap enc)) (ha : Asc lt its) (hb2 : its.length ≤ 4611686018427387903)
    (u : St b [] ((t7, 0, enc x) :: R) h) (h1 : (lo : Int) ≤ hi + 1) (h2 : hi < its.length) (h3 : ∀ i (hi' : i < its.length), i < lo → lt x its[i] = false) (h4 : ∀ i (hi' : i < its.length), hi < i → lt x its[i] = true)
    (H : ∀ hc' h', HintC hc' → St h0 Z ((hb, ho, hc') :: E) h' → Q (.tuple #[.int .i64 (pos lt its x), .bool (lget lt its x).isSome]) h') : BTreeG_I_hintsearch.j7 (ptr tb 0) (ptr n 0) (ptr hb ho) (.int .i64 dp) (ptr t7 0) (.int .i64 lo) (.int .i64 hi) h Q := by
  have hs : ∀ i j (hi : i < its.length) (hj : j < its.length), i < j → lt its[i] its[j] = true := fun i j hi hj hij => List.pairwise_iff_getElem.1 ha i j hi hj hij
  have hn : cl b n 2 = some iv := by
    have := s.getM (j := 2) (List.mem_cons_of_mem _ hl) (by simp); simpa using this
  have fin : ∀ {R : List Rg} {h' : Heap} {i : Nat} {f : Bool}, St b [] ((t7, 0, enc x) :: R) h' → pos lt its x = i → (lget lt its x).isSome = f → BTreeG_I_hintsearch.j1 (ptr n 0) (ptr hb ho) (.int .i64 dp) (.int .i64 i) (.bool f) h' Q := fun {R} {h'} {i} {f} u e1 e2 => by
    have hpl := pos_le (lt := lt) its x
    have s1 : St h0 Z ((hb, ho, hc) :: (((t7, 0, enc x) :: R) ++ E)) h' := (s.join u).perm (by ((apply perm_rg; intro f; simp only [List.set_cons_zero, List.set_cons_succ, List.eraseIdx_cons_zero, List.eraseIdx_cons_succ, List.cons_append, List.nil_append, List.map_append, List.map_cons, List.map_nil, List.sum_append, List.sum_cons, List.sum_nil, List.map_flatMap, Nat.add_zero, Nat.zero_add]; ac_rfl)))
    refine hint_end hh hd s1 (c0 := c0) (c1 := c1) (c2 := iv) (a := a) ?_ (by omega) (by omega) fun hc' h' hh' s' => ?_
    · rw [List.append_assoc]; exact List.mem_append_right _ hl
    · have := H hc' h' hh' s'.dropMid
      rw [e1, e2] at this; exact this
  unfold BTreeG_I_hintsearch.j7
  refine loop_intro (fun st h' => ∃ (lo : Nat) (hi : Int) (R : List Rg), st = [.int .i64 lo, .int .i64 hi] ∧ (lo : Int) ≤ hi + 1 ∧ hi < its.length ∧ (∀ i (hi' : i < its.length), i < lo → lt x its[i] = false) ∧ (∀ i (hi' : i < its.length), hi < i → lt x its[i] = true) ∧ St b [] ((t7, 0, enc x) :: R) h')
    (fun st _ => (Hp.iv (st.getD 1 undef) + 1 - Hp.iv (st.getD 0 undef)).toNat) ⟨lo, hi, R, rfl, h1, h2, h3, h4, u⟩ ?_
  clear u h1 h2 h3 h4
  rintro st h1 ⟨lo, hi, R, rfl, h1', h2, h3, h4, u⟩
  unfold BTreeG_I_hintsearch.l9.b
  refine r_cmpI ?_
  refine r_if (fun hlt => ?_) (fun hge => ?_)
  · have hlt : (lo : Int) ≤ hi := of_decide_eq_true hlt
    obtain ⟨hi, rfl⟩ : ∃ k : Nat, hi = k := ⟨hi.toNat, by omega⟩
    have hlt : lo ≤ hi := by omega
    have hm : lo + (hi + 1 - lo) / 2 < its.length := by omega
    unfold BTreeG_I_hintsearch.j10
    refine r_add1 (by omega) ?_
    refine r_sub (z := ((hi + 1 - lo : Nat) : Int)) (by rw [i64w (by omega) (by omega)]; omega) ?_
    refine r_div2 (by omega) ?_
    refine r_add (z := ((lo + (hi + 1 - lo) / 2 : Nat) : Int)) (by rw [i64w (by omega) (by omega)]; omega) ?_
    generalize hmid : lo + (hi + 1 - lo) / 2 = mid at hm ⊢
    refine St.r_loadN0 u 0 rfl (by simp) ?_
    refine r_nil ?_
    refine r_fld ?_
    refine u.r_loadB hn ?_
    refine hr.at (n := mid) (f := enc) rfl encl rfl rfl hm fun bb ob hbb => ?_
    refine (hbb.st u).loadN rfl ?_
    have hlf1 := u.base hlf
    refine Less_ok hO (a := x) (b := its[mid]) (s.join u) hlf1 fun E2 h2' u2 => ?_
    have u := (u.join u2).perm List.perm_append_comm
    refine r_not ?_
    refine r_if (fun hc => ?_) (fun hc => ?_)
    · have hc : lt x its[mid] = false := by simpa using hc
      refine r_add1 (by omega) ?_
      refine ⟨⟨mid + 1, hi, _, rfl, by omega, h2, fun i hi' hl => ?_, h4, u⟩, by simp; omega⟩
      rcases Nat.lt_or_ge i mid with hl | hl
      · cases e : lt x its[i] with
        | false => rfl
        | true => have := o.tr _ _ _ e (hs i _ hi' hm hl); rw [hc] at this; cases this
      · have : i = mid := by omega
        subst this; exact hc
    · have hc : lt x its[mid] = true := by simpa using hc
      refine r_sub (z := (mid : Int) - 1) (i64w (by omega) (by omega)) ?_
      refine ⟨⟨lo, (mid : Int) - 1, _, rfl, by omega, by omega, h3, fun i hi1 hi2 => ?_, u⟩, by simp; omega⟩
      rcases Nat.lt_or_ge mid i with hl | hl
      · exact o.tr _ _ _ hc (hs _ i hm hi1 hl)
      · have : i = mid := by omega
        subst this; exact hc
  · have hge : hi = (lo : Int) - 1 := by
      have : ¬ ((lo : Int) ≤ hi) := of_decide_eq_false hge
      omega
    subst hge
    have no : ∀ {R : List Rg} {h' : Heap}, St b [] ((t7, 0, enc x) :: R) h' → (∀ hp : lo - 1 < its.length, 0 < lo → lt its[lo - 1] x = true) → BTreeG_I_hintsearch.j1 (ptr n 0) (ptr hb ho) (.int .i64 dp) (.int .i64 lo) (.bool false) h' Q := fun u h5 => by
      obtain ⟨e1, e2⟩ := notfound_at o (x := x) ha (by omega) (fun hl => h4 lo hl (by omega)) h5
      exact fin u e1 e2
    unfold BTreeG_I_hintsearch.j8
    refine r_cmpI ?_
    refine r_br (fun hpos => ?_) (fun hz => ?_)
    · have hpos : 0 < lo := by simpa using hpos
      have hm : lo - 1 < its.length := by omega
      refine r_nil ?_
      refine r_fld ?_
      refine u.r_loadB hn ?_
      refine r_sub1 (by omega) (by omega) ?_
      refine hr.at (n := lo - 1) (f := enc) rfl encl rfl rfl hm fun bb ob hbb => ?_
      refine (hbb.st u).loadN rfl ?_
      refine St.r_loadN0 u 0 rfl (by simp) ?_
      have hlf1 := u.base hlf
      refine Less_ok hO (a := its[lo - 1]) (b := x) (s.join u) hlf1 fun E2 h2' u2 => ?_
      have u := (u.join u2).perm List.perm_append_comm
      refine r_not ?_
      refine r_if (fun hc => ?_) (fun hc => ?_)
      · have hc : lt its[lo - 1] x = false := by simpa using hc
        refine r_sub1 (by omega) (by omega) ?_
        obtain ⟨e1, e2⟩ := found_at o ha hm (h3 _ hm (by omega)) hc
        exact fin u e1 e2
      · exact no u (fun _ _ => by simpa using hc)
    · exact no u (fun _ e => by simp at hz; omega)
theorem hintsearch_ok (o : Swo lt) (hO : OrdC Z lf lt) {hc : List Value} (hh : HintC hc) (hd : dp ≤ 4611686018427387903) (s : St h0 Z ((hb, ho, hc) :: E) h) (hlf : cl h tb 6 = some lf) {c0 c1 : Value} (hl : (n, 0, [c0, c1, iv, .pointer a]) ∈ E ++ Z) (hr : Rdl 2 h iv its.length (its.flatMap enc)) (ha : Asc lt its) (hb2 : its.length ≤ 4611686018427387903) (hne : 1 ≤ its.length)
    (H : ∀ hc' h', HintC hc' → St h0 Z ((hb, ho, hc') :: E) h' → Q (.tuple #[.int .i64 (pos lt its x), .bool (lget lt its x).isSome]) h') : BTreeG_I_hintsearch.call #[ptr tb 0, ptr n 0, av x, ptr hb ho, .int .i64 dp] h Q := by
  have hs : ∀ i j (hi : i < its.length) (hj : j < its.length), i < j → lt its[i] its[j] = true := fun i j hi hj hij => List.pairwise_iff_getElem.1 ha i j hi hj hij
  have hn : cl h n 2 = some iv := by
    have := s.getM (j := 2) (List.mem_cons_of_mem _ hl) (by simp); simpa using this
  have fin : ∀ {R : List Rg} {h' : Heap} {i : Nat} {f : Bool} {t7 : Nat}, St h [] ((t7, 0, enc x) :: R) h' → pos lt its x = i → (lget lt its x).isSome = f → BTreeG_I_hintsearch.j1 (ptr n 0) (ptr hb ho) (.int .i64 dp) (.int .i64 i) (.bool f) h' Q := fun {R} {h'} {i} {f} {t7} u e1 e2 => by
    have hpl := pos_le (lt := lt) its x
    have s1 : St h0 Z ((hb, ho, hc) :: (((t7, 0, enc x) :: R) ++ E)) h' := (s.join u).perm (by ((apply perm_rg; intro f; simp only [List.set_cons_zero, List.set_cons_succ, List.eraseIdx_cons_zero, List.eraseIdx_cons_succ, List.cons_append, List.nil_append, List.map_append, List.map_cons, List.map_nil, List.sum_append, List.sum_cons, List.sum_nil, List.map_flatMap, Nat.add_zero, Nat.zero_add]; ac_rfl)))
    refine hint_end hh hd s1 (c0 := c0) (c1 := c1) (c2 := iv) (a := a) ?_ (by omega) (by omega) fun hc' h' hh' s' => ?_
    · rw [List.append_assoc]; exact List.mem_append_right _ hl
    · have := H hc' h' hh' s'.dropMid
      rw [e1, e2] at this; exact this
  have mid : ∀ {R : List Rg} {h' : Heap} {t7 lo : Nat} {hi : Int}, St h [] ((t7, 0, enc x) :: R) h' → (lo : Int) ≤ hi + 1 → hi < its.length → (∀ i (hi' : i < its.length), i < lo → lt x its[i] = false) → (∀ i (hi' : i < its.length), hi < i → lt x its[i] = true) →
      BTreeG_I_hintsearch.j7 (ptr tb 0) (ptr n 0) (ptr hb ho) (.int .i64 dp) (ptr t7 0) (.int .i64 lo) (.int .i64 hi) h' Q := fun u h1 h2 h3 h4 => hint_mid o hO hh hd s hlf hl hr ha hb2 u h1 h2 h3 h4 H
  refine BTreeG_I_hintsearch.body _ _ _ _ _ _ _ ?_
  unfold BTreeG_I_hintsearch.sh
  have u := St.start h
  refine St.r_box (cs := enc x) u fun t7 h1 u => ?_
  have hlen := hh.len
  have cold : BTreeG_I_hintsearch.j7 (ptr tb 0) (ptr n 0) (ptr hb ho) (.int .i64 dp) (ptr t7 0) (.int .i64 0) (.int .i64 ((its.length - 1 : Nat) : Int)) h1 Q := mid (lo := 0) u (by omega) (by omega) (fun i _ hi => absurd hi (Nat.not_lt_zero _)) (fun i hi hl => by omega)
  have sj : ∀ {R : List Rg} {h' : Heap}, St h [] R h' → St h0 Z ((hb, ho, hc) :: (R ++ E)) h' := fun u => (s.join u).perm (by ((apply perm_rg; intro f; simp only [List.set_cons_zero, List.set_cons_succ, List.eraseIdx_cons_zero, List.eraseIdx_cons_succ, List.cons_append, List.nil_append, List.map_append, List.map_cons, List.map_nil, List.sum_append, List.sum_cons, List.sum_nil, List.map_flatMap, Nat.add_zero, Nat.zero_add]; ac_rfl)))
  -- a place within the node
  have within : ∀ {R : List Rg} {h' : Heap} {i : Nat}, St h [] ((t7, 0, enc x) :: R) h' → i < its.length → BTreeG_I_hintsearch.j11 (ptr tb 0) (ptr n 0) (ptr hb ho) (.int .i64 dp) (ptr t7 0) (.int .i64 i) (.bool false) (.int .i64 0) (.int .i64 ((its.length - 1 : Nat) : Int)) h' Q := fun {R} {h'} {i} u hi => by
    unfold BTreeG_I_hintsearch.j11
    refine St.r_loadN0 u 0 rfl (by simp) ?_
    refine r_nil ?_
    refine r_fld ?_
    refine u.r_loadB hn ?_
    refine hr.at (n := i) (f := enc) rfl encl rfl rfl hi fun bb ob hbb => ?_
    refine (hbb.st u).loadN rfl ?_
    refine Less_ok hO (a := x) (b := its[i]) (s.join u) (u.base hlf) fun E2 h2' u2 => ?_
    have u := (u.join u2).perm List.perm_append_comm
    refine r_if (fun hc => ?_) (fun hc => ?_)
    · refine r_cmpI ?_
      have back : ∀ {R : List Rg} {h' : Heap}, St h [] ((t7, 0, enc x) :: R) h' → (∀ hp : i - 1 < its.length, 0 < i → lt its[i - 1] x = true) → BTreeG_I_hintsearch.j1 (ptr n 0) (ptr hb ho) (.int .i64 dp) (.int .i64 i) (.bool false) h' Q := fun u h5 => by
        obtain ⟨e1, e2⟩ := notfound_at o (x := x) ha (Nat.le_of_lt hi) (fun _ => hc) h5
        exact fin u e1 e2
      refine r_br (fun h0' => ?_) (fun h0' => ?_)
      · have hi0 : 0 < i := by
          have : ¬ ((i : Int) = 0) := by simpa using h0'
          omega
        refine r_nil ?_
        refine r_fld ?_
        refine u.r_loadB hn ?_
        refine r_sub1 (by omega) (by omega) ?_
        refine hr.at (n := i - 1) (f := enc) rfl encl rfl rfl (by omega) fun bb ob hbb => ?_
        refine (hbb.st u).loadN rfl ?_
        refine St.r_loadN0 u 0 rfl (by simp) ?_
        refine Less_ok hO (a := its[i - 1]) (b := x) (s.join u) (u.base hlf) fun E2 h2' u2 => ?_
        have u := (u.join u2).perm List.perm_append_comm
        refine r_if (fun h5 => back u fun _ _ => h5) (fun h5 => ?_)
        unfold BTreeG_I_hintsearch.j12
        refine r_sub1 (by omega) (by omega) ?_
        refine mid (lo := 0) u (by omega) (by omega) (fun i _ hi => absurd hi (Nat.not_lt_zero _)) (fun j hj hl => ?_)
        rcases Nat.lt_or_ge i j with hl2 | hl2
        · exact o.tr _ _ _ hc (hs _ j hi hj hl2)
        · have : j = i := by omega
          subst this; exact hc
      · have hi0 : i = 0 := by
          have : (i : Int) = 0 := by simpa using h0'
          omega
        exact back u fun _ e => by omega
    · refine r_nil ?_
      refine r_fld ?_
      refine u.r_loadB hn ?_
      refine hr.at (n := i) (f := enc) rfl encl rfl rfl hi fun bb ob hbb => ?_
      refine (hbb.st u).loadN rfl ?_
      refine St.r_loadN0 u 0 rfl (by simp) ?_
      refine Less_ok hO (a := its[i]) (b := x) (s.join u) (u.base hlf) fun E2 h2' u2 => ?_
      have u := (u.join u2).perm List.perm_append_comm
      refine r_if (fun h5 => ?_) (fun h5 => ?_)
      · refine r_add1 (by omega) ?_
        refine mid (lo := i + 1) u (by omega) (by omega) (fun j hj hl => ?_) (fun j hj hl => by omega)
        exact o.asym (o.tr2 (lt := lt) (a := its[j]) (b := its[i]) (c := x) (by
          rcases Nat.lt_or_ge j i with hl2 | hl2
          · exact o.asym (hs j i hj hi hl2)
          · have : j = i := by omega
            subst this; exact o.irr _) h5)
      · obtain ⟨e1, e2⟩ := found_at o ha hi hc h5
        exact fin u e1 e2
  refine r_nil ?_
  refine r_fld ?_
  refine u.r_loadB hn ?_
  refine hr.lenV ?_
  refine r_sub1 (by omega) (by omega) ?_
  refine r_cmpI ?_
  refine r_br (fun hlt => ?_) (fun _ => cold)
  have hlt : dp < 8 := by have := of_decide_eq_true hlt; omega
  obtain ⟨b, hb'⟩ := hh.used hlt
  obtain ⟨p, hp, hp0, hp1⟩ := hh.path hlt
  obtain ⟨p, rfl⟩ : ∃ k : Nat, p = k := ⟨p.toNat, by omega⟩
  refine r_nil ?_
  refine r_fld ?_
  refine r_idxA dp (ho + dp) rfl hlt (by omega) ?_
  refine St.r_load1 (sj u) 0 (j := dp) rfl hb' ?_
  refine r_if (fun _ => ?_) (fun _ => cold)
  refine r_nil ?_
  refine r_fld ?_
  refine r_idxA dp (ho + (8 + dp)) rfl hlt (by omega) ?_
  refine St.r_load1 (sj u) 0 (j := 8 + dp) rfl hp ?_
  refine r_cvI (z := (p : Int)) (i64w (by omega) (by omega)) ?_
  refine r_nil ?_
  refine r_fld ?_
  refine u.r_loadB hn ?_
  refine hr.lenV ?_
  refine r_cmpI ?_
  refine r_if (fun hge => ?_) (fun hl2 => ?_)
  · refine r_nil ?_
    refine r_fld ?_
    refine u.r_loadB hn ?_
    refine r_nil ?_
    refine r_fld ?_
    refine u.r_loadB hn ?_
    refine hr.lenV ?_
    refine r_sub1 (by omega) (by omega) ?_
    refine hr.at (n := its.length - 1) (f := enc) rfl encl rfl rfl (by omega) fun bb ob hbb => ?_
    refine (hbb.st u).loadN rfl ?_
    refine St.r_loadN0 u 0 rfl (by simp) ?_
    refine Less_ok hO (a := its[its.length - 1]) (b := x) (s.join u) (u.base hlf) fun E2 h2' u2 => ?_
    have u := (u.join u2).perm List.perm_append_comm
    refine r_if (fun h5 => ?_) (fun h5 => ?_)
    · refine r_nil ?_
      refine r_fld ?_
      refine u.r_loadB hn ?_
      refine hr.lenV ?_
      obtain ⟨e1, e2⟩ := notfound_at o (x := x) ha (Nat.le_refl _) (fun hl => absurd hl (Nat.lt_irrefl _)) (fun _ _ => h5)
      exact fin u e1 e2
    · unfold BTreeG_I_hintsearch.j13
      refine r_nil ?_
      refine r_fld ?_
      refine u.r_loadB hn ?_
      refine hr.lenV ?_
      refine r_sub1 (by omega) (by omega) ?_
      exact within u (by omega)
  · have : p < its.length := by have := of_decide_eq_false hl2; omega
    exact within u this
end
end Go.Proofs.YtgnnidefbeoibaaGreat.Gi
end
section
namespace Go.Proofs.YtgnnidefbeoibaaGreat.Gi
open Go.Hp Go.Proofs.YtgnnidefbeoibaaGreat
set_option linter.unusedVariables false
set_option linter.unusedSimpArgs false
variable {h0 h : Heap} {Z E : List Rg} {Q : Value → Heap → Prop} {lt : It → It → Bool} {lf : Value}

/-- One's own node, or a node that is only read. -/
theorem isoLoad_ok {tb pb po n : Nat} {iso : Int} {m : Bool} (hi : cl h tb 0 = some (.int .u64 iso)) (hp : cl h pb po = some (ptr n 0)) (hn : m = true → cl h n 0 = some (.int .u64 iso)) (H : Q (ptr n 0) h) :
    BTreeG_I_isoLoad.call #[ptr tb 0, ptr pb po, .bool m] h Q := by
  refine BTreeG_I_isoLoad.body _ _ _ _ _ ?_
  unfold BTreeG_I_isoLoad.sh
  have hj : BTreeG_I_isoLoad.j1 (ptr pb po) h Q := by
    unfold BTreeG_I_isoLoad.j1
    refine r_nil ?_
    exact r_ld hp H
  refine r_br (fun hm => ?_) (fun _ => hj)
  refine r_nil ?_
  refine r_ld hp ?_
  refine r_nil ?_
  refine r_fld ?_
  refine r_ld (hn hm) ?_
  refine r_nil ?_
  refine r_fld ?_
  refine r_ld hi ?_
  refine r_cmpI ?_
  refine r_if (fun e => absurd e (by simp)) (fun _ => hj)

theorem newNode_leaf {tb : Nat} {iso : Int} (hi : cl h tb 0 = some (.int .u64 iso)) (H : ∀ n h', St h [] [(n, 0, [.int .u64 iso, .int .i64 0, .slice none 0 0, .pointer none])] h' → Q (ptr n 0) h') : BTreeG_I_newNode.call #[ptr tb 0, .bool true] h Q := by
  refine BTreeG_I_newNode.body _ _ _ _ ?_
  unfold BTreeG_I_newNode.sh
  have s := St.start h
  refine r_nil ?_
  refine r_fld ?_
  refine s.r_loadB hi ?_
  ((apply r_build; ((simp only [fillV, fill1, Value.cells, zeros_succ, zeros_zero, List.size_toArray, List.length_cons, List.length_nil, List.length_append, List.take_succ_cons, List.take_zero, List.take_nil, List.drop_succ_cons, List.drop_zero, List.drop_nil, List.cons_append, List.nil_append, List.append_nil, Nat.reduceAdd, Nat.reduceMul, Nat.reduceLeDiff, Nat.reduceEqDiff, and_self, and_true, true_and, if_true, Nat.le_refl, Nat.zero_add, Nat.add_zero, Nat.zero_mul, reduceIte, if_false] <;> rfl))))
  refine St.r_box (cs := [.int .u64 iso, .int .i64 0, .slice none 0 0, .pointer none]) s fun n h s => ?_
  refine r_not ?_
  refine r_if (fun e => absurd e (by decide)) (fun _ => ?_)
  unfold BTreeG_I_newNode.j1
  exact H n h s
theorem newNode_inner {tb : Nat} {iso : Int} (hi : cl h tb 0 = some (.int .u64 iso)) (H : ∀ n kb h', St h [] [(n, 0, [.int .u64 iso, .int .i64 0, .slice none 0 0, ptr kb 0]), (kb, 0, [.slice none 0 0])] h' → Q (ptr n 0) h') : BTreeG_I_newNode.call #[ptr tb 0, .bool false] h Q := by
  refine BTreeG_I_newNode.body _ _ _ _ ?_
  unfold BTreeG_I_newNode.sh
  have s := St.start h
  refine r_nil ?_
  refine r_fld ?_
  refine s.r_loadB hi ?_
  ((apply r_build; ((simp only [fillV, fill1, Value.cells, zeros_succ, zeros_zero, List.size_toArray, List.length_cons, List.length_nil, List.length_append, List.take_succ_cons, List.take_zero, List.take_nil, List.drop_succ_cons, List.drop_zero, List.drop_nil, List.cons_append, List.nil_append, List.append_nil, Nat.reduceAdd, Nat.reduceMul, Nat.reduceLeDiff, Nat.reduceEqDiff, and_self, and_true, true_and, if_true, Nat.le_refl, Nat.zero_add, Nat.add_zero, Nat.zero_mul, reduceIte, if_false] <;> rfl))))
  refine St.r_box (cs := [.int .u64 iso, .int .i64 0, .slice none 0 0, .pointer none]) s fun n h s => ?_
  refine r_not ?_
  refine r_if (fun _ => ?_) (fun e => absurd e (by decide))
  refine s.r_alloc fun kb h s => ?_
  refine r_nil ?_
  refine r_fld ?_
  refine St.r_store0 s 1 rfl (by simp) rfl ?_; intro h s
  unfold BTreeG_I_newNode.j1
  exact H n kb h (s.perm (by ((apply perm_rg; intro f; simp only [List.set_cons_zero, List.set_cons_succ, List.eraseIdx_cons_zero, List.eraseIdx_cons_succ, List.cons_append, List.nil_append, List.map_append, List.map_cons, List.map_nil, List.sum_append, List.sum_cons, List.sum_nil, List.map_flatMap, Nat.add_zero, Nat.zero_add]; ac_rfl))))

theorem updateCount_leaf {n b o len : Nat} {c1 c2 iv : Value} {xs sp : List Value} (s : St h0 Z ((n, 0, [c1, c2, iv, .pointer none]) :: E) h) (w : Own 2 iv len b o xs sp)
    (H : ∀ h', St h0 Z ((n, 0, [c1, .int .i64 len, iv, .pointer none]) :: E) h' → Q (.tuple #[]) h') : node_I_updateCount.call #[ptr n 0] h Q := by
  refine node_I_updateCount.body _ _ _ ?_
  unfold node_I_updateCount.sh
  refine r_nil ?_
  refine r_fld ?_
  refine St.r_load0 s 0 rfl rfl ?_
  refine w.lenV ?_
  refine r_nil ?_
  refine r_fld ?_
  refine St.r_store0 s 0 rfl (by simp) rfl ?_
  intro h s
  try simp only [List.set_cons_zero, List.set_cons_succ] at s
  refine node_leaf_ok (a := none) (s.get (k := 0) (j := 3) rfl (by simp)) ?_
  refine r_not ?_
  refine r_if (fun e => absurd e (by decide)) (fun _ => ?_)
  exact H _ s
theorem updateCount_inner {n kb b o rb ro len : Nat} {c1 c2 iv kv : Value} {xs sp ksp : List Value} {ids : List Nat} {c : Nat → Int} (s : St h0 Z ((n, 0, [c1, c2, iv, ptr kb 0]) :: (kb, 0, [kv]) :: (rb, ro, (ids.map fun m => ptr m 0) ++ ksp) :: E) h)
    (w : Own 2 iv len b o xs sp) (wkid : Own 1 kv ids.length rb ro (ids.map fun m => ptr m 0) ksp) (hids : ids.length ≤ 4294967296)
    (hc : ∀ j (hj : j < ids.length), ∃ a1 a2 a3, (ids[j], 0, [a1, .int .i64 (c j), a2, a3]) ∈ E ++ Z) (hb : ∀ j, j ≤ ids.length → 0 ≤ (len : Int) + ((List.range j).map c).sum ∧ (len : Int) + ((List.range j).map c).sum ≤ 9223372036854775807)
    (H : ∀ h', St h0 Z ((n, 0, [c1, .int .i64 ((len : Int) + ((List.range ids.length).map c).sum), iv, ptr kb 0]) :: (kb, 0, [kv]) :: (rb, ro, (ids.map fun m => ptr m 0) ++ ksp) :: E) h' → Q (.tuple #[]) h') : node_I_updateCount.call #[ptr n 0] h Q := by
  refine node_I_updateCount.body _ _ _ ?_
  unfold node_I_updateCount.sh
  refine r_nil ?_
  refine r_fld ?_
  refine St.r_load0 s 0 rfl rfl ?_
  refine w.lenV ?_
  refine r_nil ?_
  refine r_fld ?_
  refine St.r_store0 s 0 rfl (by simp) rfl ?_
  intro h s
  try simp only [List.set_cons_zero, List.set_cons_succ] at s
  refine node_leaf_ok (a := some ⟨kb, 0, none⟩) (s.get (k := 0) (j := 3) rfl (by simp)) ?_
  refine r_not ?_
  refine r_if (fun _ => ?_) (fun e => absurd e (by simp))
  refine loop_intro (fun t h => ∃ j : Nat, t = [.int .i64 j] ∧ j ≤ ids.length ∧ St h0 Z ((n, 0, [c1, .int .i64 ((len : Int) + ((List.range j).map c).sum), iv, ptr kb 0]) :: (kb, 0, [kv]) :: (rb, ro, (ids.map fun m => ptr m 0) ++ ksp) :: E) h)
    (fun t _ => ids.length - (Hp.iv (t.getD 0 undef)).toNat) ⟨0, rfl, by omega, by simpa using s⟩ ?_
  rintro t h ⟨j, rfl, hj, s⟩
  unfold node_I_updateCount.l1.b
  refine r_nil ?_
  refine r_fld ?_
  refine St.r_load0 s 0 rfl rfl ?_
  refine r_nil ?_
  refine St.r_load0 s 1 rfl rfl ?_
  refine wkid.lenV ?_
  refine r_cmpI ?_
  refine r_if (fun hlt => ?_) (fun hge => ?_)
  · have hlt : j < ids.length := by simpa using hlt
    unfold node_I_updateCount.j2
    refine r_nil ?_
    refine r_fld ?_
    refine St.r_load0 s 0 rfl rfl ?_
    refine r_nil ?_
    refine r_fld ?_
    refine St.r_load0 s 0 rfl rfl ?_
    refine r_nil ?_
    refine St.r_load0 s 1 rfl rfl ?_
    refine wkid.idx (n := j) rfl hlt ?_
    refine s.r_load1 2 rfl (v := ptr ids[j] 0) (by rw [Nat.mul_one, List.getElem?_append_left (by simpa using hlt), List.getElem?_map, List.getElem?_eq_getElem hlt]; rfl) ?_
    obtain ⟨a1, a2, a3, hm⟩ := hc j hlt
    refine r_nil ?_
    refine r_fld ?_
    refine s.r_loadM (xs := [a1, .int .i64 (c j), a2, a3]) (by simp only [List.cons_append, List.mem_cons]; exact .inr (.inr (.inr hm))) rfl ?_
    refine r_add (z := (len : Int) + ((List.range (j + 1)).map c).sum) ?_ ?_
    · have := hb (j + 1) hlt
      rw [List.range_succ, List.map_append, List.sum_append] at this ⊢
      simp only [List.map_cons, List.map_nil, List.sum_cons, List.sum_nil] at this ⊢
      rw [i64w (by omega) (by omega)]; omega
    · refine r_nil ?_
      refine r_fld ?_
      refine St.r_store0 s 0 rfl (by simp) rfl ?_
      intro h s
      try simp only [List.set_cons_zero, List.set_cons_succ] at s
      unfold node_I_updateCount.j3
      refine r_add (z := ((j + 1 : Nat) : Int)) (by rw [i64w (by omega) (by omega)]; omega) ?_
      exact ⟨⟨j + 1, rfl, hlt, s⟩, by simp; omega⟩
  · have hge : j = ids.length := by simp at hge; omega
    subst hge
    exact H h s
/-- A tree whose nodes are all the map's own, as they should be. -/
structure Gd (iso : Int) {k : Nat} (t : GT It k) : Prop where
  wf : t.Wf enc 2 iso
  cn : t.Cn
  mine : t.Mine
theorem Gd.kid {iso : Int} {k : Nat} {t : GT It (k + 1)} (g : Gd iso t) {c : GT It k} (hc : c ∈ t.2) : Gd iso c := ⟨(g.wf.2.2.2 c hc).1, g.cn.2 c hc, g.mine.2 c hc⟩
abbrev fp (m : Nat) : List Value := [ptr m 0]
theorem fpl (m : Nat) : (fp m).length = 1 := rfl
theorem mfp (l : List Nat) : (l.map fun m => ptr m 0) = l.flatMap fp := List.map_eq_flatMap
theorem GT.topA : ∀ {k : Nat} {t : GT It k}, ∃ a1 a2 a3, (t.id, 0, [a1, .int .i64 t.nd.cnt, a2, a3]) ∈ t.all enc
  | 0, d => ⟨_, _, _, List.mem_cons_self ..⟩
  | _ + 1, t => ⟨_, _, _, List.mem_append.2 (.inl (List.mem_cons_self ..))⟩
theorem r_div {k : IntKind} {x y z : Int} {K : Value → Prop} (hy : y ≠ 0) (hz : k.wrap (x.tdiv y) = z) (H : K (.int k z)) : divi (.int k x) (.int k y) K := ⟨k, x, y, rfl, rfl, hy, by rw [hz]; exact H⟩
theorem half {m : Nat} (hm : m ≤ 1048576) : IntKind.wrap .i64 ((m : Int).tdiv 2) = ((m / 2 : Nat) : Int) := by
  have : (m : Int).tdiv 2 = ((m / 2 : Nat) : Int) := (Int.ofNat_tdiv m 2).symm
  rw [this, i64w (by omega) (by omega)]

theorem updateCount_kids {k : Nat} {ts : List (GT It k)} {n kb b o rb ro len : Nat} {c1 c2 iv kv : Value} {xs sp ksp : List Value}
    (s : St h0 Z ((n, 0, [c1, c2, iv, ptr kb 0]) :: (kb, 0, [kv]) :: (rb, ro, (ts.map GT.id).flatMap fp ++ ksp) :: E) h)
    (w : Own 2 iv len b o xs sp) (wK : Own 1 kv (ts.map GT.id).length rb ro ((ts.map GT.id).flatMap fp) ksp) (hm : ∀ t ∈ ts, t.Cn) (hE : ∀ t ∈ ts, ∀ r ∈ t.all enc, r ∈ E)
    (hl : ts.length ≤ 4294967296) (hsz : len + (ts.map fun t => t.pt.items.length).sum ≤ 4611686018427387904)
    (H : ∀ h', St h0 Z ((n, 0, [c1, .int .i64 ((len + (ts.map fun t => t.pt.items.length).sum : Nat) : Int), iv, ptr kb 0]) :: (kb, 0, [kv]) :: (rb, ro, (ts.map GT.id).flatMap fp ++ ksp) :: E) h' → Q (.tuple #[]) h') : node_I_updateCount.call #[ptr n 0] h Q := by
  have hmm : (ts.map fun t => t.pt.items).map List.length = ts.map fun t => t.pt.items.length := by rw [List.map_map]; rfl
  have hsum : ∀ i, i ≤ ts.length → ((List.range i).map fun j => (ts.map fun t => t.nd.cnt)[j]?.getD 0).sum = (((ts.map fun t => t.pt.items.length).take i).sum : Nat) := fun i hi => by
    rw [sum_range _ i (by simpa using hi), ← List.map_take, GT.Cn.sum (fun t ht => hm t (List.mem_of_mem_take ht)), List.map_map, ← List.map_take]; rfl
  rw [← mfp] at s wK
  refine updateCount_inner (c := fun j => (ts.map fun t => t.nd.cnt)[j]?.getD 0) s w wK (by simp; omega) (fun i hi => ?_) (fun i hi => ?_) fun h s => ?_
  · have hi' : i < ts.length := by simpa using hi
    obtain ⟨a1, a2, a3, hmem⟩ := GT.topA (t := ts[i])
    refine ⟨a1, a2, a3, ?_⟩
    simp only [List.getElem_map, List.getElem?_map, List.getElem?_eq_getElem hi', Option.map_some, Option.getD_some]
    exact List.mem_append.2 (.inl (hE _ (List.getElem_mem hi') _ hmem))
  · rw [hsum i (by simpa using hi)]
    have := sum_take_le (ts.map fun t => t.pt.items.length) i
    omega
  · rw [show (ts.map GT.id).length = ts.length by simp, hsum _ (Nat.le_refl _), List.take_of_length_le (by simp)] at s
    rw [mfp] at s
    exact H h (by rw [Int.natCast_add]; exact s)

theorem nodeSplit_ok : ∀ {k : Nat} (t : GT It k) {h : Heap} {E : List Rg} {tb m lo : Nat} {iso mn : Int} {ctr : Option Addr}, (tb, 0, hd0 iso ctr) ∈ Z → (tb, 4, hd4 lf mn m) ∈ Z → 0 < m → m ≤ 1024 → t.pt.Fl m lo → t.pt.its.length = m → t.pt.items.length ≤ 4611686018427387904 → Gd iso t →
    St h0 Z (t.all enc ++ E) h → (∀ (l r : GT It k) md h', t.pt.its[m / 2]? = some md → l.pt = t.pt.lo (m / 2) → r.pt = t.pt.hi (m / 2) → l.id = t.id → Gd iso l → Gd iso r → St h0 Z (l.all enc ++ (r.all enc ++ E)) h' → Q (.tuple #[ptr r.id 0, .agg (enc md).toArray]) h') →
    BTreeG_I_nodeSplit.call #[ptr tb 0, ptr t.id 0] h Q
  | 0, (d : Nd It), h, E, tb, m, lo, iso, mn, ctr, hT0, hT4, hm0, hm1, fl, hlen, hsz, g, s, H => by
    obtain ⟨own, n, is', cnt, its, iv, ib, io, isp, kb, kv, krb, kro, ksp⟩ := d
    have hi : ∀ {E h}, St h0 Z E h → cl h tb 0 = some (.int .u64 iso) := fun s => by have := s.getZ hT0 (j := 0) (by simp); simpa using this
    have hlen : its.length = m := hlen
    have w : Own 2 iv its.length ib io (its.flatMap enc) isp := g.wf.1
    have s : St h0 Z ((n, 0, [.int .u64 is', .int .i64 cnt, iv, .pointer none]) :: (ib, io, its.flatMap enc ++ isp) :: E) h := s
    have hiso : is' = iso := g.wf.2.1 g.mine
    subst hiso
    obtain ⟨md, hmd⟩ : ∃ md, its[m / 2]? = some md := ⟨its[m / 2]'(by omega), List.getElem?_eq_getElem (by omega)⟩
    show BTreeG_I_nodeSplit.call #[ptr tb 0, ptr n 0] h Q
    refine BTreeG_I_nodeSplit.body _ _ _ _ ?_
    unfold BTreeG_I_nodeSplit.sh
    refine s.r_alloc fun t5 h s => ?_
    refine r_nil ?_
    refine r_fld ?_
    refine s.r_lz hT4 5 rfl rfl ?_
    refine r_div (by decide) (half (by omega)) ?_
    refine r_nil ?_
    refine r_fld ?_
    refine St.r_load0 s 1 rfl rfl ?_
    refine w.idx (n := m / 2) rfl (by omega) ?_
    refine s.r_loadF encl 2 rfl hmd ?_
    refine St.r_storeN0 s 0 rfl rfl (by simp) (enc1 _) ?_; intro h s
    refine node_leaf_ok (a := none) (s.get (k := 1) (j := 3) rfl (by simp)) ?_
    refine newNode_leaf (hi s) fun n' h s1 => ?_
    have s := s.join s1
    refine r_nil ?_
    refine r_fld ?_
    refine St.r_load0 s 2 rfl rfl ?_
    refine r_add (z := ((m / 2 + 1 : Nat) : Int)) (by rw [i64w (by omega) (by omega)]; omega) ?_
    refine w.slcLo encl (i := m / 2 + 1) rfl (by omega) fun vr wrr => ?_
    refine r_nil ?_
    refine r_fld ?_
    refine St.r_store0 s 0 rfl (by simp) wrr.one ?_; intro h s
    refine node_leaf_ok (a := none) (s.get (k := 2) (j := 3) rfl (by simp)) ?_
    refine r_not ?_
    refine r_if (fun e => absurd e (by decide)) (fun _ => ?_)
    unfold BTreeG_I_nodeSplit.j1
    refine updateCount_leaf s wrr fun h s => ?_
    refine r_nil ?_
    refine r_fld ?_
    refine St.r_load0 s 2 rfl rfl ?_
    refine r_nil ?_
    refine r_fld ?_
    refine s.r_lzN hT4 3 rfl (by simp) ?_
    refine w.idx (n := m / 2) rfl (by omega) ?_
    refine s.r_storeF (x := emp) encl 3 rfl (by omega) (enc1 _) fun h s => ?_
    refine r_nil ?_
    refine r_fld ?_
    refine St.r_load0 s 2 rfl rfl ?_
    refine w.slc3 encl (i := m / 2) rfl rfl (by omega) fun vl wl => ?_
    refine r_nil ?_
    refine r_fld ?_
    refine St.r_store0 s 2 rfl (by simp) wl.one ?_; intro h s
    refine node_leaf_ok (a := none) (s.get (k := 2) (j := 3) rfl (by simp)) ?_
    refine r_not ?_
    refine r_if (fun e => absurd e (by decide)) (fun _ => ?_)
    unfold BTreeG_I_nodeSplit.j2
    refine updateCount_leaf (s.front 2 rfl) wl fun h s => ?_
    refine St.r_loadN0 s 2 rfl (by simp) ?_
    refine St.r_storeN0 s 2 rfl rfl (by simp) (enc1 _) ?_; intro h s
    refine St.r_loadN0 s 2 rfl (by simp) ?_
    have s : St h0 Z ((n, 0, [.int .u64 is', .int .i64 (its.take (m / 2)).length, vl, .pointer none]) :: (n', 0, [.int .u64 is', .int .i64 (its.drop (m / 2 + 1)).length, vr, .pointer none]) :: (t5, 0, enc md) :: (ib, io, (its.set (m / 2) emp).flatMap enc ++ isp) :: E) h := s
    have s := St.cut3 encl (x := emp) (i := m / 2) (s.front 3 rfl) (by rw [List.getElem?_set_self (by omega)])
    rw [List.take_set_of_le (Nat.le_refl _), List.drop_set_of_lt (by omega)] at s
    have hl1 : (its.take (m / 2)).length = m / 2 := by rw [List.length_take]; omega
    refine H (⟨true, n, is', (its.take (m / 2)).length, its.take (m / 2), vl, ib, io, [], 0, .pointer none, 0, 0, []⟩ : Nd It) (⟨true, n', is', (its.drop (m / 2 + 1)).length, its.drop (m / 2 + 1), vr, ib, io + (m / 2 + 1) * 2, isp, 0, .pointer none, 0, 0, []⟩ : Nd It) md h hmd rfl rfl rfl ⟨⟨wl, by simp⟩, rfl, rfl⟩ ⟨⟨wrr, by simp⟩, rfl, rfl⟩ ?_
    exact (s.perm (E' := (ib, io + m / 2 * 2, enc emp) :: (t5, 0, enc md) :: (n, 0, [.int .u64 is', .int .i64 (its.take (m / 2)).length, vl, .pointer none]) :: (ib, io, (its.take (m / 2)).flatMap enc ++ []) :: (n', 0, [.int .u64 is', .int .i64 (its.drop (m / 2 + 1)).length, vr, .pointer none]) :: (ib, io + (m / 2 + 1) * 2, (its.drop (m / 2 + 1)).flatMap enc ++ isp) :: E) (by rw [List.append_nil]; ((apply perm_rg; intro f; simp only [List.set_cons_zero, List.set_cons_succ, List.eraseIdx_cons_zero, List.eraseIdx_cons_succ, List.cons_append, List.nil_append, List.map_append, List.map_cons, List.map_nil, List.sum_append, List.sum_cons, List.sum_nil, List.map_flatMap, Nat.add_zero, Nat.zero_add]; ac_rfl)))).drop 2
  | k + 1, t, h, E, tb, m, lo, iso, mn, ctr, hT0, hT4, hm0, hm1, fl, hlen, hsz, g, s, H => by
    obtain ⟨d, ts⟩ := t
    obtain ⟨own, n, is', cnt, its, iv, ib, io, isp, kb, kv, krb, kro, ksp⟩ := d
    have hi : ∀ {E h}, St h0 Z E h → cl h tb 0 = some (.int .u64 iso) := fun s => by have := s.getZ hT0 (j := 0) (by simp); simpa using this
    have hlen : its.length = m := hlen
    have w : Own 2 iv its.length ib io (its.flatMap enc) isp := g.wf.1.1
    have wK : Own 1 kv ts.length krb kro ((ts.map GT.id).map fun m => ptr m 0) ksp := g.wf.2.1
    have hkl : ts.length = its.length + 1 := g.wf.2.2.1
    have hidl : (ts.map GT.id).length = ts.length := List.length_map ..
    have hiso : is' = iso := g.wf.1.2.1 g.mine.1
    subst hiso
    rw [← hidl, mfp] at wK
    have s : St h0 Z ((n, 0, [.int .u64 is', .int .i64 cnt, iv, ptr kb 0]) :: (ib, io, its.flatMap enc ++ isp) :: (kb, 0, [kv]) :: (krb, kro, ((ts.map GT.id).map fun m => ptr m 0) ++ ksp) :: (ts.flatMap (GT.all enc) ++ E)) h := s
    rw [mfp] at s
    have hmem : ∀ t ∈ ts, ∀ r ∈ t.all enc, r ∈ ts.flatMap (GT.all enc) ++ E := fun t ht r hr => List.mem_append.2 (.inl (List.mem_flatMap.2 ⟨t, ht, hr⟩))
    have hsz' : its.length + (ts.map fun t => t.pt.items.length).sum ≤ 4611686018427387904 := by
      have h1 : (inter its ((ts.map GT.pt).map PT.items)).length = _ := inter_length _ _
      rw [List.map_map, List.map_map] at h1
      have h2 : (inter its ((ts.map GT.pt).map PT.items)).length ≤ 4611686018427387904 := hsz
      rw [List.map_map] at h2
      rw [h1] at h2; exact h2
    have hcn : ∀ t ∈ ts, t.Cn := fun t ht => g.cn.2 t ht
    have hsum : (ts.map fun t => t.pt.items.length).sum = ((ts.take (m / 2 + 1)).map fun t => t.pt.items.length).sum + ((ts.drop (m / 2 + 1)).map fun t => t.pt.items.length).sum := by
      rw [← List.sum_append, ← List.map_append, List.take_append_drop]
    obtain ⟨md, hmd⟩ : ∃ md, its[m / 2]? = some md := ⟨its[m / 2]'(by omega), List.getElem?_eq_getElem (by omega)⟩
    show BTreeG_I_nodeSplit.call #[ptr tb 0, ptr n 0] h Q
    refine BTreeG_I_nodeSplit.body _ _ _ _ ?_
    unfold BTreeG_I_nodeSplit.sh
    refine s.r_alloc fun t5 h s => ?_
    refine r_nil ?_
    refine r_fld ?_
    refine s.r_lz hT4 5 rfl rfl ?_
    refine r_div (by decide) (half (by omega)) ?_
    refine r_nil ?_
    refine r_fld ?_
    refine St.r_load0 s 1 rfl rfl ?_
    refine w.idx (n := m / 2) rfl (by omega) ?_
    refine s.r_loadF encl 2 rfl hmd ?_
    refine St.r_storeN0 s 0 rfl rfl (by simp) (enc1 _) ?_; intro h s
    refine node_leaf_ok (a := some ⟨kb, 0, none⟩) (s.get (k := 1) (j := 3) rfl (by simp)) ?_
    refine newNode_inner (hi s) fun n' kb' h s1 => ?_
    have s := s.join s1
    refine r_nil ?_
    refine r_fld ?_
    refine St.r_load0 s 3 rfl rfl ?_
    refine r_add (z := ((m / 2 + 1 : Nat) : Int)) (by rw [i64w (by omega) (by omega)]; omega) ?_
    refine w.slcLo encl (i := m / 2 + 1) rfl (by omega) fun vr wrr => ?_
    refine r_nil ?_
    refine r_fld ?_
    refine St.r_store0 s 0 rfl (by simp) wrr.one ?_; intro h s
    refine node_leaf_ok (a := some ⟨kb, 0, none⟩) (s.get (k := 3) (j := 3) rfl (by simp)) ?_
    refine r_not ?_
    refine r_if (fun _ => ?_) (fun e => absurd e (by simp))
    refine r_nil ?_
    refine r_fld ?_
    refine St.r_load0 s 0 rfl rfl ?_
    refine r_nil ?_
    refine r_fld ?_
    refine St.r_load0 s 3 rfl rfl ?_
    refine r_nil ?_
    refine St.r_load0 s 5 rfl rfl ?_
    refine r_add (z := ((m / 2 + 1 : Nat) : Int)) (by rw [i64w (by omega) (by omega)]; omega) ?_
    refine wK.slcLo fpl (i := m / 2 + 1) rfl (by omega) fun vkr wkr => ?_
    refine r_nil ?_
    refine St.r_store0 s 1 rfl (by simp) wkr.one ?_; intro h s
    unfold BTreeG_I_nodeSplit.j1
    have ecut : (ts.map GT.id).flatMap fp ++ ksp = ((ts.take (m / 2 + 1)).map GT.id).flatMap fp ++ (((ts.drop (m / 2 + 1)).map GT.id).flatMap fp ++ ksp) := by
      rw [← List.append_assoc, ← List.flatMap_append, ← List.map_append, List.take_append_drop]
    have s := s.front 6 rfl
    rw [ecut] at s
    have s := s.cut
    rw [flat_len fpl, List.length_map, List.length_take, Nat.min_eq_left (show m / 2 + 1 ≤ ts.length by omega)] at s
    rw [← List.map_drop] at wkr
    refine updateCount_kids (ts := ts.drop (m / 2 + 1)) (s.perm (E' := (n', 0, _) :: (kb', 0, _) :: (krb, kro + (m / 2 + 1) * 1, ((ts.drop (m / 2 + 1)).map GT.id).flatMap fp ++ ksp) :: (krb, kro, ((ts.take (m / 2 + 1)).map GT.id).flatMap fp) :: (t5, 0, enc md) :: (n, 0, [.int .u64 is', .int .i64 cnt, iv, ptr kb 0]) :: (ib, io, its.flatMap enc ++ isp) :: (kb, 0, [kv]) :: (ts.flatMap (GT.all enc) ++ E)) (by ((apply perm_rg; intro f; simp only [List.set_cons_zero, List.set_cons_succ, List.eraseIdx_cons_zero, List.eraseIdx_cons_succ, List.cons_append, List.nil_append, List.map_append, List.map_cons, List.map_nil, List.sum_append, List.sum_cons, List.sum_nil, List.map_flatMap, Nat.add_zero, Nat.zero_add]; ac_rfl)))) wrr wkr (fun t ht => hcn t (List.mem_of_mem_drop ht))
      (fun t ht r hr => by have := hmem t (List.mem_of_mem_drop ht) r hr; simp only [List.mem_cons]; exact .inr (.inr (.inr (.inr (.inr this))))) (by rw [List.length_drop]; omega) (by rw [List.length_drop]; omega) fun h s => ?_
    refine r_nil ?_
    refine r_fld ?_
    refine St.r_load0 s 5 rfl rfl ?_
    refine r_nil ?_
    refine r_fld ?_
    refine s.r_lzN hT4 3 rfl (by simp) ?_
    refine w.idx (n := m / 2) rfl (by omega) ?_
    refine s.r_storeF (x := emp) encl 6 rfl (by omega) (enc1 _) fun h s => ?_
    refine r_nil ?_
    refine r_fld ?_
    refine St.r_load0 s 5 rfl rfl ?_
    refine w.slc3 encl (i := m / 2) rfl rfl (by omega) fun vl wl => ?_
    refine r_nil ?_
    refine r_fld ?_
    refine St.r_store0 s 5 rfl (by simp) wl.one ?_; intro h s
    refine node_leaf_ok (a := some ⟨kb, 0, none⟩) (s.get (k := 5) (j := 3) rfl (by simp)) ?_
    refine r_not ?_
    refine r_if (fun _ => ?_) (fun e => absurd e (by simp))
    refine r_nil ?_
    refine r_fld ?_
    refine St.r_load0 s 5 rfl rfl ?_
    refine r_nil ?_
    refine r_fld ?_
    refine St.r_load0 s 5 rfl rfl ?_
    refine r_nil ?_
    refine St.r_load0 s 7 rfl rfl ?_
    refine r_add (z := ((m / 2 + 1 : Nat) : Int)) (by rw [i64w (by omega) (by omega)]; omega) ?_
    refine r_add (z := ((m / 2 + 1 : Nat) : Int)) (by rw [i64w (by omega) (by omega)]; omega) ?_
    refine wK.slc3 fpl (i := m / 2 + 1) rfl rfl (by omega) fun vkl wkl => ?_
    refine r_nil ?_
    refine St.r_store0 s 7 rfl (by simp) wkl.one ?_; intro h s
    unfold BTreeG_I_nodeSplit.j2
    rw [← List.map_take] at wkl
    have s : St h0 Z ((n, 0, [.int .u64 is', .int .i64 cnt, vl, ptr kb 0]) :: (kb, 0, [vkl]) :: (krb, kro, ((ts.take (m / 2 + 1)).map GT.id).flatMap fp ++ []) :: (n', 0, [.int .u64 is', .int .i64 (((its.drop (m / 2 + 1)).length + ((ts.drop (m / 2 + 1)).map fun t => t.pt.items.length).sum : Nat) : Int), vr, ptr kb' 0]) :: (kb', 0, [vkr]) :: (krb, kro + (m / 2 + 1) * 1, ((ts.drop (m / 2 + 1)).map GT.id).flatMap fp ++ ksp) :: (t5, 0, enc md) :: (ib, io, (its.set (m / 2) emp).flatMap enc ++ isp) :: (ts.flatMap (GT.all enc) ++ E)) h := s.perm (by rw [List.append_nil]; ((apply perm_rg; intro f; simp only [List.set_cons_zero, List.set_cons_succ, List.eraseIdx_cons_zero, List.eraseIdx_cons_succ, List.cons_append, List.nil_append, List.map_append, List.map_cons, List.map_nil, List.sum_append, List.sum_cons, List.sum_nil, List.map_flatMap, Nat.add_zero, Nat.zero_add]; ac_rfl)))
    refine updateCount_kids (ts := ts.take (m / 2 + 1)) s wl wkl (fun t ht => hcn t (List.mem_of_mem_take ht))
      (fun t ht r hr => by have := hmem t (List.mem_of_mem_take ht) r hr; simp only [List.mem_cons]; exact .inr (.inr (.inr (.inr (.inr this))))) (by rw [List.length_take]; omega) (by rw [List.length_take]; omega) fun h s => ?_
    refine St.r_loadN0 s 6 rfl (by simp) ?_
    refine St.r_storeN0 s 6 rfl rfl (by simp) (enc1 _) ?_; intro h s
    refine St.r_loadN0 s 6 rfl (by simp) ?_
    have s := St.cut3 encl (x := emp) (i := m / 2) (s.front 7 rfl) (by rw [List.getElem?_set_self (by omega)])
    rw [List.take_set_of_le (Nat.le_refl _), List.drop_set_of_lt (by omega)] at s
    have cnt' : ∀ (a : List It) (b : List (GT It k)), (inter a ((b.map GT.pt).map PT.items)).length = a.length + (b.map fun t => t.pt.items.length).sum := fun a b => by
      rw [inter_length, List.map_map, List.map_map]; rfl
    refine H ((⟨true, n, is', (((its.take (m / 2)).length + ((ts.take (m / 2 + 1)).map fun t => t.pt.items.length).sum : Nat) : Int), its.take (m / 2), vl, ib, io, [], kb, vkl, krb, kro, []⟩ : Nd It), ts.take (m / 2 + 1)) ((⟨true, n', is', (((its.drop (m / 2 + 1)).length + ((ts.drop (m / 2 + 1)).map fun t => t.pt.items.length).sum : Nat) : Int), its.drop (m / 2 + 1), vr, ib, io + (m / 2 + 1) * 2, isp, kb', vkr, krb, kro + (m / 2 + 1) * 1, ksp⟩ : Nd It), ts.drop (m / 2 + 1)) md h hmd ?_ ?_ rfl ?_ ?_ ?_
    · show (its.take (m / 2), (ts.take (m / 2 + 1)).map GT.pt) = (its.take (m / 2), (ts.map GT.pt).take (m / 2 + 1)); rw [List.map_take]
    · show (its.drop (m / 2 + 1), (ts.drop (m / 2 + 1)).map GT.pt) = (its.drop (m / 2 + 1), (ts.map GT.pt).drop (m / 2 + 1)); rw [List.map_drop]
    · refine ⟨⟨⟨wl, by simp⟩, ?_, ?_, fun c hc => ⟨(g.wf.2.2.2 c (List.mem_of_mem_take hc)).1, fun e => by simp at e⟩⟩, ⟨?_, fun c hc => g.cn.2 c (List.mem_of_mem_take hc)⟩, ⟨rfl, fun c hc => g.mine.2 c (List.mem_of_mem_take hc)⟩⟩
      · rw [mfp]; rw [List.length_map] at wkl; exact wkl
      · show (ts.take (m / 2 + 1)).length = (its.take (m / 2)).length + 1; rw [List.length_take, List.length_take]; omega
      · exact congrArg Int.ofNat (cnt' _ _).symm
    · refine ⟨⟨⟨wrr, by simp⟩, ?_, ?_, fun c hc => ⟨(g.wf.2.2.2 c (List.mem_of_mem_drop hc)).1, fun e => by simp at e⟩⟩, ⟨?_, fun c hc => g.cn.2 c (List.mem_of_mem_drop hc)⟩, ⟨rfl, fun c hc => g.mine.2 c (List.mem_of_mem_drop hc)⟩⟩
      · rw [mfp]; rw [List.length_map] at wkr; exact wkr
      · show (ts.drop (m / 2 + 1)).length = (its.drop (m / 2 + 1)).length + 1; rw [List.length_drop, List.length_drop]; omega
      · exact congrArg Int.ofNat (cnt' _ _).symm
    · have ef : ts.flatMap (GT.all enc) = (ts.take (m / 2 + 1)).flatMap (GT.all enc) ++ (ts.drop (m / 2 + 1)).flatMap (GT.all enc) := by rw [← List.flatMap_append, List.take_append_drop]
      have s := (s.perm (E' := (ib, io + m / 2 * 2, enc emp) :: (t5, 0, enc md) :: (((n, 0, [.int .u64 is', .int .i64 (((its.take (m / 2)).length + ((ts.take (m / 2 + 1)).map fun t => t.pt.items.length).sum : Nat) : Int), vl, ptr kb 0]) :: (ib, io, (its.take (m / 2)).flatMap enc ++ []) :: (kb, 0, [vkl]) :: (krb, kro, ((ts.take (m / 2 + 1)).map GT.id).flatMap fp ++ []) :: (ts.take (m / 2 + 1)).flatMap (GT.all enc)) ++
        (((n', 0, [.int .u64 is', .int .i64 (((its.drop (m / 2 + 1)).length + ((ts.drop (m / 2 + 1)).map fun t => t.pt.items.length).sum : Nat) : Int), vr, ptr kb' 0]) :: (ib, io + (m / 2 + 1) * 2, (its.drop (m / 2 + 1)).flatMap enc ++ isp) :: (kb', 0, [vkr]) :: (krb, kro + (m / 2 + 1) * 1, ((ts.drop (m / 2 + 1)).map GT.id).flatMap fp ++ ksp) :: (ts.drop (m / 2 + 1)).flatMap (GT.all enc)) ++ E))) (by rw [List.append_nil, List.append_nil, ef]; ((apply perm_rg; intro f; simp only [List.set_cons_zero, List.set_cons_succ, List.eraseIdx_cons_zero, List.eraseIdx_cons_succ, List.cons_append, List.nil_append, List.map_append, List.map_cons, List.map_nil, List.sum_append, List.sum_cons, List.sum_nil, List.map_flatMap, Nat.add_zero, Nat.zero_add]; ac_rfl)))).drop 2
      rw [← mfp, ← mfp] at s
      exact s
end Go.Proofs.YtgnnidefbeoibaaGreat.Gi
end
section
namespace Go.Proofs.YtgnnidefbeoibaaGreat.Gi
open Go.Hp Go.Proofs.YtgnnidefbeoibaaGreat
set_option linter.unusedVariables false
set_option linter.unusedSimpArgs false
variable {h0 h : Heap} {Z E : List Rg} {Q : Value → Heap → Prop} {lt : It → It → Bool} {lf : Value}

/-- The item that was there. -/
abbrev old (r : Option It) : Value := av (r.getD emp)
theorem snoc_enc (l : List It) (e : It) : l.flatMap enc ++ enc e = (l ++ [e]).flatMap enc := by rw [List.flatMap_append, List.flatMap_singleton]
theorem Gd.leaf {iso : Int} {d : Nd It} (w : Own 2 d.iv d.its.length d.ib d.io (d.its.flatMap enc) d.isp) (ho : d.own = true) (hi : d.iso = iso) (hc : d.cnt = d.its.length) : Gd iso (k := 0) d := ⟨⟨w, by simp [ho, hi]⟩, hc, ho⟩
theorem Gd.inner {iso : Int} {k : Nat} {d : Nd It} {ts : List (GT It k)} (w : Own 2 d.iv d.its.length d.ib d.io (d.its.flatMap enc) d.isp) (ho : d.own = true) (hi : d.iso = iso) (wK : Own 1 d.kv ts.length d.krb d.kro ((ts.map GT.id).flatMap fp) d.ksp)
    (hl : ts.length = d.its.length + 1) (hk : ∀ c ∈ ts, Gd iso c) (hc : d.cnt = (GT.pt (h := k + 1) (d, ts)).items.length) : Gd iso (k := k + 1) (d, ts) :=
  ⟨⟨⟨w, by simp [ho, hi]⟩, by rw [mfp]; exact wK, hl, fun c hc => ⟨(hk c hc).wf, fun e => by rw [ho] at e; cases e⟩⟩, ⟨hc, fun c hc => (hk c hc).cn⟩, ⟨ho, fun c hc => (hk c hc).mine⟩⟩

theorem set_head (o : Swo lt) (hO : OrdC Z lf lt) {n ib io pb po tb hb dp : Nat} {iso cnt mn mx : Int} {ctr : Option Addr} {iv hv : Value} {a : Option Addr} {its : List It} {isp hc : List Value} {x : It} (hT0 : (tb, 0, hd0 iso ctr) ∈ Z) (hT4 : (tb, 4, hd4 lf mn mx) ∈ Z) (hh : Hn hv hb hc) (hd : dp ≤ 4611686018427387903) (ha : Asc lt its) (hb1 : its.length ≤ 1024) (hne : 1 ≤ its.length)
    (w : Own 2 iv its.length ib io (its.flatMap enc) isp) (s : St h0 Z ((pb, po, [ptr n 0]) :: (n, 0, [.int .u64 iso, .int .i64 cnt, iv, .pointer a]) :: (ib, io, its.flatMap enc ++ isp) :: (hb, 0, hc) :: E) h)
    (H1 : ∀ y hc' h', lget lt its x = some y → Hn hv hb hc' → St h0 Z ((pb, po, [ptr n 0]) :: (n, 0, [.int .u64 iso, .int .i64 cnt, iv, .pointer a]) :: (ib, io, (lput lt its x).flatMap enc ++ isp) :: (hb, 0, hc') :: E) h' → Q (.tuple #[av y, .bool true, .bool false]) h')
    (H2 : ∀ t7 t10 t13 hc' h', lget lt its x = none → Hn hv hb hc' → St h0 Z ((t13, 0, [ptr n 0]) :: (t10, 0, enc emp) :: (t7, 0, enc x) :: (pb, po, [ptr n 0]) :: (n, 0, [.int .u64 iso, .int .i64 cnt, iv, .pointer a]) :: (ib, io, its.flatMap enc ++ isp) :: (hb, 0, hc') :: E) h' → BTreeG_I_nodeSet.j3 (ptr tb 0) hv (.int .i64 dp) (ptr t7 0) (ptr t10 0) (ptr t13 0) (.int .i64 (pos lt its x)) h' Q) :
    BTreeG_I_nodeSet.call #[ptr tb 0, ptr pb po, av x, hv, .int .i64 dp] h Q := by
  refine BTreeG_I_nodeSet.body _ _ _ _ _ _ _ ?_
  unfold BTreeG_I_nodeSet.sh
  refine St.r_box (cs := enc x) s fun t7 h s => ?_
  refine s.r_alloc fun t10 h s => ?_
  refine r_nil ?_
  refine s.r_load1 2 (j := 0) rfl rfl ?_
  refine r_nil ?_
  refine r_fld ?_
  refine s.r_load1 3 (o := 0) (j := 0) rfl rfl ?_
  refine r_nil ?_
  refine r_fld ?_
  refine s.r_lz0 hT0 (j := 0) rfl ?_
  refine r_cmpI ?_
  refine r_if (fun e => absurd e (by simp)) (fun _ => ?_)
  unfold BTreeG_I_nodeSet.j1
  refine r_nil ?_
  refine s.r_load1 2 (j := 0) rfl rfl ?_
  refine s.r_alloc fun t13 h s => ?_
  refine St.r_store0 s 0 rfl (by simp) rfl ?_
  intro h s
  try simp only [List.set_cons_zero, List.set_cons_succ] at s
  have hlf : cl h tb 6 = some lf := s.clz hT4 2 rfl rfl
  have hni : cl h n 2 = some iv := by have := s.get (k := 4) (j := 2) rfl (by simp); simpa using this
  -- behind the search
  have two : ∀ {hc' : List Value} {h' : Heap}, Hn hv hb hc' → St h0 Z ((t13, 0, [ptr n 0]) :: (t10, 0, enc emp) :: (t7, 0, enc x) :: (pb, po, [ptr n 0]) :: (n, 0, [.int .u64 iso, .int .i64 cnt, iv, .pointer a]) :: (ib, io, its.flatMap enc ++ isp) :: (hb, 0, hc') :: E) h' →
      BTreeG_I_nodeSet.j2 (ptr tb 0) hv (.int .i64 dp) (ptr t7 0) (ptr t10 0) (ptr t13 0) (.int .i64 (pos lt its x)) (.bool (lget lt its x).isSome) h' Q := fun {hc'} {h'} hh s => by
    unfold BTreeG_I_nodeSet.j2
    refine r_if (fun hf => ?_) (fun hn => ?_)
    · obtain ⟨y, hy⟩ := Option.isSome_iff_exists.1 hf
      obtain ⟨hp, hyy, _⟩ := lget_some hy
      have hy2 : its[pos lt its x]? = some y := by rw [List.getElem?_eq_getElem hp, hyy]
      refine St.r_load0 s 0 rfl rfl ?_
      refine r_nil ?_
      refine r_fld ?_
      refine St.r_load0 s 4 rfl rfl ?_
      refine w.idx (n := pos lt its x) rfl hp ?_
      refine s.r_loadF encl 5 rfl hy2 ?_
      refine St.r_storeN0 s 1 rfl rfl (by simp) (enc1 _) ?_; intro h s
      refine St.r_load0 s 0 rfl rfl ?_
      refine r_nil ?_
      refine r_fld ?_
      refine St.r_load0 s 4 rfl rfl ?_
      refine St.r_loadN0 s 2 rfl (by simp) ?_
      refine w.idx (n := pos lt its x) rfl hp ?_
      refine s.r_storeF (x := x) encl 5 rfl hp (enc1 _) fun h s => ?_
      rw [← lput_found hy] at s
      refine St.r_loadN0 s 1 rfl (by simp) ?_
      refine St.r_storeN0 s 1 rfl rfl (by simp) (enc1 y) ?_; intro h s
      refine St.r_loadN0 s 1 rfl (by simp) ?_
      exact H1 y _ h hy hh (s.drop 3)
    · have hn : lget lt its x = none := by cases e : lget lt its x with
        | none => rfl
        | some y => rw [e] at hn; cases hn
      exact H2 t7 t10 t13 _ _ hn hh s
  rcases hh with ⟨rfl, rfl⟩ | ⟨rfl, hh⟩
  · refine r_eqNilP ?_
    refine r_if (fun _ => ?_) (fun e => absurd e (by simp))
    refine St.r_load0 s 0 rfl rfl ?_
    refine St.r_loadN0 s 2 rfl (by simp) ?_
    refine bsearch_ok o hO s hlf hni (w.rdl s 5 rfl) ha (by omega) fun E2 h2 u2 => ?_
    refine r_ext rfl ?_
    refine r_ext rfl ?_
    exact two (.inl ⟨rfl, rfl⟩) ((s.join u2).sub (List.sublist_append_right _ _))
  · refine r_eqNilP ?_
    refine r_if (fun e => absurd e (by simp)) (fun _ => ?_)
    refine St.r_load0 s 0 rfl rfl ?_
    refine St.r_loadN0 s 2 rfl (by simp) ?_
    refine hintsearch_ok o hO hh hd (s.front 6 rfl) hlf (c0 := .int .u64 iso) (c1 := .int .i64 cnt) (a := a) (iv := iv) (List.mem_append_left _ (by simp)) (w.rdl s 5 rfl) ha (by omega) hne fun hc' h' hh' s => ?_
    refine r_ext rfl ?_
    refine r_ext rfl ?_
    exact two (.inr ⟨rfl, hh'⟩) (s.perm (by ((apply perm_rg; intro f; simp only [List.set_cons_zero, List.set_cons_succ, List.eraseIdx_cons_zero, List.eraseIdx_cons_succ, List.cons_append, List.nil_append, List.map_append, List.map_cons, List.map_nil, List.sum_append, List.sum_cons, List.sum_nil, List.map_flatMap, Nat.add_zero, Nat.zero_add]; ac_rfl))))

/-- An item between the items of a node. -/
theorem set_leaf {n ib io i t7 t10 t13 tb : Nat} {cnt mn mx : Int} {c1 iv kp : Value} {its : List It} {isp : List Value} {x : It} (hT4 : (tb, 4, hd4 lf mn mx) ∈ Z) (hl : its.length ≤ 1024) (hi : i ≤ its.length) (hc0 : 0 ≤ cnt) (hc : cnt ≤ 4611686018427387904)
    (w : Own 2 iv its.length ib io (its.flatMap enc) isp) (s : St h0 Z ((t13, 0, [ptr n 0]) :: (t10, 0, enc emp) :: (t7, 0, enc x) :: (n, 0, [c1, .int .i64 cnt, iv, kp]) :: (ib, io, its.flatMap enc ++ isp) :: E) h)
    (H : ∀ iv' ib' io' isp' h', Own 2 iv' (ins its i x).length ib' io' ((ins its i x).flatMap enc) isp' → St h0 Z ((n, 0, [c1, .int .i64 (cnt + 1), iv', kp]) :: (ib', io', (ins its i x).flatMap enc ++ isp') :: E) h' → Q (.tuple #[av emp, .bool false, .bool false]) h') :
    BTreeG_I_nodeSet.j8 (ptr tb 0) (ptr t7 0) (ptr t10 0) (ptr t13 0) (.int .i64 i) h Q := by
  unfold BTreeG_I_nodeSet.j8
  refine St.r_load0 s 0 rfl rfl ?_
  refine St.r_load0 s 0 rfl rfl ?_
  refine r_nil ?_
  refine r_fld ?_
  refine St.r_load0 s 3 rfl rfl ?_
  refine r_nil ?_
  refine r_fld ?_
  refine s.r_lzE hT4 3 (enc emp) rfl (by simp) rfl ?_
  refine St.r_mkSl (sz := 2) (cs := enc emp) s (by ((simp only [fillV, fill1, Value.cells, zeros_succ, zeros_zero, List.size_toArray, List.length_cons, List.length_nil, List.length_append, List.take_succ_cons, List.take_zero, List.take_nil, List.drop_succ_cons, List.drop_zero, List.drop_nil, List.cons_append, List.nil_append, List.append_nil, Nat.reduceAdd, Nat.reduceMul, Nat.reduceLeDiff, Nat.reduceEqDiff, and_self, and_true, true_and, if_true, Nat.le_refl, Nat.zero_add, Nat.add_zero, Nat.zero_mul, reduceIte, if_false] <;> rfl))) rfl fun q h s w1 => ?_
  refine And.intro (by exact St.r_still0 s 1 rfl rfl) ?_
  refine And.intro (by exact St.r_still0 s 1 rfl rfl) ?_
  refine And.intro (by exact St.r_still0 s 4 rfl rfl) ?_
  refine St.r_app s 5 (sz := 2) (n := 1) (new := enc emp) rfl w rfl (w1.rdl s 0 rfl) (enc1 _) (by omega) (by omega) fun v' b' o' sp' h s w' => ?_
  rw [snoc_enc] at s w'
  have w' : Own 2 v' (its ++ [emp]).length b' o' ((its ++ [emp]).flatMap enc) sp' := by rw [List.length_append]; exact w'
  refine And.intro (by exact St.r_still0 s 1 rfl rfl) ?_
  refine r_nil ?_
  refine r_fld ?_
  refine St.r_store0 s 4 rfl (by simp) w'.one ?_; intro h s
  refine St.r_load0 s 1 rfl rfl ?_
  refine r_nil ?_
  refine r_fld ?_
  refine St.r_load0 s 4 rfl rfl ?_
  refine r_add (z := ((i + 1 : Nat) : Int)) (by rw [i64w (by omega) (by omega)]; omega) ?_
  refine w'.slcLo encl (i := i + 1) rfl (by simp; omega) fun d wd => ?_
  refine St.r_load0 s 1 rfl rfl ?_
  refine r_nil ?_
  refine r_fld ?_
  refine St.r_load0 s 4 rfl rfl ?_
  refine (w'.rdl s 5 rfl).slcLo encl (i := i) rfl (by simp; omega) fun src rs => ?_
  refine s.r_cpyF encl 5 (L := its ++ [emp]) (M := (its ++ [emp]).drop i) rfl wd (by simp; omega) rs rfl (fun y _ => enc1 y) fun h s => ?_
  refine St.r_load0 s 1 rfl rfl ?_
  refine r_nil ?_
  refine r_fld ?_
  refine St.r_load0 s 4 rfl rfl ?_
  refine St.r_loadN0 s 3 rfl (by simp) ?_
  refine w'.idx (n := i) rfl (by simp; omega) ?_
  refine s.r_storeF (x := x) encl 5 rfl (by simp; omega) (enc1 _) fun h s => ?_
  rw [List.set_set, ins_steps its emp x hi] at s
  refine St.r_load0 s 1 rfl rfl ?_
  refine r_nil ?_
  refine r_fld ?_
  refine St.r_load0 s 4 rfl rfl ?_
  refine r_add (z := cnt + 1) (by rw [i64w (by omega) (by omega)]) ?_
  refine r_nil ?_
  refine r_fld ?_
  refine St.r_store0 s 4 rfl (by simp) rfl ?_; intro h s
  refine r_nil ?_
  refine r_fld ?_
  refine s.r_lzE hT4 3 (enc emp) rfl (by simp) rfl ?_
  refine St.r_storeN0 s 2 rfl rfl (by simp) (enc1 emp) ?_; intro h s
  refine St.r_loadN0 s 2 rfl (by simp) ?_
  refine H v' b' o' sp' h ?_ (s.drop 4)
  have e := ins_length (x := x) hi
  rw [show (ins its i x).length = (its ++ [emp]).length by rw [e]; simp]
  exact w'.cong (by rw [flat_len encl, flat_len encl, e]; simp)

/-- Setting below a node of height k, as told by the plain tree. -/
def SetOk (lt : It → It → Bool) (h0 : Heap) (Z : List Rg) (tb m : Nat) (iso : Int) (x : It) (k : Nat) : Prop :=
  ∀ (t : GT It k) {h : Heap} {E : List Rg} {Q : Value → Heap → Prop} {pb po lo hb dp : Nat} {hv : Value} {hc : List Value}, Hn hv hb hc → dp + k ≤ 4611686018427387903 → 1 ≤ lo → t.pt.Fl m lo → Asc lt t.pt.items → t.pt.items.length ≤ 4611686018427387903 → Gd iso t → St h0 Z ((pb, po, [ptr t.id 0]) :: (hb, 0, hc) :: (t.all enc ++ E)) h →
    (∀ (t' : GT It k) hc' h', t'.pt = (if t.pt.splits lt m x then t.pt else t.pt.set lt m x) → t'.id = t.id → Gd iso t' → Hn hv hb hc' → St h0 Z ((pb, po, [ptr t.id 0]) :: (hb, 0, hc') :: (t'.all enc ++ E)) h' →
      Q (.tuple #[old (t.pt.get lt x), .bool (t.pt.get lt x).isSome, .bool (t.pt.splits lt m x)]) h') → BTreeG_I_nodeSet.call #[ptr tb 0, ptr pb po, av x, hv, .int .i64 dp] h Q

theorem setOk_zero (o : Swo lt) (hO : OrdC Z lf lt) {tb m : Nat} {iso mn : Int} {ctr : Option Addr} {x : It} (hT0 : (tb, 0, hd0 iso ctr) ∈ Z) (hT4 : (tb, 4, hd4 lf mn m) ∈ Z) (hm1 : m ≤ 1024) : SetOk lt h0 Z tb m iso x 0 := by
  intro d h E Q pb po lo hb dp hv hc hh hdk hlo fl ha hsz g s H
  obtain ⟨own, n, is', cnt, its, iv, ib, io, isp, kb, kv, krb, kro, ksp⟩ := d
  have w : Own 2 iv its.length ib io (its.flatMap enc) isp := g.wf.1
  have hlen : its.length ≤ m := fl.2
  have hle : lo ≤ its.length := fl.1
  have hcn : cnt = its.length := g.cn
  have ho : own = true := g.mine
  have hiso : is' = iso := g.wf.2.1 ho
  subst hiso; subst ho
  have s : St h0 Z ((pb, po, [ptr n 0]) :: (hb, 0, hc) :: (n, 0, [.int .u64 is', .int .i64 cnt, iv, .pointer none]) :: (ib, io, its.flatMap enc ++ isp) :: E) h := s
  have ha : Asc lt its := ha
  refine set_head o hO (n := n) (iso := is') (cnt := cnt) (a := none) (E := E) hT0 hT4 hh (by omega) ha (by omega) (by omega) w (s.perm (by ((apply perm_rg; intro f; simp only [List.set_cons_zero, List.set_cons_succ, List.eraseIdx_cons_zero, List.eraseIdx_cons_succ, List.cons_append, List.nil_append, List.map_append, List.map_cons, List.map_nil, List.sum_append, List.sum_cons, List.sum_nil, List.map_flatMap, Nat.add_zero, Nat.zero_add]; ac_rfl)))) (fun y hc' h' hy hh s => ?_) fun t7 t10 t13 hc' h' hn hh s => ?_
  · have hns : PT.splits lt m (h := 0) its x = false := by rw [PT.splits_leaf, hy]; rfl
    have hg : PT.get lt (h := 0) its x = some y := hy
    have hln : (lput lt its x).length = its.length := by rw [lput_length, hy]; rfl
    have := H (⟨true, n, is', cnt, lput lt its x, iv, ib, io, isp, kb, kv, krb, kro, ksp⟩ : Nd It) hc' h' (by show _ = if PT.splits lt m (h := 0) its x = true then _ else _; rw [hns]; rfl) rfl
      (Gd.leaf (by show Own 2 iv (lput lt its x).length ib io ((lput lt its x).flatMap enc) isp; rw [hln]; exact w.cong (by rw [flat_len encl, flat_len encl, hln])) rfl rfl (by show cnt = (lput lt its x).length; rw [hln]; exact hcn)) hh (s.perm (E' := (pb, po, [ptr n 0]) :: (hb, 0, hc') :: (n, 0, [.int .u64 is', .int .i64 cnt, iv, .pointer none]) :: (ib, io, (lput lt its x).flatMap enc ++ isp) :: E) (by ((apply perm_rg; intro f; simp only [List.set_cons_zero, List.set_cons_succ, List.eraseIdx_cons_zero, List.eraseIdx_cons_succ, List.cons_append, List.nil_append, List.map_append, List.map_cons, List.map_nil, List.sum_append, List.sum_cons, List.sum_nil, List.map_flatMap, Nat.add_zero, Nat.zero_add]; ac_rfl))))
    change Q (.tuple #[old (PT.get lt (h := 0) its x), .bool (PT.get lt (h := 0) its x).isSome, .bool (PT.splits lt m (h := 0) its x)]) h' at this
    rw [hns, hg] at this
    exact this
  · unfold BTreeG_I_nodeSet.j3
    have hg : PT.get lt (h := 0) its x = none := hn
    refine St.r_load0 s 0 rfl rfl ?_
    refine node_leaf_ok (a := none) (s.get (k := 4) (j := 3) rfl (by simp)) ?_
    refine r_if (fun _ => ?_) (fun e => absurd e (by simp))
    refine St.r_load0 s 0 rfl rfl ?_
    refine r_nil ?_
    refine r_fld ?_
    refine St.r_load0 s 4 rfl rfl ?_
    refine w.lenV ?_
    refine r_nil ?_
    refine r_fld ?_
    refine s.r_lz hT4 5 rfl rfl ?_
    refine r_cmpI ?_
    refine r_if (fun hfull => ?_) (fun hroom => ?_)
    · have hfull : its.length = m := Int.ofNat_inj.1 (by simpa using hfull)
      have hsp : PT.splits lt m (h := 0) its x = true := by rw [PT.splits_leaf, hn]; simpa using hfull
      refine r_nil ?_
      refine r_fld ?_
      refine s.r_lzE hT4 3 (enc emp) rfl (by simp) rfl ?_
      refine St.r_storeN0 s 1 rfl rfl (by simp) (enc1 emp) ?_; intro h s
      refine St.r_loadN0 s 1 rfl (by simp) ?_
      have := H (⟨true, n, is', cnt, its, iv, ib, io, isp, kb, kv, krb, kro, ksp⟩ : Nd It) hc' h (by show _ = if PT.splits lt m (h := 0) its x = true then _ else _; rw [hsp]; rfl) rfl g hh (St.perm (E := (pb, po, [ptr n 0]) :: (n, 0, [.int .u64 is', .int .i64 cnt, iv, .pointer none]) :: (ib, io, its.flatMap enc ++ isp) :: (hb, 0, hc') :: E) (E' := (pb, po, [ptr n 0]) :: (hb, 0, hc') :: (n, 0, [.int .u64 is', .int .i64 cnt, iv, .pointer none]) :: (ib, io, its.flatMap enc ++ isp) :: E) (s.drop 3) (by ((apply perm_rg; intro f; simp only [List.set_cons_zero, List.set_cons_succ, List.eraseIdx_cons_zero, List.eraseIdx_cons_succ, List.cons_append, List.nil_append, List.map_append, List.map_cons, List.map_nil, List.sum_append, List.sum_cons, List.sum_nil, List.map_flatMap, Nat.add_zero, Nat.zero_add]; ac_rfl))))
      change Q (.tuple #[old (PT.get lt (h := 0) its x), .bool (PT.get lt (h := 0) its x).isSome, .bool (PT.splits lt m (h := 0) its x)]) h at this
      rw [hsp, hg] at this
      exact this
    · have hroom : its.length ≠ m := fun e => by rw [e] at hroom; simp at hroom
      have hsp : PT.splits lt m (h := 0) its x = false := by rw [PT.splits_leaf, hn]; simpa using hroom
      have hp := pos_le (lt := lt) its x
      refine set_leaf (n := n) (t7 := t7) (t10 := t10) (t13 := t13) (x := x) (c1 := .int .u64 is') (kp := .pointer none) (cnt := cnt) (its := its) (E := (pb, po, [ptr n 0]) :: (hb, 0, hc') :: E) hT4 (by omega) hp (by omega) (by omega) w (s.perm (by ((apply perm_rg; intro f; simp only [List.set_cons_zero, List.set_cons_succ, List.eraseIdx_cons_zero, List.eraseIdx_cons_succ, List.cons_append, List.nil_append, List.map_append, List.map_cons, List.map_nil, List.sum_append, List.sum_cons, List.sum_nil, List.map_flatMap, Nat.add_zero, Nat.zero_add]; ac_rfl)))) fun iv' ib' io' isp' h' w' s => ?_
      rw [← lput_ins hn] at w' s
      have hln : (lput lt its x).length = its.length + 1 := by rw [lput_length, hn]; rfl
      have := H (⟨true, n, is', cnt + 1, lput lt its x, iv', ib', io', isp', kb, kv, krb, kro, ksp⟩ : Nd It) hc' h' (by show _ = if PT.splits lt m (h := 0) its x = true then _ else _; rw [hsp]; rfl) rfl
        (Gd.leaf w' rfl rfl (by show cnt + 1 = (lput lt its x).length; omega)) hh (s.perm (E' := (pb, po, [ptr n 0]) :: (hb, 0, hc') :: (n, 0, [.int .u64 is', .int .i64 (cnt + 1), iv', .pointer none]) :: (ib', io', (lput lt its x).flatMap enc ++ isp') :: E) (by ((apply perm_rg; intro f; simp only [List.set_cons_zero, List.set_cons_succ, List.eraseIdx_cons_zero, List.eraseIdx_cons_succ, List.cons_append, List.nil_append, List.map_append, List.map_cons, List.map_nil, List.sum_append, List.sum_cons, List.sum_nil, List.map_flatMap, Nat.add_zero, Nat.zero_add]; ac_rfl))))
      change Q (.tuple #[old (PT.get lt (h := 0) its x), .bool (PT.get lt (h := 0) its x).isSome, .bool (PT.splits lt m (h := 0) its x)]) h' at this
      rw [hsp, hg] at this
      exact this
end Go.Proofs.YtgnnidefbeoibaaGreat.Gi
end
section
namespace Go.Proofs.YtgnnidefbeoibaaGreat.Gi
open Go.Hp Go.Proofs.YtgnnidefbeoibaaGreat
set_option linter.unusedVariables false
set_option linter.unusedSimpArgs false
variable {h0 h : Heap} {Z E : List Rg} {Q : Value → Heap → Prop} {lt : It → It → Bool} {lf : Value}

theorem flat_at3 {β : Type} (f : β → List Rg) {ts : List β} {i : Nat} {c : β} (hc : ts[i]? = some c) : ts.flatMap f = (ts.take i).flatMap f ++ (f c ++ (ts.drop (i + 1)).flatMap f) := by
  conv => lhs; rw [take_at hc, List.flatMap_append, List.flatMap_cons]
theorem set_ids {k : Nat} {ts : List (GT It k)} {i : Nat} {c c' : GT It k} (hc : ts[i]? = some c) (he : c'.id = c.id) : (ts.set i c').map GT.id = ts.map GT.id := by
  obtain ⟨hi, rfl⟩ := List.getElem?_eq_some_iff.1 hc
  rw [List.map_set, he]
  apply List.ext_getElem?
  intro j
  rw [List.getElem?_set]
  split
  · rename_i e; subst e
    simp [hi]
  · rfl
theorem lend_kidH {k : Nat} {ts : List (GT It k)} {i kb krb kro : Nat} {kv : Value} {ksp : List Value} {A : List Rg} {c : GT It k} {r : Rg} (hc : ts[i]? = some c)
    (s : St h0 Z (r :: (A ++ ((krb, kro, (ts.map GT.id).flatMap fp ++ ksp) :: (ts.flatMap (GT.all enc) ++ E)))) h) :
    ∃ E', St h0 Z ((krb, kro + i * 1, [ptr c.id 0]) :: r :: (c.all enc ++ E')) h ∧ ∀ (c' : GT It k) (r' : Rg) h', c'.id = c.id → St h0 Z ((krb, kro + i * 1, [ptr c.id 0]) :: r' :: (c'.all enc ++ E')) h' →
      St h0 Z (r' :: (A ++ ((krb, kro, ((ts.set i c').map GT.id).flatMap fp ++ ksp) :: ((ts.set i c').flatMap (GT.all enc) ++ E)))) h' := by
  have hid : (ts.map GT.id)[i]? = some c.id := by rw [List.getElem?_map, hc]; rfl
  have s1 : St h0 Z ((krb, kro, (ts.map GT.id).flatMap fp ++ ksp) :: (r :: (A ++ (ts.flatMap (GT.all enc) ++ E)))) h := s.perm (by ((apply perm_rg; intro f; simp only [List.set_cons_zero, List.set_cons_succ, List.eraseIdx_cons_zero, List.eraseIdx_cons_succ, List.cons_append, List.nil_append, List.map_append, List.map_cons, List.map_nil, List.sum_append, List.sum_cons, List.sum_nil, List.map_flatMap, Nat.add_zero, Nat.zero_add]; ac_rfl)))
  have s2 := St.cut3 fpl s1 hid
  refine ⟨(krb, kro, ((ts.map GT.id).take i).flatMap fp) :: (krb, kro + (i + 1) * 1, ((ts.map GT.id).drop (i + 1)).flatMap fp ++ ksp) :: (A ++ ((ts.take i).flatMap (GT.all enc) ++ ((ts.drop (i + 1)).flatMap (GT.all enc) ++ E))), s2.perm ?_, fun c' r' h' he s' => ?_⟩
  · rw [flat_at3 (GT.all enc) hc]; ((apply perm_rg; intro f; simp only [List.set_cons_zero, List.set_cons_succ, List.eraseIdx_cons_zero, List.eraseIdx_cons_succ, List.cons_append, List.nil_append, List.map_append, List.map_cons, List.map_nil, List.sum_append, List.sum_cons, List.sum_nil, List.map_flatMap, Nat.add_zero, Nat.zero_add]; ac_rfl))
  · have hi := (List.getElem?_eq_some_iff.1 hc).1
    have hc' : (ts.set i c')[i]? = some c' := by rw [List.getElem?_set_self hi]
    rw [set_ids hc he, flat_at3 (GT.all enc) hc', List.take_set_of_le (Nat.le_refl _), List.drop_set_of_lt (by omega)]
    have s3 : St h0 Z ((krb, kro, ((ts.map GT.id).take i).flatMap fp) :: (krb, kro + (i + 1) * 1, ((ts.map GT.id).drop (i + 1)).flatMap fp ++ ksp) :: (krb, kro + i * 1, fp c.id) :: (r' :: (A ++ ((ts.take i).flatMap (GT.all enc) ++ (c'.all enc ++ ((ts.drop (i + 1)).flatMap (GT.all enc) ++ E)))))) h' := s'.perm (by ((apply perm_rg; intro f; simp only [List.set_cons_zero, List.set_cons_succ, List.eraseIdx_cons_zero, List.eraseIdx_cons_succ, List.cons_append, List.nil_append, List.map_append, List.map_cons, List.map_nil, List.sum_append, List.sum_cons, List.sum_nil, List.map_flatMap, Nat.add_zero, Nat.zero_add]; ac_rfl)))
    have s4 := St.glue3 fpl hid s3
    exact s4.perm (by ((apply perm_rg; intro f; simp only [List.set_cons_zero, List.set_cons_succ, List.eraseIdx_cons_zero, List.eraseIdx_cons_succ, List.cons_append, List.nil_append, List.map_append, List.map_cons, List.map_nil, List.sum_append, List.sum_cons, List.sum_nil, List.map_flatMap, Nat.add_zero, Nat.zero_add]; ac_rfl)))
theorem r_loadM1 {k : Nat} {ts : List (GT It k)} {K : Value → Prop} (s : St h0 Z E h) (j : Nat) {b o i : Nat} {sp : List Value} {c : GT It k} (hk : E[j]? = some (b, o, (ts.map GT.id).flatMap fp ++ sp)) (hc : ts[i]? = some c) (H : K (ptr c.id 0)) : load1 (ptr b (o + i * 1)) h K := by
  have := s.r_load1F (K := K) (r := 0) fpl j hk (show (ts.map GT.id)[i]? = some c.id by rw [List.getElem?_map, hc]; rfl) (v := ptr c.id 0) rfl H
  exact this

/-- What a changed kid makes of a node. -/
theorem Gd.setKid {iso : Int} {k : Nat} {d : Nd It} {ts : List (GT It k)} (g : Gd iso (k := k + 1) (d, ts)) {i : Nat} {c c' : GT It k} (hc : ts[i]? = some c) (he : c'.id = c.id) (g' : Gd iso c') {cnt : Int}
    (hcnt : cnt = (GT.pt (h := k + 1) (d, ts.set i c')).items.length) : Gd iso (k := k + 1) ({ d with cnt := cnt }, ts.set i c') := by
  have wK := g.wf.2.1
  refine Gd.inner g.wf.1.1 g.mine.1 (g.wf.1.2.1 g.mine.1) ?_ (by rw [List.length_set]; exact g.wf.2.2.1) (fun q hq => ?_) hcnt
  · rw [set_ids hc he, List.length_set, ← mfp]; exact wK
  · rcases List.mem_or_eq_of_mem_set hq with e | e
    · exact g.kid e
    · rw [e]; exact g'

theorem set_noSplit (o : Swo lt) (hO : OrdC Z lf lt) {tb m : Nat} {iso mn : Int} {ctr : Option Addr} {x : It} (hT0 : (tb, 0, hd0 iso ctr) ∈ Z) (hT4 : (tb, 4, hd4 lf mn m) ∈ Z) (hm3 : 3 ≤ m) (hm1 : m ≤ 1024) (ho : m % 2 = 1) {k : Nat} (ih : SetOk lt h0 Z tb m iso x k)
    (t : GT It (k + 1)) {pb po lo hb dp : Nat} {hv : Value} {hc : List Value} (hh : Hn hv hb hc) (hdk : dp + (k + 1) ≤ 4611686018427387903) (hlo : 1 ≤ lo) (fl : t.pt.Fl m lo) (ha : Asc lt t.pt.items) (hsz : t.pt.items.length ≤ 4611686018427387903) (g : Gd iso t) (s : St h0 Z ((pb, po, [ptr t.id 0]) :: (hb, 0, hc) :: (t.all enc ++ E)) h)
    (hns : ∀ c, t.pt.2[pos lt t.pt.1 x]? = some c → lget lt t.pt.1 x = none → c.splits lt m x = false)
    (H : ∀ (t' : GT It (k + 1)) hc' h', t'.pt = t.pt.set lt m x → t'.id = t.id → Gd iso t' → Hn hv hb hc' → St h0 Z ((pb, po, [ptr t.id 0]) :: (hb, 0, hc') :: (t'.all enc ++ E)) h' → Q (.tuple #[old (t.pt.get lt x), .bool (t.pt.get lt x).isSome, .bool false]) h') :
    BTreeG_I_nodeSet.call #[ptr tb 0, ptr pb po, av x, hv, .int .i64 dp] h Q := by
  have hsp : t.pt.splits lt m x = false := by
    cases e : t.pt.splits lt m x with
    | false => rfl
    | true =>
      obtain ⟨_, e2⟩ := PT.splits_len e
      have e2 : lget lt t.pt.1 x = none := e2
      obtain ⟨c, hc, _⟩ := PT.step o fl ha e2
      rw [PT.splits_kid e2 hc, hns c hc e2] at e
      simp at e
  have hset := PT.set_items o ho fl ha hsp
  have hgi := PT.get_items o fl ha (x := x)
  obtain ⟨d, ts⟩ := t
  obtain ⟨own, n, is', cnt, its, iv, ib, io, isp, kb, kv, krb, kro, ksp⟩ := d
  have w : Own 2 iv its.length ib io (its.flatMap enc) isp := g.wf.1.1
  have wK : Own 1 kv ts.length krb kro ((ts.map GT.id).map fun m => ptr m 0) ksp := g.wf.2.1
  have hkl : ts.length = its.length + 1 := g.wf.2.2.1
  have hidl : (ts.map GT.id).length = ts.length := List.length_map ..
  have hom : own = true := g.mine.1
  have hiso : is' = iso := g.wf.1.2.1 hom
  subst hiso; subst hom
  have hlen : its.length ≤ m := fl.2.1
  have hle : lo ≤ its.length := fl.1
  have ha1 : Asc lt its := asc_of_sub ha (PT.its_sub1 (its, ts.map GT.pt))
  rw [← hidl, mfp] at wK
  have hcn : cnt = (PT.items (h := k + 1) (its, ts.map GT.pt)).length := g.cn.1
  have s : St h0 Z ((pb, po, [ptr n 0]) :: (hb, 0, hc) :: (n, 0, [.int .u64 is', .int .i64 cnt, iv, ptr kb 0]) :: (ib, io, its.flatMap enc ++ isp) :: (kb, 0, [kv]) :: (krb, kro, ((ts.map GT.id).map fun m => ptr m 0) ++ ksp) :: (ts.flatMap (GT.all enc) ++ E)) h := s
  rw [mfp] at s
  refine set_head o hO (n := n) (iso := is') (cnt := cnt) (a := some ⟨kb, 0, none⟩) (E := (kb, 0, [kv]) :: (krb, kro, (ts.map GT.id).flatMap fp ++ ksp) :: (ts.flatMap (GT.all enc) ++ E)) hT0 hT4 hh (by omega) ha1 (by omega) (by omega) w (s.perm (by ((apply perm_rg; intro f; simp only [List.set_cons_zero, List.set_cons_succ, List.eraseIdx_cons_zero, List.eraseIdx_cons_succ, List.cons_append, List.nil_append, List.map_append, List.map_cons, List.map_nil, List.sum_append, List.sum_cons, List.sum_nil, List.map_flatMap, Nat.add_zero, Nat.zero_add]; ac_rfl)))) (fun y hc' h' hy hh s => ?_) fun t7 t10 t13 hc' h' hn hh s => ?_
  · have hln : (lput lt its x).length = its.length := by rw [lput_length, hy]; rfl
    have e1 : PT.set lt m (h := k + 1) (its, ts.map GT.pt) x = (lput lt its x, ts.map GT.pt) := PT.set_found (t := (its, ts.map GT.pt)) hy
    have e2 : PT.get lt (h := k + 1) (its, ts.map GT.pt) x = some y := PT.get_found (t := (its, ts.map GT.pt)) hy
    have e3 : (PT.items (h := k + 1) (lput lt its x, ts.map GT.pt)).length = (PT.items (h := k + 1) (its, ts.map GT.pt)).length := by
      have h1 : (PT.set lt m (h := k + 1) (its, ts.map GT.pt) x).items = lput lt (PT.items (h := k + 1) (its, ts.map GT.pt)) x := hset.1
      have h2 : PT.get lt (h := k + 1) (its, ts.map GT.pt) x = lget lt (PT.items (h := k + 1) (its, ts.map GT.pt)) x := hgi
      rw [e1] at h1
      rw [h1, lput_length, ← h2, e2]; rfl
    have s : St h0 Z ((pb, po, [ptr n 0]) :: (hb, 0, hc') :: (n, 0, [.int .u64 is', .int .i64 cnt, iv, ptr kb 0]) :: (ib, io, (lput lt its x).flatMap enc ++ isp) :: (kb, 0, [kv]) :: (krb, kro, (ts.map GT.id).flatMap fp ++ ksp) :: (ts.flatMap (GT.all enc) ++ E)) h' := s.perm (by ((apply perm_rg; intro f; simp only [List.set_cons_zero, List.set_cons_succ, List.eraseIdx_cons_zero, List.eraseIdx_cons_succ, List.cons_append, List.nil_append, List.map_append, List.map_cons, List.map_nil, List.sum_append, List.sum_cons, List.sum_nil, List.map_flatMap, Nat.add_zero, Nat.zero_add]; ac_rfl)))
    have := H ((⟨true, n, is', cnt, lput lt its x, iv, ib, io, isp, kb, kv, krb, kro, ksp⟩ : Nd It), ts) hc' h' e1.symm rfl
      (Gd.inner (by show Own 2 iv (lput lt its x).length ib io ((lput lt its x).flatMap enc) isp; rw [hln]; exact w.cong (by rw [flat_len encl, flat_len encl, hln])) rfl rfl (by rw [← hidl]; exact wK) (by show ts.length = (lput lt its x).length + 1; rw [hln]; exact hkl) (fun c hc => g.kid hc) (by
        show cnt = ((PT.items (h := k + 1) (lput lt its x, ts.map GT.pt)).length : Int); rw [e3]; exact hcn)) hh (by rw [← mfp] at s; exact s)
    change Q (.tuple #[old (PT.get lt (h := k + 1) (its, ts.map GT.pt) x), .bool (PT.get lt (h := k + 1) (its, ts.map GT.pt) x).isSome, .bool false]) h' at this
    rw [e2] at this
    exact this
  · have hp := pos_le (lt := lt) its x
    obtain ⟨c, hc⟩ : ∃ c, ts[pos lt its x]? = some c := ⟨ts[pos lt its x]'(by omega), List.getElem?_eq_getElem (by omega)⟩
    have hcp : (ts.map GT.pt)[pos lt its x]? = some c.pt := by rw [List.getElem?_map, hc]; rfl
    have hcs : c.pt.splits lt m x = false := hns c.pt hcp hn
    obtain ⟨c0, hc0, hcm, hac, hg0, _⟩ := PT.step (h := k) (t := (its, ts.map GT.pt)) o fl ha hn
    have : c0 = c.pt := Option.some.inj (hc0.symm.trans hcp)
    subst this
    have hcmem := List.mem_of_getElem? hc
    have e1 : PT.set lt m (h := k + 1) (its, ts.map GT.pt) x = (its, (ts.map GT.pt).set (pos lt its x) (c.pt.set lt m x)) := PT.set_kid (t := (its, ts.map GT.pt)) hn hcp hcs
    have e2 : PT.get lt (h := k + 1) (its, ts.map GT.pt) x = c.pt.get lt x := PT.get_kid (t := (its, ts.map GT.pt)) hn hcp
    have hcsz : c.pt.items.length ≤ 4611686018427387903 := by
      have h1 : (inter its ((ts.map GT.pt).map PT.items)).length = _ := inter_length _ _
      have h2 : (inter its ((ts.map GT.pt).map PT.items)).length ≤ 4611686018427387903 := hsz
      have h3 : c.pt.items.length ≤ (((ts.map GT.pt).map PT.items).map List.length).sum := mem_le_sum (by
        rw [List.map_map, List.map_map]; exact List.mem_map.2 ⟨c, hcmem, rfl⟩)
      omega
    unfold BTreeG_I_nodeSet.j3
    refine St.r_load0 s 0 rfl rfl ?_
    refine node_leaf_ok (a := some ⟨kb, 0, none⟩) (s.get (k := 4) (j := 3) rfl (by simp)) ?_
    refine r_if (fun e => absurd e (by simp)) (fun _ => ?_)
    unfold BTreeG_I_nodeSet.j4
    refine St.r_load0 s 0 rfl rfl ?_
    refine r_nil ?_
    refine r_fld ?_
    refine St.r_load0 s 4 rfl rfl ?_
    refine r_nil ?_
    refine St.r_load0 s 7 rfl rfl ?_
    (refine Own.idx (by assumption) rfl (by first | omega | (simp; done) | (simp; omega)) ?_)
    refine St.r_loadN0 s 2 rfl (by simp) ?_
    refine r_add1 (by omega) ?_
    obtain ⟨E', sk, back⟩ := lend_kidH (r := (hb, 0, hc')) (krb := krb) (kro := kro) (ksp := ksp) (A := (t13, 0, [ptr n 0]) :: (t10, 0, enc emp) :: (t7, 0, enc x) :: (pb, po, [ptr n 0]) :: (n, 0, [.int .u64 is', .int .i64 cnt, iv, ptr kb 0]) :: (ib, io, its.flatMap enc ++ isp) :: (kb, 0, [kv]) :: []) (E := E) (kb := kb) (kv := kv) hc (s.perm (by ((apply perm_rg; intro f; simp only [List.set_cons_zero, List.set_cons_succ, List.eraseIdx_cons_zero, List.eraseIdx_cons_succ, List.cons_append, List.nil_append, List.map_append, List.map_cons, List.map_nil, List.sum_append, List.sum_cons, List.sum_nil, List.map_flatMap, Nat.add_zero, Nat.zero_add]; ac_rfl))))
    refine ih c hh (by omega) (by omega) (fl.2.2.2 _ hcm) hac hcsz (g.kid hcmem) sk fun c' hc' h' hc1 hc2 hc3 hh s => ?_
    rw [hcs] at hc1 ⊢
    simp only [Bool.false_eq_true, ↓reduceIte] at hc1
    have s := back c' _ h' hc2 s
    have s : St h0 Z ((t13, 0, [ptr n 0]) :: (t10, 0, enc emp) :: (t7, 0, enc x) :: (pb, po, [ptr n 0]) :: (hb, 0, hc') :: (n, 0, [.int .u64 is', .int .i64 cnt, iv, ptr kb 0]) :: (ib, io, its.flatMap enc ++ isp) :: (kb, 0, [kv]) :: (krb, kro, ((ts.set (pos lt its x) c').map GT.id).flatMap fp ++ ksp) :: ((ts.set (pos lt its x) c').flatMap (GT.all enc) ++ E)) h' := s.perm (by ((apply perm_rg; intro f; simp only [List.set_cons_zero, List.set_cons_succ, List.eraseIdx_cons_zero, List.eraseIdx_cons_succ, List.cons_append, List.nil_append, List.map_append, List.map_cons, List.map_nil, List.sum_append, List.sum_cons, List.sum_nil, List.map_flatMap, Nat.add_zero, Nat.zero_add]; ac_rfl)))
    have ept : (ts.set (pos lt its x) c').map GT.pt = (ts.map GT.pt).set (pos lt its x) (c.pt.set lt m x) := by rw [List.map_set, hc1]
    have hlenI : (PT.items (h := k + 1) (its, (ts.set (pos lt its x) c').map GT.pt)).length = (PT.items (h := k + 1) (its, ts.map GT.pt)).length + if (c.pt.get lt x).isSome then 0 else 1 := by
      have h1 : (PT.set lt m (h := k + 1) (its, ts.map GT.pt) x).items = lput lt (PT.items (h := k + 1) (its, ts.map GT.pt)) x := hset.1
      have h2 : PT.get lt (h := k + 1) (its, ts.map GT.pt) x = lget lt (PT.items (h := k + 1) (its, ts.map GT.pt)) x := hgi
      rw [e1, ← ept] at h1
      rw [h1, lput_length, ← h2, e2]
    have fin : ∀ cnt' h', cnt' = (((PT.items (h := k + 1) (its, (ts.set (pos lt its x) c').map GT.pt)).length : Nat) : Int) →
        St h0 Z ((t13, 0, [ptr n 0]) :: (t10, 0, enc ((c.pt.get lt x).getD emp)) :: (t7, 0, enc x) :: (pb, po, [ptr n 0]) :: (hb, 0, hc') :: (n, 0, [.int .u64 is', .int .i64 cnt', iv, ptr kb 0]) :: (ib, io, its.flatMap enc ++ isp) :: (kb, 0, [kv]) :: (krb, kro, ((ts.set (pos lt its x) c').map GT.id).flatMap fp ++ ksp) :: ((ts.set (pos lt its x) c').flatMap (GT.all enc) ++ E)) h' →
        BTreeG_I_nodeSet.j6 (ptr t10 0) (.bool (c.pt.get lt x).isSome) h' Q := by
      intro cnt' h' hcnt' s
      unfold BTreeG_I_nodeSet.j6
      refine St.r_loadN0 s 1 rfl (by simp) ?_
      refine St.r_storeN0 s 1 rfl rfl (by simp) (enc1 _) ?_; intro h' s
      refine St.r_loadN0 s 1 rfl (by simp) ?_
      have := H ((⟨true, n, is', cnt', its, iv, ib, io, isp, kb, kv, krb, kro, ksp⟩ : Nd It), ts.set (pos lt its x) c') hc' h' (by show (its, (ts.set (pos lt its x) c').map GT.pt) = _; rw [ept]; exact e1.symm) rfl
        (Gd.setKid (d := ⟨true, n, is', cnt, its, iv, ib, io, isp, kb, kv, krb, kro, ksp⟩) g hc hc2 hc3 hcnt') hh (by rw [← mfp] at s; exact s.drop 3)
      change Q (.tuple #[old (PT.get lt (h := k + 1) (its, ts.map GT.pt) x), .bool (PT.get lt (h := k + 1) (its, ts.map GT.pt) x).isSome, .bool false]) h' at this
      rw [e2] at this
      exact this
    refine r_ext rfl ?_
    refine r_ext rfl ?_
    refine r_ext rfl ?_
    refine St.r_storeN0 s 1 rfl rfl (by simp) (enc1 ((c.pt.get lt x).getD emp)) ?_; intro h s
    refine r_if (fun e => absurd e (by simp)) (fun _ => ?_)
    unfold BTreeG_I_nodeSet.j5
    refine r_not ?_
    refine r_if (fun hr => ?_) (fun hr => ?_)
    · have hr2 : (c.pt.get lt x).isSome = false := by simpa using hr
      refine St.r_load0 s 0 rfl rfl ?_
      refine r_nil ?_
      refine r_fld ?_
      refine St.r_load0 s 5 rfl rfl ?_
      refine r_add (z := cnt + 1) (by have : (PT.items (h := k + 1) (its, ts.map GT.pt)).length ≤ 4611686018427387903 := hsz; rw [i64w (by omega) (by omega)]) ?_
      refine r_nil ?_
      refine r_fld ?_
      refine St.r_store0 s 5 rfl (by simp) rfl ?_; intro h s
      exact fin (cnt + 1) h (by rw [hlenI, hr2, hcn]; simp) s
    · have hr2 : (c.pt.get lt x).isSome = true := by simpa using hr
      exact fin cnt h (by rw [hlenI, hr2, hcn]; simp) s
end Go.Proofs.YtgnnidefbeoibaaGreat.Gi
end
section
namespace Go.Proofs.YtgnnidefbeoibaaGreat.Gi
open Go.Hp Go.Proofs.YtgnnidefbeoibaaGreat
set_option linter.unusedVariables false
set_option linter.unusedSimpArgs false
variable {h0 h : Heap} {Z E : List Rg} {Q : Value → Heap → Prop} {lt : It → It → Bool} {lf : Value}
abbrev pp (m : Nat) : Value := ptr m 0
theorem fpv (l : List Nat) : l.flatMap fp = (l.map pp).flatMap fv := by rw [flat_fv]; exact List.map_eq_flatMap.symm

theorem setOk_succ (o : Swo lt) (hO : OrdC Z lf lt) {tb m : Nat} {iso mn : Int} {ctr : Option Addr} {x : It} (hT0 : (tb, 0, hd0 iso ctr) ∈ Z) (hT4 : (tb, 4, hd4 lf mn m) ∈ Z) (hm3 : 3 ≤ m) (hm1 : m ≤ 1024) (ho : m % 2 = 1) {k : Nat} (ih : SetOk lt h0 Z tb m iso x k) : SetOk lt h0 Z tb m iso x (k + 1) := by
  intro t h E Q pb po lo hb dp hv ht hh hdk hlo fl ha hsz g s H
  by_cases hns : ∀ c, t.pt.2[pos lt t.pt.1 x]? = some c → lget lt t.pt.1 x = none → c.splits lt m x = false
  · have hsp : t.pt.splits lt m x = false := by
      cases e : t.pt.splits lt m x with
      | false => rfl
      | true =>
        obtain ⟨_, e2⟩ := PT.splits_len e
        have e2 : lget lt t.pt.1 x = none := e2
        obtain ⟨c, hc, _⟩ := PT.step o fl ha e2
        rw [PT.splits_kid e2 hc, hns c hc e2] at e
        simp at e
    refine set_noSplit o hO hT0 hT4 hm3 hm1 ho ih t hh hdk hlo fl ha hsz g s hns fun t' ht' h' h1 h2 h3 hh s => ?_
    have := H t' ht' h' (by rw [hsp]; exact h1) h2 h3 hh s
    rw [hsp] at this; exact this
  have hex : ∃ cp, t.pt.2[pos lt t.pt.1 x]? = some cp ∧ lget lt t.pt.1 x = none ∧ cp.splits lt m x = true := by
    apply Classical.byContradiction
    intro hno
    refine hns fun c h1 h2 => ?_
    cases e : c.splits lt m x with
    | false => rfl
    | true => exact absurd ⟨c, h1, h2, e⟩ hno
  clear hns
  obtain ⟨cp, hcp, hn, hcs⟩ := hex
  obtain ⟨c0, hc0, hcm, hac, hg0, _⟩ := PT.step o fl ha hn
  have : c0 = cp := Option.some.inj (hc0.symm.trans hcp)
  subst this
  have hgn := PT.splits_get o (fl.2.2.2 _ hcm) hac hcs
  have hgt : t.pt.get lt x = none := by rw [PT.get_items o fl ha, hg0, hgn]
  have hgc : c0.get lt x = none := by rw [PT.get_items o (fl.2.2.2 _ hcm) hac, hgn]
  obtain ⟨md, hmd, _⟩ := PT.halves o ho (fl.2.2.2 _ hcm) hac hcs
  obtain ⟨d, ts⟩ := t
  obtain ⟨own, n, is', cnt, its, iv, ib, io, isp, kb, kv, krb, kro, ksp⟩ := d
  have w : Own 2 iv its.length ib io (its.flatMap enc) isp := g.wf.1.1
  have wK : Own 1 kv ts.length krb kro ((ts.map GT.id).map fun m => ptr m 0) ksp := g.wf.2.1
  have hkl : ts.length = its.length + 1 := g.wf.2.2.1
  have hidl : (ts.map GT.id).length = ts.length := List.length_map ..
  have hom : own = true := g.mine.1
  have hiso : is' = iso := g.wf.1.2.1 hom
  subst hiso; subst hom
  have hlen : its.length ≤ m := fl.2.1
  have hle : lo ≤ its.length := fl.1
  have hn : lget lt its x = none := hn
  have hcp : (ts.map GT.pt)[pos lt its x]? = some c0 := hcp
  have ha1 : Asc lt its := asc_of_sub ha (PT.its_sub1 (its, ts.map GT.pt))
  rw [← hidl, mfp] at wK
  have hcn : cnt = (PT.items (h := k + 1) (its, ts.map GT.pt)).length := g.cn.1
  have s : St h0 Z ((pb, po, [ptr n 0]) :: (hb, 0, ht) :: (n, 0, [.int .u64 is', .int .i64 cnt, iv, ptr kb 0]) :: (ib, io, its.flatMap enc ++ isp) :: (kb, 0, [kv]) :: (krb, kro, ((ts.map GT.id).map fun m => ptr m 0) ++ ksp) :: (ts.flatMap (GT.all enc) ++ E)) h := s
  rw [mfp] at s
  refine set_head o hO (n := n) (iso := is') (cnt := cnt) (a := some ⟨kb, 0, none⟩) (E := (kb, 0, [kv]) :: (krb, kro, (ts.map GT.id).flatMap fp ++ ksp) :: (ts.flatMap (GT.all enc) ++ E)) hT0 hT4 hh (by omega) ha1 (by omega) (by omega) w (s.perm (by ((apply perm_rg; intro f; simp only [List.set_cons_zero, List.set_cons_succ, List.eraseIdx_cons_zero, List.eraseIdx_cons_succ, List.cons_append, List.nil_append, List.map_append, List.map_cons, List.map_nil, List.sum_append, List.sum_cons, List.sum_nil, List.map_flatMap, Nat.add_zero, Nat.zero_add]; ac_rfl)))) (fun y ht' h' hy hh s => by rw [hn] at hy; cases hy) fun t7 t10 t13 ht h' _ hh s => ?_
  have hp := pos_le (lt := lt) its x
  obtain ⟨c, hc⟩ : ∃ c, ts[pos lt its x]? = some c := ⟨ts[pos lt its x]'(by omega), List.getElem?_eq_getElem (by omega)⟩
  have : c0 = c.pt := by
    rw [List.getElem?_map, hc] at hcp
    exact (Option.some.inj hcp).symm
  subst this
  have hcmem := List.mem_of_getElem? hc
  have hcsz : c.pt.items.length ≤ 4611686018427387903 := by
    have h1 : (inter its ((ts.map GT.pt).map PT.items)).length = _ := inter_length _ _
    have h2 : (inter its ((ts.map GT.pt).map PT.items)).length ≤ 4611686018427387903 := hsz
    have h3 : c.pt.items.length ≤ (((ts.map GT.pt).map PT.items).map List.length).sum := mem_le_sum (by
      rw [List.map_map, List.map_map]; exact List.mem_map.2 ⟨c, hcmem, rfl⟩)
    omega
  have s : St h0 Z ((t13, 0, [ptr n 0]) :: (t10, 0, enc emp) :: (t7, 0, enc x) :: (pb, po, [ptr n 0]) :: (hb, 0, ht) :: (n, 0, [.int .u64 is', .int .i64 cnt, iv, ptr kb 0]) :: (ib, io, its.flatMap enc ++ isp) :: (kb, 0, [kv]) :: (krb, kro, (ts.map GT.id).flatMap fp ++ ksp) :: (ts.flatMap (GT.all enc) ++ E)) h' := s.perm (by ((apply perm_rg; intro f; simp only [List.set_cons_zero, List.set_cons_succ, List.eraseIdx_cons_zero, List.eraseIdx_cons_succ, List.cons_append, List.nil_append, List.map_append, List.map_cons, List.map_nil, List.sum_append, List.sum_cons, List.sum_nil, List.map_flatMap, Nat.add_zero, Nat.zero_add]; ac_rfl)))
  unfold BTreeG_I_nodeSet.j3
  refine St.r_load0 s 0 rfl rfl ?_
  refine node_leaf_ok (a := some ⟨kb, 0, none⟩) (s.get (k := 5) (j := 3) rfl (by simp)) ?_
  refine r_if (fun e => absurd e (by simp)) (fun _ => ?_)
  unfold BTreeG_I_nodeSet.j4
  refine St.r_load0 s 0 rfl rfl ?_
  refine r_nil ?_
  refine r_fld ?_
  refine St.r_load0 s 5 rfl rfl ?_
  refine r_nil ?_
  refine St.r_load0 s 7 rfl rfl ?_
  (refine Own.idx (by assumption) rfl (by first | omega | (simp; done) | (simp; omega)) ?_)
  refine St.r_loadN0 s 2 rfl (by simp) ?_
  refine r_add1 (by omega) ?_
  obtain ⟨E', sk, back⟩ := lend_kidH (r := (hb, 0, ht)) (krb := krb) (kro := kro) (ksp := ksp) (A := (t13, 0, [ptr n 0]) :: (t10, 0, enc emp) :: (t7, 0, enc x) :: (pb, po, [ptr n 0]) :: (n, 0, [.int .u64 is', .int .i64 cnt, iv, ptr kb 0]) :: (ib, io, its.flatMap enc ++ isp) :: (kb, 0, [kv]) :: []) (E := E) (kb := kb) (kv := kv) hc (s.perm (by ((apply perm_rg; intro f; simp only [List.set_cons_zero, List.set_cons_succ, List.eraseIdx_cons_zero, List.eraseIdx_cons_succ, List.cons_append, List.nil_append, List.map_append, List.map_cons, List.map_nil, List.sum_append, List.sum_cons, List.sum_nil, List.map_flatMap, Nat.add_zero, Nat.zero_add]; ac_rfl))))
  refine ih c hh (by omega) (by omega) (fl.2.2.2 _ hcm) hac hcsz (g.kid hcmem) sk fun c' ht h' hc1 hc2 hc3 hh s => ?_
  rw [hcs, hgc]
  rw [hcs] at hc1
  simp only [↓reduceIte] at hc1
  have s := back c' _ h' hc2 s
  have s : St h0 Z ((t13, 0, [ptr n 0]) :: (t10, 0, enc emp) :: (t7, 0, enc x) :: (pb, po, [ptr n 0]) :: (hb, 0, ht) :: (n, 0, [.int .u64 is', .int .i64 cnt, iv, ptr kb 0]) :: (ib, io, its.flatMap enc ++ isp) :: (kb, 0, [kv]) :: (krb, kro, ((ts.set (pos lt its x) c').map GT.id).flatMap fp ++ ksp) :: ((ts.set (pos lt its x) c').flatMap (GT.all enc) ++ E)) h' := s.perm (by ((apply perm_rg; intro f; simp only [List.set_cons_zero, List.set_cons_succ, List.eraseIdx_cons_zero, List.eraseIdx_cons_succ, List.cons_append, List.nil_append, List.map_append, List.map_cons, List.map_nil, List.sum_append, List.sum_cons, List.sum_nil, List.map_flatMap, Nat.add_zero, Nat.zero_add]; ac_rfl)))
  have hi := (List.getElem?_eq_some_iff.1 hc).1
  have hc' : (ts.set (pos lt its x) c')[pos lt its x]? = some c' := List.getElem?_set_self hi
  have ept : (ts.set (pos lt its x) c').map GT.pt = ts.map GT.pt := by
    apply List.ext_getElem?
    intro j
    rw [List.map_set, List.getElem?_set]
    split
    · rename_i e; subst e
      simp only [List.length_map, hi, if_true]
      rw [hc1]; exact hcp.symm
    · rfl
  have g1 : Gd is' (k := k + 1) ((⟨true, n, is', cnt, its, iv, ib, io, isp, kb, kv, krb, kro, ksp⟩ : Nd It), ts.set (pos lt its x) c') :=
    Gd.setKid g hc hc2 hc3 (by show cnt = ((PT.items (h := k + 1) (its, (ts.set (pos lt its x) c').map GT.pt)).length : Int); rw [ept]; exact hcn)
  refine r_ext rfl ?_
  refine r_ext rfl ?_
  refine r_ext rfl ?_
  refine St.r_storeN0 s 1 rfl rfl (by simp) (enc1 emp) ?_; intro h' s
  refine r_if (fun _ => ?_) (fun e => absurd e (by simp))
  refine St.r_load0 s 0 rfl rfl ?_
  refine r_nil ?_
  refine r_fld ?_
  refine St.r_load0 s 5 rfl rfl ?_
  refine Own.lenV (by assumption) ?_
  refine r_nil ?_
  refine r_fld ?_
  refine s.r_lz hT4 5 rfl rfl ?_
  refine r_cmpI ?_
  refine r_if (fun hfull => ?_) (fun hroom => ?_)
  · have hfull : its.length = m := Int.ofNat_inj.1 (by simpa using hfull)
    have hsp : PT.splits lt m (h := k + 1) (its, ts.map GT.pt) x = true := by rw [PT.splits_kid (t := (its, ts.map GT.pt)) hn hcp, hcs]; simpa using hfull
    refine r_nil ?_
    refine r_fld ?_
    refine s.r_lzE hT4 3 (enc emp) rfl (by simp) rfl ?_
    refine St.r_storeN0 s 1 rfl rfl (by simp) (enc1 emp) ?_; intro h' s
    refine St.r_loadN0 s 1 rfl (by simp) ?_
    have := H ((⟨true, n, is', cnt, its, iv, ib, io, isp, kb, kv, krb, kro, ksp⟩ : Nd It), ts.set (pos lt its x) c') ht h' (by
      show (its, (ts.set (pos lt its x) c').map GT.pt) = if PT.splits lt m (h := k + 1) (its, ts.map GT.pt) x = true then _ else _
      rw [hsp, ept]; rfl) rfl g1 hh (by rw [← mfp] at s; exact s.drop 3)
    change Q (.tuple #[old (PT.get lt (h := k + 1) (its, ts.map GT.pt) x), .bool (PT.get lt (h := k + 1) (its, ts.map GT.pt) x).isSome, .bool (PT.splits lt m (h := k + 1) (its, ts.map GT.pt) x)]) h' at this
    have hgt : PT.get lt (h := k + 1) (its, ts.map GT.pt) x = none := hgt
    rw [hsp, hgt] at this
    exact this
  · have hroom : its.length ≠ m := fun e => by rw [e] at hroom; simp at hroom
    have hsp : PT.splits lt m (h := k + 1) (its, ts.map GT.pt) x = false := by rw [PT.splits_kid (t := (its, ts.map GT.pt)) hn hcp]; simp [hroom]
    obtain ⟨q1, q2, q3, q4, q5⟩ := PT.set_split (t := (its, ts.map GT.pt)) o ho fl ha hn hcp hcs hmd hroom
    unfold BTreeG_I_nodeSet.j7
    have wk1 : Own 1 kv ((ts.set (pos lt its x) c').map GT.id).length krb kro (((ts.set (pos lt its x) c').map GT.id).flatMap fp) ksp := by rw [set_ids hc hc2]; exact wK
    refine St.r_load0 s 0 rfl rfl ?_
    refine r_nil ?_
    refine r_fld ?_
    refine St.r_load0 s 5 rfl rfl ?_
    refine r_nil ?_
    refine St.r_load0 s 7 rfl rfl ?_
    refine wk1.idx (n := pos lt its x) rfl (by rw [List.length_map, List.length_set]; omega) ?_
    refine r_loadM1 s 8 rfl hc' ?_
    have hcl : c'.pt.its.length = m := by rw [hc1]; exact (PT.splits_len hcs).1
    have etake : (ts.set (pos lt its x) c').take (pos lt its x) = ts.take (pos lt its x) := List.take_set_of_le (Nat.le_refl _)
    have edrop : (ts.set (pos lt its x) c').drop (pos lt its x + 1) = ts.drop (pos lt its x + 1) := List.drop_set_of_lt (by omega)
    have s : St h0 Z ((t13, 0, [ptr n 0]) :: (t10, 0, enc emp) :: (t7, 0, enc x) :: (pb, po, [ptr n 0]) :: (hb, 0, ht) :: (n, 0, [.int .u64 is', .int .i64 cnt, iv, ptr kb 0]) :: (ib, io, its.flatMap enc ++ isp) :: (kb, 0, [kv]) :: (krb, kro, ((ts.set (pos lt its x) c').map GT.id).flatMap fp ++ ksp) :: ((ts.set (pos lt its x) c').flatMap (GT.all enc) ++ E)) h' := s
    refine nodeSplit_ok c' (m := m) (E := (t13, 0, [ptr n 0]) :: (t10, 0, enc emp) :: (t7, 0, enc x) :: (pb, po, [ptr n 0]) :: (hb, 0, ht) :: (n, 0, [.int .u64 is', .int .i64 cnt, iv, ptr kb 0]) :: (ib, io, its.flatMap enc ++ isp) :: (kb, 0, [kv]) :: (krb, kro, (ts.map GT.id).flatMap fp ++ ksp) :: ((ts.take (pos lt its x)).flatMap (GT.all enc) ++ ((ts.drop (pos lt its x + 1)).flatMap (GT.all enc) ++ E)))
      hT0 hT4 (by omega) (by omega) (by rw [hc1]; exact fl.2.2.2 _ hcm) hcl (by rw [hc1]; omega) hc3 (s.perm ?_) fun l r md' h hmd' hl hr hlid gl gr s => ?_
    · rw [set_ids hc hc2, flat_at3 (GT.all enc) hc', etake, edrop]; ((apply perm_rg; intro f; simp only [List.set_cons_zero, List.set_cons_succ, List.eraseIdx_cons_zero, List.eraseIdx_cons_succ, List.cons_append, List.nil_append, List.map_append, List.map_cons, List.map_nil, List.sum_append, List.sum_cons, List.sum_nil, List.map_flatMap, Nat.add_zero, Nat.zero_add]; ac_rfl))
    have : md' = md := by rw [hc1] at hmd'; exact Option.some.inj (hmd'.symm.trans hmd)
    subst this
    rw [hc1] at hl hr
    have s : St h0 Z ((t13, 0, [ptr n 0]) :: (t10, 0, enc emp) :: (t7, 0, enc x) :: (pb, po, [ptr n 0]) :: (hb, 0, ht) :: (n, 0, [.int .u64 is', .int .i64 cnt, iv, ptr kb 0]) :: (ib, io, its.flatMap enc ++ isp) :: (kb, 0, [kv]) :: (krb, kro, ((ts.map GT.id).map pp).flatMap fv ++ ksp) :: ((ts.take (pos lt its x) ++ l :: r :: ts.drop (pos lt its x + 1)).flatMap (GT.all enc) ++ E)) h :=
      s.perm (by rw [← fpv, List.flatMap_append, List.flatMap_cons, List.flatMap_cons]; ((apply perm_rg; intro f; simp only [List.set_cons_zero, List.set_cons_succ, List.eraseIdx_cons_zero, List.eraseIdx_cons_succ, List.cons_append, List.nil_append, List.map_append, List.map_cons, List.map_nil, List.sum_append, List.sum_cons, List.sum_nil, List.map_flatMap, Nat.add_zero, Nat.zero_add]; ac_rfl)))
    rw [fpv] at wK
    clear wk1
    have hpl : ((ts.map GT.id).map pp).length = ts.length := by rw [List.length_map, List.length_map]
    have elp : (ts.map GT.id).length = ((ts.map GT.id).map pp).length := List.length_map .. |>.symm
    rw [elp] at wK
    generalize hL : (ts.map GT.id).map pp = L at s wK hpl
    refine r_ext rfl ?_
    refine r_ext rfl ?_
    refine s.r_alloc fun t17 h s => ?_
    refine St.r_storeN0 s 0 rfl rfl (by simp) (enc1 _) ?_; intro h s
    refine St.r_load0 s 1 rfl rfl ?_
    refine r_nil ?_
    refine r_fld ?_
    refine St.r_load0 s 6 rfl rfl ?_
    refine St.r_load0 s 1 rfl rfl ?_
    refine r_nil ?_
    refine r_fld ?_
    refine St.r_load0 s 6 rfl rfl ?_
    refine r_nil ?_
    refine St.r_load0 s 8 rfl rfl ?_
    refine St.r_mkSl (sz := 1) (cs := [.pointer none]) s (by ((simp only [fillV, fill1, Value.cells, zeros_succ, zeros_zero, List.size_toArray, List.length_cons, List.length_nil, List.length_append, List.take_succ_cons, List.take_zero, List.take_nil, List.drop_succ_cons, List.drop_zero, List.drop_nil, List.cons_append, List.nil_append, List.append_nil, Nat.reduceAdd, Nat.reduceMul, Nat.reduceLeDiff, Nat.reduceEqDiff, and_self, and_true, true_and, if_true, Nat.le_refl, Nat.zero_add, Nat.add_zero, Nat.zero_mul, reduceIte, if_false] <;> rfl))) rfl fun q h s w1 => ?_
    refine And.intro (by exact St.r_still0 s 2 rfl rfl) ?_
    refine And.intro (by exact St.r_still0 s 7 rfl rfl) ?_
    refine And.intro (by exact St.r_still0 s 2 rfl rfl) ?_
    refine And.intro (by exact St.r_still0 s 7 rfl rfl) ?_
    refine And.intro (by exact St.r_still0 s 9 rfl rfl) ?_
    refine St.r_app s 10 (sz := 1) (n := 1) (new := [.pointer none]) rfl wK rfl (w1.rdl s 0 rfl) (by simp [one1]) (by omega) (by omega) fun kv' krb' kro' ksp' h s wk' => ?_
    rw [snoc_fv] at s wk'
    have wk' : Own 1 kv' (L ++ [Value.pointer none]).length krb' kro' ((L ++ [Value.pointer none]).flatMap fv) ksp' := by rw [List.length_append]; exact wk'
    refine And.intro (by exact St.r_still0 s 2 rfl rfl) ?_
    refine And.intro (by exact St.r_still0 s 7 rfl rfl) ?_
    refine r_nil ?_
    (refine St.r_store0 s 9 rfl (by simp) (Own.one (by assumption)) ?_; intro h s; try simp only [List.set_cons_zero, List.set_cons_succ] at s)
    refine St.r_load0 s 2 rfl rfl ?_
    refine r_nil ?_
    refine r_fld ?_
    refine St.r_load0 s 7 rfl rfl ?_
    refine r_nil ?_
    refine St.r_load0 s 9 rfl rfl ?_
    refine r_add1 (by omega) ?_
    refine wk'.slcLo fvl (i := pos lt its x + 1) rfl (by simp; omega) fun dd wd => ?_
    refine St.r_load0 s 2 rfl rfl ?_
    refine r_nil ?_
    refine r_fld ?_
    refine St.r_load0 s 7 rfl rfl ?_
    refine r_nil ?_
    refine St.r_load0 s 9 rfl rfl ?_
    refine (wk'.rdl s 10 rfl).slcLo fvl (i := pos lt its x) rfl (by simp; omega) fun src rs => ?_
    refine s.r_cpyF fvl 10 (L := L ++ [Value.pointer none]) (M := (L ++ [Value.pointer none]).drop (pos lt its x)) rfl wd (by simp; omega) rs rfl (fun y hy => ?_) fun h s => ?_
    · have hy := List.mem_of_mem_drop hy
      intro z hz
      rw [List.mem_singleton.1 hz]
      rcases List.mem_append.1 hy with e | e
      · rw [← hL] at e; obtain ⟨a, _, rfl⟩ := List.mem_map.1 e; rfl
      · rw [List.mem_singleton.1 e]; rfl
    refine St.r_load0 s 2 rfl rfl ?_
    refine r_nil ?_
    refine r_fld ?_
    refine St.r_load0 s 7 rfl rfl ?_
    refine r_nil ?_
    refine St.r_load0 s 9 rfl rfl ?_
    refine r_add1 (by omega) ?_
    refine wk'.idx (n := pos lt its x + 1) rfl (by simp; omega) ?_
    refine s.r_storeV (v := ptr r.id 0) 10 rfl (by simp; omega) rfl fun h s => ?_
    rw [List.set_set, ins_steps2 L (.pointer none) (ptr r.id 0) (by omega)] at s
    refine St.r_load0 s 2 rfl rfl ?_
    refine St.r_load0 s 2 rfl rfl ?_
    refine r_nil ?_
    refine r_fld ?_
    refine St.r_load0 s 7 rfl rfl ?_
    refine r_nil ?_
    refine r_fld ?_
    refine s.r_lzE hT4 3 (enc emp) rfl (by simp) rfl ?_
    refine St.r_mkSl (sz := 2) (cs := enc emp) s (by ((simp only [fillV, fill1, Value.cells, zeros_succ, zeros_zero, List.size_toArray, List.length_cons, List.length_nil, List.length_append, List.take_succ_cons, List.take_zero, List.take_nil, List.drop_succ_cons, List.drop_zero, List.drop_nil, List.cons_append, List.nil_append, List.append_nil, Nat.reduceAdd, Nat.reduceMul, Nat.reduceLeDiff, Nat.reduceEqDiff, and_self, and_true, true_and, if_true, Nat.le_refl, Nat.zero_add, Nat.add_zero, Nat.zero_mul, reduceIte, if_false] <;> rfl))) rfl fun qq h s w2 => ?_
    refine And.intro (by exact St.r_still0 s 3 rfl rfl) ?_
    refine And.intro (by exact St.r_still0 s 3 rfl rfl) ?_
    refine And.intro (by exact St.r_still0 s 8 rfl rfl) ?_
    refine St.r_app s 9 (sz := 2) (n := 1) (new := enc emp) rfl w rfl (w2.rdl s 0 rfl) (enc1 _) (by omega) (by omega) fun iv' ib' io' isp' h s w' => ?_
    rw [snoc_enc] at s w'
    have w' : Own 2 iv' (its ++ [emp]).length ib' io' ((its ++ [emp]).flatMap enc) isp' := by rw [List.length_append]; exact w'
    refine And.intro (by exact St.r_still0 s 3 rfl rfl) ?_
    refine r_nil ?_
    refine r_fld ?_
    (refine St.r_store0 s 8 rfl (by simp) (Own.one (by assumption)) ?_; intro h s; try simp only [List.set_cons_zero, List.set_cons_succ] at s)
    refine St.r_load0 s 3 rfl rfl ?_
    refine r_nil ?_
    refine r_fld ?_
    refine St.r_load0 s 8 rfl rfl ?_
    refine r_add1 (by omega) ?_
    refine w'.slcLo encl (i := pos lt its x + 1) rfl (by simp; omega) fun dd2 wd2 => ?_
    refine St.r_load0 s 3 rfl rfl ?_
    refine r_nil ?_
    refine r_fld ?_
    refine St.r_load0 s 8 rfl rfl ?_
    refine (w'.rdl s 9 rfl).slcLo encl (i := pos lt its x) rfl (by simp; omega) fun src2 rs2 => ?_
    refine s.r_cpyF encl 9 (L := its ++ [emp]) (M := (its ++ [emp]).drop (pos lt its x)) rfl wd2 (by simp; omega) rs2 rfl (fun y _ => enc1 y) fun h s => ?_
    refine St.r_load0 s 3 rfl rfl ?_
    refine r_nil ?_
    refine r_fld ?_
    refine St.r_load0 s 8 rfl rfl ?_
    refine St.r_loadN0 s 2 rfl (by simp) ?_
    refine w'.idx (n := pos lt its x) rfl (by simp; omega) ?_
    refine s.r_storeF (x := md') encl 9 rfl (by simp; omega) (enc1 _) fun h s => ?_
    rw [List.set_set, ins_steps its emp md' hp] at s
    refine St.r_loadN0 s 5 rfl (by simp) ?_
    have hil := ins_length (x := md') hp
    have e8 : ins L (pos lt its x + 1) (ptr r.id 0) = ((ts.take (pos lt its x) ++ l :: r :: ts.drop (pos lt its x + 1)).map GT.id).map pp := by
      have e9 : ts.take (pos lt its x + 1) = ts.take (pos lt its x) ++ [c] := by rw [List.take_add_one, hc]; rfl
      unfold ins
      rw [← hL, ← List.map_take, ← List.map_take, ← List.map_drop, ← List.map_drop, e9]
      simp only [List.map_append, List.map_cons, List.map_nil, List.append_assoc, List.cons_append, List.nil_append, hlid, hc2]
    rw [e8, ← fpv] at s
    have hl2 : ((ts.take (pos lt its x) ++ l :: r :: ts.drop (pos lt its x + 1)).map GT.id).length = (L ++ [Value.pointer none]).length := by simp; omega
    have wk2 : Own 1 kv' (ts.take (pos lt its x) ++ l :: r :: ts.drop (pos lt its x + 1)).length krb' kro' (((ts.take (pos lt its x) ++ l :: r :: ts.drop (pos lt its x + 1)).map GT.id).flatMap fp) ksp' := by
      rw [← hl2, List.length_map] at wk'
      exact wk'.cong (by rw [flat_len fpl, flat_len fvl, hl2])
    have w2' : Own 2 iv' (ins its (pos lt its x) md').length ib' io' ((ins its (pos lt its x) md').flatMap enc) isp' := by
      rw [show (ins its (pos lt its x) md').length = (its ++ [emp]).length by rw [hil]; simp]
      exact w'.cong (by rw [flat_len encl, flat_len encl, hil]; simp)
    have ept2 : (ts.take (pos lt its x) ++ l :: r :: ts.drop (pos lt its x + 1)).map GT.pt = (ts.map GT.pt).take (pos lt its x) ++ c.pt.lo (m / 2) :: c.pt.hi (m / 2) :: (ts.map GT.pt).drop (pos lt its x + 1) := by
      rw [List.map_append, List.map_cons, List.map_cons, List.map_take, List.map_drop, hl, hr]
    have g2 : Gd is' (k := k + 1) ((⟨true, n, is', cnt, ins its (pos lt its x) md', iv', ib', io', isp', kb, kv', krb', kro', ksp'⟩ : Nd It), ts.take (pos lt its x) ++ l :: r :: ts.drop (pos lt its x + 1)) := by
      refine Gd.inner w2' rfl rfl wk2 (by show _ = (ins its (pos lt its x) md').length + 1; rw [hil]; simp; omega) (fun q hq => ?_) ?_
      · rcases List.mem_append.1 hq with e | e
        · exact g.kid (List.mem_of_mem_take e)
        · rcases List.mem_cons.1 e with e | e
          · rw [e]; exact gl
          · rcases List.mem_cons.1 e with e | e
            · rw [e]; exact gr
            · exact g.kid (List.mem_of_mem_drop e)
      · show cnt = ((PT.items (h := k + 1) (ins its (pos lt its x) md', (ts.take (pos lt its x) ++ l :: r :: ts.drop (pos lt its x + 1)).map GT.pt)).length : Int)
        rw [ept2, q1]; exact hcn
    have hpt2 : GT.pt (h := k + 1) ((⟨true, n, is', cnt, ins its (pos lt its x) md', iv', ib', io', isp', kb, kv', krb', kro', ksp'⟩ : Nd It), ts.take (pos lt its x) ++ l :: r :: ts.drop (pos lt its x + 1)) = (ins its (pos lt its x) md', (ts.map GT.pt).take (pos lt its x) ++ c.pt.lo (m / 2) :: c.pt.hi (m / 2) :: (ts.map GT.pt).drop (pos lt its x + 1)) := by
      show (_, _) = _; rw [ept2]
    have s : St h0 Z ((t13, 0, [ptr n 0]) :: (hb, 0, ht) :: ((GT.all enc (h := k + 1) ((⟨true, n, is', cnt, ins its (pos lt its x) md', iv', ib', io', isp', kb, kv', krb', kro', ksp'⟩ : Nd It), ts.take (pos lt its x) ++ l :: r :: ts.drop (pos lt its x + 1))) ++ ((pb, po, [ptr n 0]) :: (t10, 0, enc emp) :: E))) h := by
      have s1 : St h0 Z ((t13, 0, [ptr n 0]) :: (hb, 0, ht) :: (n, 0, [.int .u64 is', .int .i64 cnt, iv', ptr kb 0]) :: (ib', io', (ins its (pos lt its x) md').flatMap enc ++ isp') :: (kb, 0, [kv']) :: (krb', kro', ((ts.take (pos lt its x) ++ l :: r :: ts.drop (pos lt its x + 1)).map GT.id).flatMap fp ++ ksp') :: ((ts.take (pos lt its x) ++ l :: r :: ts.drop (pos lt its x + 1)).flatMap (GT.all enc) ++ ((pb, po, [ptr n 0]) :: (t10, 0, enc emp) :: E))) h :=
        (s.perm (E' := (qq, 0, _) :: (q, 0, _) :: (t17, 0, _) :: (t7, 0, _) :: _) (by ((apply perm_rg; intro f; simp only [List.set_cons_zero, List.set_cons_succ, List.eraseIdx_cons_zero, List.eraseIdx_cons_succ, List.cons_append, List.nil_append, List.map_append, List.map_cons, List.map_nil, List.sum_append, List.sum_cons, List.sum_nil, List.map_flatMap, Nat.add_zero, Nat.zero_add]; ac_rfl)))).drop 4
      rw [← mfp] at s1
      exact s1
    refine set_noSplit o hO hT0 hT4 hm3 hm1 ho ih _ hh hdk hlo (by rw [hpt2]; exact q2) (by rw [hpt2, q1]; exact ha) (by rw [hpt2, q1]; exact hsz) g2 s (fun c2 h1 h2 => ?_) fun t' ht h' h1 h2 h3 hh s => ?_
    · rw [hpt2] at h1
      obtain ⟨c3, h3, h4⟩ := q4
      have : c2 = c3 := Option.some.inj (h1.symm.trans h3)
      rw [this]; exact h4
    · have hgt2 : PT.get lt (GT.pt (h := k + 1) ((⟨true, n, is', cnt, ins its (pos lt its x) md', iv', ib', io', isp', kb, kv', krb', kro', ksp'⟩ : Nd It), ts.take (pos lt its x) ++ l :: r :: ts.drop (pos lt its x + 1))) x = none := by
        rw [hpt2, PT.get_items o q2 (by rw [q1]; exact ha), q1, ← PT.get_items (h := k + 1) (t := (its, ts.map GT.pt)) o fl ha]; exact hgt
      rw [hgt2]
      have s : St h0 Z ((t10, 0, enc emp) :: (pb, po, [ptr n 0]) :: (hb, 0, ht) :: (t'.all enc ++ E)) h' := St.drop (E := (t13, 0, [ptr n 0]) :: (t10, 0, enc emp) :: (pb, po, [ptr n 0]) :: (hb, 0, ht) :: (t'.all enc ++ E)) (s.perm (by ((apply perm_rg; intro f; simp only [List.set_cons_zero, List.set_cons_succ, List.eraseIdx_cons_zero, List.eraseIdx_cons_succ, List.cons_append, List.nil_append, List.map_append, List.map_cons, List.map_nil, List.sum_append, List.sum_cons, List.sum_nil, List.map_flatMap, Nat.add_zero, Nat.zero_add]; ac_rfl)))) 1
      refine r_ext rfl ?_
      refine r_ext rfl ?_
      refine r_ext rfl ?_
      refine St.r_storeN0 s 0 rfl rfl (by simp) (enc1 emp) ?_; intro h' s
      refine St.r_loadN0 s 0 rfl (by simp) ?_
      have := H t' ht h' (by
        show _ = if PT.splits lt m (h := k + 1) (its, ts.map GT.pt) x = true then _ else _
        rw [hsp, h1, hpt2, q5]; rfl) h2 h3 hh (s.drop 1)
      change Q (.tuple #[old (PT.get lt (h := k + 1) (its, ts.map GT.pt) x), .bool (PT.get lt (h := k + 1) (its, ts.map GT.pt) x).isSome, .bool (PT.splits lt m (h := k + 1) (its, ts.map GT.pt) x)]) h' at this
      have hgt : PT.get lt (h := k + 1) (its, ts.map GT.pt) x = none := hgt
      rw [hsp, hgt] at this
      exact this

theorem setOk_all (o : Swo lt) (hO : OrdC Z lf lt) {tb m : Nat} {iso mn : Int} {ctr : Option Addr} {x : It} (hT0 : (tb, 0, hd0 iso ctr) ∈ Z) (hT4 : (tb, 4, hd4 lf mn m) ∈ Z) (hm3 : 3 ≤ m) (hm1 : m ≤ 1024) (ho : m % 2 = 1) : ∀ k, SetOk lt h0 Z tb m iso x k
  | 0 => setOk_zero o hO hT0 hT4 hm1
  | k + 1 => setOk_succ o hO hT0 hT4 hm3 hm1 ho (setOk_all o hO hT0 hT4 hm3 hm1 ho k)
end Go.Proofs.YtgnnidefbeoibaaGreat.Gi
end
section
namespace Go.Proofs.YtgnnidefbeoibaaGreat.Gi
open Go.Hp Go.Proofs.YtgnnidefbeoibaaGreat
set_option linter.unusedVariables false
set_option linter.unusedSimpArgs false
variable {h0 h : Heap} {Z E : List Rg} {Q : Value → Heap → Prop} {lt : It → It → Bool} {lf : Value}

/-- A tree's root: none, or a tree. -/
abbrev Rt := Option ((k : Nat) × GT It k)
def rA : Rt → Option Addr
  | none => none
  | some t => some ⟨t.2.id, 0, none⟩
def rAll : Rt → List Rg
  | none => []
  | some t => t.2.all enc
def rPt : Rt → MT It
  | none => none
  | some t => some ⟨t.1, t.2.pt⟩
def rGd (iso : Int) : Rt → Prop
  | none => True
  | some t => Gd iso t.2
theorem PT.height_le {m : Nat} (hm : 3 ≤ m) : ∀ {k lo : Nat} {t : PT It k}, t.Fl m lo → 1 ≤ lo → k < t.items.length
  | 0, lo, t, f, hl => by have f : lo ≤ List.length (α := It) t := f.1; show 0 < List.length (α := It) t; omega
  | k + 1, lo, t, f, hl => by
    have h1 := f.1
    have h2 := f.2.2.1
    obtain ⟨c, r, e⟩ := head_of (l := t.2) (by omega)
    have hc := PT.height_le hm (f.2.2.2 c (by rw [e]; simp)) (by omega)
    have h3 : (inter t.1 (t.2.map PT.items)).length = _ := inter_length _ _
    show k + 1 < (inter t.1 (t.2.map PT.items)).length
    rw [h3, e]
    simp only [List.map_cons, List.sum_cons]
    omega
theorem setHint_noSplit (o : Swo lt) (hO : OrdC Z lf lt) {tb m hb : Nat} {iso mn cnt : Int} {ctr : Option Addr} {x : It} {hv : Value} {hc : List Value} (hT0 : (tb, 0, hd0 iso ctr) ∈ Z) (hT4 : (tb, 4, hd4 lf mn m) ∈ Z) (hm3 : 3 ≤ m) (hm1 : m ≤ 1024) (ho : m % 2 = 1) {k : Nat} (t : GT It k)
    (hh : Hn hv hb hc) (fl : t.pt.Fl m 1) (ha : Asc lt t.pt.items) (hsz : t.pt.items.length ≤ 4611686018427387903) (g : Gd iso t) (hcnt : cnt = t.pt.items.length) (hsp : t.pt.splits lt m x = false)
    (s : St h0 Z ((tb, 2, [ptr t.id 0]) :: (tb, 3, [.int .i64 cnt]) :: (hb, 0, hc) :: (t.all enc ++ E)) h)
    (H : ∀ (t' : GT It k) hc' h', t'.pt = t.pt.set lt m x → Gd iso t' → Hn hv hb hc' → St h0 Z ((tb, 2, [ptr t'.id 0]) :: (tb, 3, [.int .i64 t'.pt.items.length]) :: (hb, 0, hc') :: (t'.all enc ++ E)) h' → Q (.tuple #[old (lget lt t.pt.items x), .bool (lget lt t.pt.items x).isSome]) h') :
    BTreeG_I_setHint.call #[ptr tb 0, av x, hv] h Q := by
  have hset := (PT.set_items o ho fl ha hsp).1
  have hgi := PT.get_items o fl ha (x := x)
  have hkl := PT.height_le hm3 fl (Nat.le_refl _)
  refine BTreeG_I_setHint.body _ _ _ _ _ ?_
  unfold BTreeG_I_setHint.sh
  refine St.r_box (cs := enc x) s fun t4 h s => ?_
  refine s.r_alloc fun t6 h s => ?_
  refine r_nil ?_
  refine r_fld ?_
  refine s.r_load1 2 (o := 2) (j := 0) rfl rfl ?_
  refine r_eqNilP ?_
  refine r_if (fun e => absurd e (by simp)) (fun _ => ?_)
  unfold BTreeG_I_setHint.j1
  refine r_nil ?_
  refine r_fld ?_
  refine St.r_loadN0 s 1 rfl (by simp) ?_
  refine setOk_all o hO hT0 hT4 hm3 hm1 ho k t (E := (t6, 0, enc emp) :: (t4, 0, enc x) :: (tb, 3, [.int .i64 cnt]) :: E) (pb := tb) (po := 2) (dp := 0) hh (by omega) (Nat.le_refl _) fl ha hsz g (s.perm (by ((apply perm_rg; intro f; simp only [List.set_cons_zero, List.set_cons_succ, List.eraseIdx_cons_zero, List.eraseIdx_cons_succ, List.cons_append, List.nil_append, List.map_append, List.map_cons, List.map_nil, List.sum_append, List.sum_cons, List.sum_nil, List.map_flatMap, Nat.add_zero, Nat.zero_add]; ac_rfl)))) fun t' hc' h' h1 h2 h3 hh s => ?_
  rw [hsp] at h1 ⊢
  simp only [Bool.false_eq_true, ↓reduceIte] at h1
  rw [hgi]
  have s : St h0 Z ((t6, 0, enc emp) :: (t4, 0, enc x) :: (tb, 3, [.int .i64 cnt]) :: (tb, 2, [ptr t.id 0]) :: (hb, 0, hc') :: (t'.all enc ++ E)) h' := s.perm (by ((apply perm_rg; intro f; simp only [List.set_cons_zero, List.set_cons_succ, List.eraseIdx_cons_zero, List.eraseIdx_cons_succ, List.cons_append, List.nil_append, List.map_append, List.map_cons, List.map_nil, List.sum_append, List.sum_cons, List.sum_nil, List.map_flatMap, Nat.add_zero, Nat.zero_add]; ac_rfl)))
  refine r_ext rfl ?_
  refine r_ext rfl ?_
  refine r_ext rfl ?_
  refine St.r_storeN0 s 0 rfl rfl (by simp) (enc1 ((lget lt t.pt.items x).getD emp)) ?_; intro h s
  refine r_if (fun e => absurd e (by simp)) (fun _ => ?_)
  unfold BTreeG_I_setHint.j2
  have hl : t'.pt.items.length = t.pt.items.length + if (lget lt t.pt.items x).isSome then 0 else 1 := by rw [h1, hset, lput_length]
  refine r_if (fun hr => ?_) (fun hr => ?_)
  · refine St.r_loadN0 s 0 rfl (by simp) ?_
    refine St.r_storeN0 s 0 rfl rfl (by simp) (enc1 ((lget lt t.pt.items x).getD emp)) ?_; intro h s
    refine St.r_loadN0 s 0 rfl (by simp) ?_
    rw [hr] at hl
    have e : (t'.pt.items.length : Int) = cnt := by rw [hl, hcnt]; simp
    have := H t' hc' h h1 h3 hh (by
      rw [h2, e]
      have s : St h0 Z ((tb, 3, [.int .i64 cnt]) :: (tb, 2, [ptr t.id 0]) :: (hb, 0, hc') :: (t'.all enc ++ E)) h := s.drop 2
      exact s.perm (List.Perm.swap _ _ _))
    rw [hr] at this
    exact this
  · rw [hr] at hl
    have hn : lget lt t.pt.items x = none := by cases e : lget lt t.pt.items x with
      | none => rfl
      | some y => rw [e] at hr; cases hr
    unfold BTreeG_I_setHint.j3
    refine r_nil ?_
    refine r_fld ?_
    refine s.r_load1 2 (o := 3) (j := 0) rfl rfl ?_
    refine r_add (z := cnt + 1) (by rw [i64w (by omega) (by omega)]) ?_
    refine r_nil ?_
    refine r_fld ?_
    refine St.r_store1 s 2 (o := 3) (j := 0) rfl (by simp) rfl ?_; intro h s
    refine r_nil ?_
    refine r_fld ?_
    refine s.r_lzE hT4 3 (enc emp) rfl (by simp) rfl ?_
    refine St.r_storeN0 s 0 rfl rfl (by simp) (enc1 emp) ?_; intro h s
    refine St.r_loadN0 s 0 rfl (by simp) ?_
    have e : (t'.pt.items.length : Int) = cnt + 1 := by rw [hl, hcnt]; simp
    have := H t' hc' h h1 h3 hh (by
      rw [h2, e]
      have s : St h0 Z ((tb, 3, [.int .i64 (cnt + 1)]) :: (tb, 2, [ptr t.id 0]) :: (hb, 0, hc') :: (t'.all enc ++ E)) h := s.drop 2
      exact s.perm (List.Perm.swap _ _ _))
    rw [hn] at this
    exact this

/-- What follows the items of a new root. -/
def tail1 (s0 s2 s4 s6 : Value) (h : Heap) (Q : Value → Heap → Prop) : Prop :=
  nilck s0 fun t113 => fld 2 t113 fun t114 => load1 t114 h fun t115 =>
    node_I_updateCount.call #[t115] h fun t116 h =>
    loadN 2 s4 h fun t118 =>
    BTreeG_I_setHint.call #[s0, t118, s2] h fun t120 h =>
    extr 0 t120 fun t121 =>
    extr 1 t120 fun t122 =>
    storeN 2 s6 t121 h fun h =>
    loadN 2 s6 h fun r6 =>
    Q (.tuple #[r6, t122]) h
/-- What follows the children of a new root. -/
def tail2 (s0 s2 s4 s6 t11 : Value) (h : Heap) (Q : Value → Heap → Prop) : Prop :=
  nilck s0 fun t103 => fld 2 t103 fun t104 => load1 t104 h fun t105 =>
    loadN 2 t11 h fun t107 =>
    (mkSl (if 0 * 2 = 0 then [] else zeros [(.int .i64 0), (.int .i64 0)] 0) 0 [] 45 h fun t106 h =>
    still1 t104 t105 h ∧ stillN 2 t11 t107 h ∧ mkSl (if 1 * 2 = 0 then [] else zeros [(.int .i64 0), (.int .i64 0)] 1) 1 [(0 * 2, 2, t107)] 45 h fun t108 h =>
    still1 t104 t105 h ∧ app 45 2 16 [(.int .i64 0), (.int .i64 0)] t106 t108 h fun t109 h =>
    still1 t104 t105 h ∧ nilck t105 fun t110 => fld 2 t110 fun t111 => store1 t111 t109 h fun h => tail1 s0 s2 s4 s6 h Q) ∧
    (mkSl (if 1 * 2 = 0 then [] else zeros [(.int .i64 0), (.int .i64 0)] 1) 1 [(0 * 2, 2, t107)] 45 h fun t108 h =>
    still1 t104 t105 h ∧ mkSl (if 0 * 2 = 0 then [] else zeros [(.int .i64 0), (.int .i64 0)] 0) 0 [] 45 h fun t106 h =>
    still1 t104 t105 h ∧ app 45 2 16 [(.int .i64 0), (.int .i64 0)] t106 t108 h fun t109 h =>
    still1 t104 t105 h ∧ nilck t105 fun t110 => fld 2 t110 fun t111 => store1 t111 t109 h fun h => tail1 s0 s2 s4 s6 h Q)

theorem setHint_cut (o : Swo lt) (hO : OrdC Z lf lt) {tb m hb : Nat} {iso mn cnt : Int} {ctr : Option Addr} {x : It} {hv : Value} {hc : List Value} (hT0 : (tb, 0, hd0 iso ctr) ∈ Z) (hT4 : (tb, 4, hd4 lf mn m) ∈ Z) (hm3 : 3 ≤ m) (hm1 : m ≤ 1024) (ho : m % 2 = 1) {k : Nat} (t : GT It k)
    (hh : Hn hv hb hc) (fl : t.pt.Fl m 1) (ha : Asc lt t.pt.items) (hsz : t.pt.items.length ≤ 4611686018427387903) (g : Gd iso t) (hcnt : cnt = t.pt.items.length)
    (s : St h0 Z ((tb, 2, [ptr t.id 0]) :: (tb, 3, [.int .i64 cnt]) :: (hb, 0, hc) :: (t.all enc ++ E)) h)
    (H : ∀ (g' : (j : Nat) × GT It j) hc' h', rPt (some g') = MT.set lt m (some ⟨k, t.pt⟩) x → Gd iso g'.2 → Hn hv hb hc' → St h0 Z ((tb, 2, [ptr g'.2.id 0]) :: (tb, 3, [.int .i64 g'.2.pt.items.length]) :: (hb, 0, hc') :: (g'.2.all enc ++ E)) h' → Q (.tuple #[old (lget lt t.pt.items x), .bool (lget lt t.pt.items x).isSome]) h') :
    BTreeG_I_setHint.call #[ptr tb 0, av x, hv] h Q := by
  have hi : ∀ {E h}, St h0 Z E h → cl h tb 0 = some (.int .u64 iso) := fun s => by have := s.getZ hT0 (j := 0) (by simp); simpa using this
  have hkl := PT.height_le hm3 fl (Nat.le_refl _)
  cases hsp : t.pt.splits lt m x with
  | false =>
    refine setHint_noSplit o hO hT0 hT4 hm3 hm1 ho t hh fl ha hsz g hcnt hsp s fun t' hc' h' h1 h3 hh s => H ⟨k, t'⟩ hc' h' ?_ h3 hh s
    show some (⟨k, t'.pt⟩ : (j : Nat) × PT It j) = _
    unfold MT.set
    simp only [hsp, Bool.false_eq_true, ↓reduceIte, h1]
  | true =>
    obtain ⟨md, hmd, _, fll', fh, _, _, _, _, _⟩ := PT.halves o ho fl ha hsp
    obtain ⟨g1, g2, g3, g4⟩ := PT.grow_ok o ho hm3 fl ha hsp
    have hgn : lget lt t.pt.items x = none := PT.splits_get o fl ha hsp
    have egrow : t.pt.grow m = (([md], [t.pt.lo (m / 2), t.pt.hi (m / 2)]) : List It × List (PT It k)) := by unfold PT.grow; rw [hmd]; rfl
    refine BTreeG_I_setHint.body _ _ _ _ _ ?_
    unfold BTreeG_I_setHint.sh
    refine St.r_box (cs := enc x) s fun t4 h s => ?_
    refine s.r_alloc fun t6 h s => ?_
    refine r_nil ?_
    refine r_fld ?_
    refine s.r_load1 2 (o := 2) (j := 0) rfl rfl ?_
    refine r_eqNilP ?_
    refine r_if (fun e => absurd e (by simp)) (fun _ => ?_)
    unfold BTreeG_I_setHint.j1
    refine r_nil ?_
    refine r_fld ?_
    refine St.r_loadN0 s 1 rfl (by simp) ?_
    refine setOk_all o hO hT0 hT4 hm3 hm1 ho k t (E := (t6, 0, enc emp) :: (t4, 0, enc x) :: (tb, 3, [.int .i64 cnt]) :: E) (pb := tb) (po := 2) (dp := 0) hh (by omega) (Nat.le_refl _) fl ha hsz g (s.perm (by ((apply perm_rg; intro f; simp only [List.set_cons_zero, List.set_cons_succ, List.eraseIdx_cons_zero, List.eraseIdx_cons_succ, List.cons_append, List.nil_append, List.map_append, List.map_cons, List.map_nil, List.sum_append, List.sum_cons, List.sum_nil, List.map_flatMap, Nat.add_zero, Nat.zero_add]; ac_rfl)))) fun t' hc h' h1 h2 h3 hh s => ?_
    rw [hsp] at h1 ⊢
    simp only [↓reduceIte] at h1
    have hgo : t.pt.get lt x = none := by rw [PT.get_items o fl ha, hgn]
    rw [hgo]
    have s : St h0 Z ((t6, 0, enc emp) :: (t4, 0, enc x) :: (tb, 3, [.int .i64 cnt]) :: (tb, 2, [ptr t.id 0]) :: (hb, 0, hc) :: (t'.all enc ++ E)) h' := s.perm (by ((apply perm_rg; intro f; simp only [List.set_cons_zero, List.set_cons_succ, List.eraseIdx_cons_zero, List.eraseIdx_cons_succ, List.cons_append, List.nil_append, List.map_append, List.map_cons, List.map_nil, List.sum_append, List.sum_cons, List.sum_nil, List.map_flatMap, Nat.add_zero, Nat.zero_add]; ac_rfl)))
    refine r_ext rfl ?_
    refine r_ext rfl ?_
    refine r_ext rfl ?_
    refine St.r_storeN0 s 0 rfl rfl (by simp) (enc1 emp) ?_; intro h s
    refine r_if (fun _ => ?_) (fun e => absurd e (by simp))
    refine r_nil ?_
    refine r_fld ?_
    obtain ⟨a1, a2, a3, htop⟩ := GT.topA (t := t')
    have hiso2 : cl h t.id 0 = some (.int .u64 iso) := by
      have hw := g.wf
      rw [← h2]
      have : cl h t'.id 0 = some (.int .u64 t'.nd.iso) := by
        have hat : t'.At enc 2 h := GT.At.of h3.wf fun r hr => s.ok (List.mem_append.2 (.inl (by
          refine List.mem_cons_of_mem _ (List.mem_cons_of_mem _ (List.mem_cons_of_mem _ (List.mem_cons_of_mem _ (List.mem_cons_of_mem _ (List.mem_append.2 (.inl hr))))))
          )))
        exact hat.nd.iso
      rw [this]
      have : t'.nd.iso = iso := by
        cases k with
        | zero => exact h3.wf.2.1 h3.mine
        | succ k => exact h3.wf.1.2.1 h3.mine.1
      rw [this]
    refine isoLoad_ok (n := t.id) (iso := iso) (hi s) (by have := s.get (k := 3) (j := 0) rfl (by simp); simpa using this) (fun _ => hiso2) ?_
    rw [← h2]
    refine nodeSplit_ok t' (m := m) (E := (tb, 2, [ptr t.id 0]) :: (t6, 0, enc emp) :: (t4, 0, enc x) :: (tb, 3, [.int .i64 cnt]) :: (hb, 0, hc) :: E) hT0 hT4 (by omega) (by omega) (by rw [h1]; exact fl) (by rw [h1]; exact (PT.splits_len hsp).1) (by rw [h1]; omega) h3 (s.perm (by ((apply perm_rg; intro f; simp only [List.set_cons_zero, List.set_cons_succ, List.eraseIdx_cons_zero, List.eraseIdx_cons_succ, List.cons_append, List.nil_append, List.map_append, List.map_cons, List.map_nil, List.sum_append, List.sum_cons, List.sum_nil, List.map_flatMap, Nat.add_zero, Nat.zero_add]; ac_rfl)))) fun l r md' h hmd' hl hr hlid gl gr s => ?_
    have : md' = md := by rw [h1] at hmd'; exact Option.some.inj (hmd'.symm.trans hmd)
    subst this
    rw [h1] at hl hr
    have s : St h0 Z ((tb, 2, [ptr t.id 0]) :: (t6, 0, enc emp) :: (t4, 0, enc x) :: (tb, 3, [.int .i64 cnt]) :: (hb, 0, hc) :: (l.all enc ++ (r.all enc ++ E))) h := s.perm (by ((apply perm_rg; intro f; simp only [List.set_cons_zero, List.set_cons_succ, List.eraseIdx_cons_zero, List.eraseIdx_cons_succ, List.cons_append, List.nil_append, List.map_append, List.map_cons, List.map_nil, List.sum_append, List.sum_cons, List.sum_nil, List.map_flatMap, Nat.add_zero, Nat.zero_add]; ac_rfl)))
    refine r_ext rfl ?_
    refine r_ext rfl ?_
    refine s.r_alloc fun t14 h s => ?_
    refine St.r_storeN0 s 0 rfl rfl (by simp) (enc1 _) ?_; intro h s
    refine newNode_inner (hi s) fun n' kb' h s1 => ?_
    have s := s.join s1
    have s : St h0 Z ((n', 0, [.int .u64 iso, .int .i64 0, .slice none 0 0, ptr kb' 0]) :: (kb', 0, [.slice none 0 0]) :: (t14, 0, enc md') :: (tb, 2, [ptr t.id 0]) :: (t6, 0, enc emp) :: (t4, 0, enc x) :: (tb, 3, [.int .i64 cnt]) :: (hb, 0, hc) :: (l.all enc ++ (r.all enc ++ E))) h := s
    refine r_nil ?_
    refine r_fld ?_
    refine St.r_store1 s 3 (o := 2) (j := 0) rfl (by simp) rfl ?_; intro h s
    refine r_nil ?_
    refine r_fld ?_
    refine s.r_load1 3 (o := 2) (j := 0) rfl rfl ?_
    refine r_nil ?_
    refine r_fld ?_
    refine St.r_load0 s 0 rfl rfl ?_
    refine r_nil ?_
    refine r_fld ?_
    refine s.r_lz hT4 5 rfl rfl ?_
    refine r_add (z := ((m + 1 : Nat) : Int)) (by rw [i64w (by omega) (by omega)]; omega) ?_
    refine s.r_mks (n := 0) rfl (by omega) (by omega) (by omega) fun v b h s w0 => ?_
    refine ⟨s.r_still1 4 (o := 2) (j := 0) rfl rfl, by exact St.r_still0 s 1 rfl rfl, ?_⟩
    refine r_nil ?_
    refine St.r_store0 s 2 rfl (by simp) w0.one ?_; intro h s
    refine r_nil ?_
    refine r_fld ?_
    refine s.r_load1 4 (o := 2) (j := 0) rfl rfl ?_
    refine r_nil ?_
    refine r_fld ?_
    refine St.r_load0 s 1 rfl rfl ?_
    have s : St h0 Z ((n', 0, [.int .u64 iso, .int .i64 0, .slice none 0 0, ptr kb' 0]) :: (kb', 0, [v]) :: (t14, 0, enc md') :: (tb, 2, [ptr n' 0]) :: (t6, 0, enc emp) :: (t4, 0, enc x) :: (tb, 3, [.int .i64 cnt]) :: (hb, 0, hc) :: (l.all enc ++ (r.all enc ++ E))) h := s.drop 1
    -- what follows the items
    have fin : ∀ {iv kv : Value} {ib io rb ro : Nat} {isp ksp : List Value} {h : Heap}, Own 2 iv 1 ib io (enc md') isp → Own 1 kv 2 rb ro (fp l.id ++ fp r.id) ksp →
        St h0 Z ((n', 0, [.int .u64 iso, .int .i64 0, iv, ptr kb' 0]) :: (ib, io, enc md' ++ isp) :: (kb', 0, [kv]) :: (rb, ro, (fp l.id ++ fp r.id) ++ ksp) :: (tb, 2, [ptr n' 0]) :: (t6, 0, enc emp) :: (t4, 0, enc x) :: (tb, 3, [.int .i64 cnt]) :: (hb, 0, hc) :: (l.all enc ++ (r.all enc ++ E))) h →
        tail1 (ptr tb 0) hv (ptr t4 0) (ptr t6 0) h Q := by
      intro iv kv ib io rb ro isp ksp h wi wkk s
      unfold tail1
      have s : St h0 Z ((n', 0, [.int .u64 iso, .int .i64 0, iv, ptr kb' 0]) :: (kb', 0, [kv]) :: (rb, ro, ([l, r].map GT.id).flatMap fp ++ ksp) :: (tb, 2, [ptr n' 0]) :: (ib, io, enc md' ++ isp) :: (t4, 0, enc x) :: (t6, 0, enc emp) :: (tb, 3, [.int .i64 cnt]) :: (hb, 0, hc) :: (l.all enc ++ (r.all enc ++ E))) h := s.perm (by
        show ((n', 0, [.int .u64 iso, .int .i64 0, iv, ptr kb' 0]) :: (kb', 0, [kv]) :: (rb, ro, (fp l.id ++ fp r.id) ++ ksp) :: _ :: _ :: _ :: _ :: _ :: _ :: _).Perm _
        ((apply perm_rg; intro f; simp only [List.set_cons_zero, List.set_cons_succ, List.eraseIdx_cons_zero, List.eraseIdx_cons_succ, List.cons_append, List.nil_append, List.map_append, List.map_cons, List.map_nil, List.sum_append, List.sum_cons, List.sum_nil, List.map_flatMap, Nat.add_zero, Nat.zero_add]; ac_rfl)))
      have wkk : Own 1 kv ([l, r].map GT.id).length rb ro (([l, r].map GT.id).flatMap fp) ksp := wkk
      refine r_nil ?_
      refine r_fld ?_
      refine s.r_load1 3 (o := 2) (j := 0) rfl rfl ?_
      have hlr : l.pt.items.length + r.pt.items.length + 1 = t.pt.items.length := by
        rw [hl, hr, PT.cut_items fl hmd, List.length_append, List.length_cons]; omega
      refine updateCount_kids (ts := [l, r]) (len := 1) s wi wkk (fun q hq => ?_) (fun q hq z hz => ?_) (by simp) (by simp; omega) fun h s => ?_
      · simp at hq; rcases hq with e | e <;> subst e
        · exact gl.cn
        · exact gr.cn
      · simp at hq
        simp only [List.mem_cons, List.mem_append]
        rcases hq with e | e <;> subst e
        · exact .inr (.inr (.inr (.inr (.inr (.inr (.inl hz))))))
        · exact .inr (.inr (.inr (.inr (.inr (.inr (.inr (.inl hz)))))))
      · have hcc : 1 + ([l, r].map fun t => t.pt.items.length).sum = t.pt.items.length := by simp; omega
        rw [hcc] at s
        refine St.r_loadN0 s 5 rfl (by simp) ?_
        let tn : GT It (k + 1) := ((⟨true, n', iso, (t.pt.items.length : Int), [md'], iv, ib, io, isp, kb', kv, rb, ro, ksp⟩ : Nd It), [l, r])
        have hpn : tn.pt = t.pt.grow m := by
          rw [egrow]
          show ([md'], [l, r].map GT.pt) = _
          rw [List.map_cons, List.map_cons, List.map_nil, hl, hr]
        have gn : Gd iso tn := Gd.inner (by show Own 2 iv [md'].length ib io ([md'].flatMap enc) isp; simpa using wi) rfl rfl (by simpa using wkk) rfl (fun c hc => by
          have hc : c ∈ [l, r] := hc
          simp at hc; rcases hc with e | e <;> subst e
          · exact gl
          · exact gr) (by show (t.pt.items.length : Int) = (tn.pt.items.length : Int); rw [hpn, g1])
        have s : St h0 Z ((tb, 2, [ptr tn.id 0]) :: (tb, 3, [.int .i64 cnt]) :: (hb, 0, hc) :: (tn.all enc ++ ((t4, 0, enc x) :: (t6, 0, enc emp) :: E))) h := by
          have s1 : St h0 Z ((tb, 2, [ptr n' 0]) :: (tb, 3, [.int .i64 cnt]) :: (hb, 0, hc) :: (n', 0, [.int .u64 iso, .int .i64 t.pt.items.length, iv, ptr kb' 0]) :: (ib, io, [md'].flatMap enc ++ isp) :: (kb', 0, [kv]) :: (rb, ro, (([l, r].map GT.id).map fun m => ptr m 0) ++ ksp) :: ([l, r].flatMap (GT.all enc) ++ ((t4, 0, enc x) :: (t6, 0, enc emp) :: E))) h := by
            rw [mfp]
            exact s.perm (by
              rw [List.flatMap_singleton, List.flatMap_cons, List.flatMap_cons, List.flatMap_nil, List.append_nil]; ((apply perm_rg; intro f; simp only [List.set_cons_zero, List.set_cons_succ, List.eraseIdx_cons_zero, List.eraseIdx_cons_succ, List.cons_append, List.nil_append, List.map_append, List.map_cons, List.map_nil, List.sum_append, List.sum_cons, List.sum_nil, List.map_flatMap, Nat.add_zero, Nat.zero_add]; ac_rfl)))
          exact s1
        refine setHint_noSplit o hO hT0 hT4 hm3 hm1 ho tn hh (by rw [hpn]; exact g2) (by rw [hpn, g1]; exact ha) (by rw [hpn, g1]; exact hsz) gn (by rw [hpn, g1]; exact hcnt) (by rw [hpn]; exact g3) s fun t2 hc h' e1 e2 hh s => ?_
        rw [hpn, g1, hgn]
        have s : St h0 Z ((t6, 0, enc emp) :: (tb, 2, [ptr t2.id 0]) :: (tb, 3, [.int .i64 t2.pt.items.length]) :: (hb, 0, hc) :: (t2.all enc ++ E)) h' := St.drop (E := (t4, 0, enc x) :: (t6, 0, enc emp) :: (tb, 2, [ptr t2.id 0]) :: (tb, 3, [.int .i64 t2.pt.items.length]) :: (hb, 0, hc) :: (t2.all enc ++ E)) (s.perm (by ((apply perm_rg; intro f; simp only [List.set_cons_zero, List.set_cons_succ, List.eraseIdx_cons_zero, List.eraseIdx_cons_succ, List.cons_append, List.nil_append, List.map_append, List.map_cons, List.map_nil, List.sum_append, List.sum_cons, List.sum_nil, List.map_flatMap, Nat.add_zero, Nat.zero_add]; ac_rfl)))) 1
        refine r_ext rfl ?_
        refine r_ext rfl ?_
        refine St.r_storeN0 s 0 rfl rfl (by simp) (enc1 emp) ?_; intro h' s
        refine St.r_loadN0 s 0 rfl (by simp) ?_
        have := H ⟨k + 1, t2⟩ hc h' (by
          show some (⟨k + 1, t2.pt⟩ : (j : Nat) × PT It j) = _
          unfold MT.set
          simp only [hsp, ↓reduceIte, e1, hpn]) e2 hh (s.drop 1)
        rw [hgn] at this
        exact this
    -- what follows the children
    have tail : ∀ {kv : Value} {rb ro : Nat} {ksp : List Value} {h : Heap}, Own 1 kv 2 rb ro (fp l.id ++ fp r.id) ksp →
        St h0 Z ((n', 0, [.int .u64 iso, .int .i64 0, .slice none 0 0, ptr kb' 0]) :: (kb', 0, [kv]) :: (rb, ro, (fp l.id ++ fp r.id) ++ ksp) :: (t14, 0, enc md') :: (tb, 2, [ptr n' 0]) :: (t6, 0, enc emp) :: (t4, 0, enc x) :: (tb, 3, [.int .i64 cnt]) :: (hb, 0, hc) :: (l.all enc ++ (r.all enc ++ E))) h →
        tail2 (ptr tb 0) hv (ptr t4 0) (ptr t6 0) (ptr t14 0) h Q := by
      intro kv rb ro ksp h wkk s
      unfold tail2
      refine r_nil ?_
      refine r_fld ?_
      refine s.r_load1 4 (o := 2) (j := 0) rfl rfl ?_
      refine St.r_loadN0 s 3 rfl (by simp) ?_
      constructor
      · refine St.r_mkSl (sz := 2) (cs := []) s (by ((simp only [fillV, fill1, Value.cells, zeros_succ, zeros_zero, List.size_toArray, List.length_cons, List.length_nil, List.length_append, List.take_succ_cons, List.take_zero, List.take_nil, List.drop_succ_cons, List.drop_zero, List.drop_nil, List.cons_append, List.nil_append, List.append_nil, Nat.reduceAdd, Nat.reduceMul, Nat.reduceLeDiff, Nat.reduceEqDiff, and_self, and_true, true_and, if_true, Nat.le_refl, Nat.zero_add, Nat.add_zero, Nat.zero_mul, reduceIte, if_false] <;> rfl))) rfl fun q1 h s w1 => ?_
        refine ⟨s.r_still1 5 (o := 2) (j := 0) rfl rfl, St.r_stillN0 s 4 rfl (by simp) rfl, ?_⟩
        refine St.r_mkSl (sz := 2) (cs := enc md') s (by ((simp only [fillV, fill1, Value.cells, zeros_succ, zeros_zero, List.size_toArray, List.length_cons, List.length_nil, List.length_append, List.take_succ_cons, List.take_zero, List.take_nil, List.drop_succ_cons, List.drop_zero, List.drop_nil, List.cons_append, List.nil_append, List.append_nil, Nat.reduceAdd, Nat.reduceMul, Nat.reduceLeDiff, Nat.reduceEqDiff, and_self, and_true, true_and, if_true, Nat.le_refl, Nat.zero_add, Nat.add_zero, Nat.zero_mul, reduceIte, if_false] <;> rfl))) rfl fun q2 h s w2 => ?_
        refine ⟨s.r_still1 6 (o := 2) (j := 0) rfl rfl, ?_⟩
        refine St.r_app s 1 (sz := 2) (n := 1) (new := enc md') rfl w1 rfl (w2.rdl s 0 rfl) (enc1 _) (by omega) (by omega) fun iv ib io isp h s wi => ?_
        refine ⟨s.r_still1 6 (o := 2) (j := 0) rfl rfl, ?_⟩
        refine r_nil ?_
        refine r_fld ?_
        refine St.r_store0 s 2 rfl (by simp) wi.one ?_; intro h s
        exact fin wi wkk ((s.perm (E' := (q2, 0, enc md' ++ []) :: (t14, 0, enc md') :: _) (by simp; ((apply perm_rg; intro f; simp only [List.set_cons_zero, List.set_cons_succ, List.eraseIdx_cons_zero, List.eraseIdx_cons_succ, List.cons_append, List.nil_append, List.map_append, List.map_cons, List.map_nil, List.sum_append, List.sum_cons, List.sum_nil, List.map_flatMap, Nat.add_zero, Nat.zero_add]; ac_rfl)))).drop 2)
      · refine St.r_mkSl (sz := 2) (cs := enc md') s (by ((simp only [fillV, fill1, Value.cells, zeros_succ, zeros_zero, List.size_toArray, List.length_cons, List.length_nil, List.length_append, List.take_succ_cons, List.take_zero, List.take_nil, List.drop_succ_cons, List.drop_zero, List.drop_nil, List.cons_append, List.nil_append, List.append_nil, Nat.reduceAdd, Nat.reduceMul, Nat.reduceLeDiff, Nat.reduceEqDiff, and_self, and_true, true_and, if_true, Nat.le_refl, Nat.zero_add, Nat.add_zero, Nat.zero_mul, reduceIte, if_false] <;> rfl))) rfl fun q2 h s w2 => ?_
        refine ⟨s.r_still1 5 (o := 2) (j := 0) rfl rfl, ?_⟩
        refine St.r_mkSl (sz := 2) (cs := []) s (by ((simp only [fillV, fill1, Value.cells, zeros_succ, zeros_zero, List.size_toArray, List.length_cons, List.length_nil, List.length_append, List.take_succ_cons, List.take_zero, List.take_nil, List.drop_succ_cons, List.drop_zero, List.drop_nil, List.cons_append, List.nil_append, List.append_nil, Nat.reduceAdd, Nat.reduceMul, Nat.reduceLeDiff, Nat.reduceEqDiff, and_self, and_true, true_and, if_true, Nat.le_refl, Nat.zero_add, Nat.add_zero, Nat.zero_mul, reduceIte, if_false] <;> rfl))) rfl fun q1 h s w1 => ?_
        refine ⟨s.r_still1 6 (o := 2) (j := 0) rfl rfl, ?_⟩
        refine St.r_app s 0 (sz := 2) (n := 1) (new := enc md') rfl w1 rfl (w2.rdl s 1 rfl) (enc1 _) (by omega) (by omega) fun iv ib io isp h s wi => ?_
        refine ⟨s.r_still1 6 (o := 2) (j := 0) rfl rfl, ?_⟩
        refine r_nil ?_
        refine r_fld ?_
        refine St.r_store0 s 2 rfl (by simp) wi.one ?_; intro h s
        exact fin wi wkk ((s.perm (E' := (q2, 0, enc md' ++ []) :: (t14, 0, enc md') :: _) (by simp; ((apply perm_rg; intro f; simp only [List.set_cons_zero, List.set_cons_succ, List.eraseIdx_cons_zero, List.eraseIdx_cons_succ, List.cons_append, List.nil_append, List.map_append, List.map_cons, List.map_nil, List.sum_append, List.sum_cons, List.sum_nil, List.map_flatMap, Nat.add_zero, Nat.zero_add]; ac_rfl)))).drop 2)
    constructor
    · refine St.r_mkSl (sz := 1) (cs := []) s (by ((simp only [fillV, fill1, Value.cells, zeros_succ, zeros_zero, List.size_toArray, List.length_cons, List.length_nil, List.length_append, List.take_succ_cons, List.take_zero, List.take_nil, List.drop_succ_cons, List.drop_zero, List.drop_nil, List.cons_append, List.nil_append, List.append_nil, Nat.reduceAdd, Nat.reduceMul, Nat.reduceLeDiff, Nat.reduceEqDiff, and_self, and_true, true_and, if_true, Nat.le_refl, Nat.zero_add, Nat.add_zero, Nat.zero_mul, reduceIte, if_false] <;> rfl))) rfl fun q1 h s w1 => ?_
      refine ⟨s.r_still1 4 (o := 2) (j := 0) rfl rfl, by exact St.r_still0 s 1 rfl rfl, ?_⟩
      refine St.r_mkSl (sz := 1) (cs := fp l.id ++ fp r.id) s (by rw [hlid]; ((simp only [fillV, fill1, Value.cells, zeros_succ, zeros_zero, List.size_toArray, List.length_cons, List.length_nil, List.length_append, List.take_succ_cons, List.take_zero, List.take_nil, List.drop_succ_cons, List.drop_zero, List.drop_nil, List.cons_append, List.nil_append, List.append_nil, Nat.reduceAdd, Nat.reduceMul, Nat.reduceLeDiff, Nat.reduceEqDiff, and_self, and_true, true_and, if_true, Nat.le_refl, Nat.zero_add, Nat.add_zero, Nat.zero_mul, reduceIte, if_false] <;> rfl))) rfl fun q2 h s w2 => ?_
      refine ⟨s.r_still1 5 (o := 2) (j := 0) rfl rfl, by exact St.r_still0 s 2 rfl rfl, ?_⟩
      refine St.r_app s 1 (sz := 1) (n := 2) (new := fp l.id ++ fp r.id) rfl w1 rfl (w2.rdl s 0 rfl) (by simp [one1]) (by omega) (by omega) fun kv rb ro ksp h s wkk => ?_
      refine ⟨s.r_still1 5 (o := 2) (j := 0) rfl rfl, by exact St.r_still0 s 2 rfl rfl, ?_⟩
      refine r_nil ?_
      refine St.r_store0 s 3 rfl (by simp) wkk.one ?_; intro h s
      exact tail wkk ((s.perm (E' := (q2, 0, fp l.id ++ fp r.id ++ []) :: _) (by simp; ((apply perm_rg; intro f; simp only [List.set_cons_zero, List.set_cons_succ, List.eraseIdx_cons_zero, List.eraseIdx_cons_succ, List.cons_append, List.nil_append, List.map_append, List.map_cons, List.map_nil, List.sum_append, List.sum_cons, List.sum_nil, List.map_flatMap, Nat.add_zero, Nat.zero_add]; ac_rfl)))).drop 1)
    · refine St.r_mkSl (sz := 1) (cs := fp l.id ++ fp r.id) s (by rw [hlid]; ((simp only [fillV, fill1, Value.cells, zeros_succ, zeros_zero, List.size_toArray, List.length_cons, List.length_nil, List.length_append, List.take_succ_cons, List.take_zero, List.take_nil, List.drop_succ_cons, List.drop_zero, List.drop_nil, List.cons_append, List.nil_append, List.append_nil, Nat.reduceAdd, Nat.reduceMul, Nat.reduceLeDiff, Nat.reduceEqDiff, and_self, and_true, true_and, if_true, Nat.le_refl, Nat.zero_add, Nat.add_zero, Nat.zero_mul, reduceIte, if_false] <;> rfl))) rfl fun q2 h s w2 => ?_
      refine ⟨s.r_still1 4 (o := 2) (j := 0) rfl rfl, by exact St.r_still0 s 1 rfl rfl, ?_⟩
      refine St.r_mkSl (sz := 1) (cs := []) s (by ((simp only [fillV, fill1, Value.cells, zeros_succ, zeros_zero, List.size_toArray, List.length_cons, List.length_nil, List.length_append, List.take_succ_cons, List.take_zero, List.take_nil, List.drop_succ_cons, List.drop_zero, List.drop_nil, List.cons_append, List.nil_append, List.append_nil, Nat.reduceAdd, Nat.reduceMul, Nat.reduceLeDiff, Nat.reduceEqDiff, and_self, and_true, true_and, if_true, Nat.le_refl, Nat.zero_add, Nat.add_zero, Nat.zero_mul, reduceIte, if_false] <;> rfl))) rfl fun q1 h s w1 => ?_
      refine ⟨s.r_still1 5 (o := 2) (j := 0) rfl rfl, by exact St.r_still0 s 2 rfl rfl, ?_⟩
      refine St.r_app s 0 (sz := 1) (n := 2) (new := fp l.id ++ fp r.id) rfl w1 rfl (w2.rdl s 1 rfl) (by simp [one1]) (by omega) (by omega) fun kv rb ro ksp h s wkk => ?_
      refine ⟨s.r_still1 5 (o := 2) (j := 0) rfl rfl, by exact St.r_still0 s 2 rfl rfl, ?_⟩
      refine r_nil ?_
      refine St.r_store0 s 3 rfl (by simp) wkk.one ?_; intro h s
      exact tail wkk ((s.perm (E' := (q2, 0, fp l.id ++ fp r.id ++ []) :: _) (by simp; ((apply perm_rg; intro f; simp only [List.set_cons_zero, List.set_cons_succ, List.eraseIdx_cons_zero, List.eraseIdx_cons_succ, List.cons_append, List.nil_append, List.map_append, List.map_cons, List.map_nil, List.sum_append, List.sum_cons, List.sum_nil, List.map_flatMap, Nat.add_zero, Nat.zero_add]; ac_rfl)))).drop 1)
end Go.Proofs.YtgnnidefbeoibaaGreat.Gi
end
section
namespace Go.Proofs.YtgnnidefbeoibaaGreat.Gi
open Go.Hp Go.Proofs.YtgnnidefbeoibaaGreat
set_option linter.unusedVariables false
set_option linter.unusedSimpArgs false
variable {h0 h : Heap} {Z E : List Rg} {Q : Value → Heap → Prop} {lt : It → It → Bool} {lf : Value}

/-! ### orders -/
abbrev fi (k : Int) : List Value := [.int .i64 k]
theorem fil (k : Int) : (fi k).length = 1 := rfl
/-- The rank of a key. -/
def rnk (ow : List Int) (k : Int) : Int := if ow = [] then k else ow[(k % ow.length).toNat]?.getD 0
def ltO (ow : List Int) (a b : It) : Bool := decide (rnk ow a.1 < rnk ow b.1)
theorem swoO (ow : List Int) : Swo (ltO ow) where
  irr a := by simp [ltO]
  tr a b c h1 h2 := by simp only [ltO, decide_eq_true_eq] at *; omega
  ntr a b c h1 h2 := by simp only [ltO, decide_eq_false_iff_not, Int.not_lt] at *; omega
/-- A function value that answers as the order does, as long as the ranges A stay. -/
def OrdA (A : List Rg) (lf : Value) (lt : It → It → Bool) : Prop := ∀ Z, (∀ r, r ∈ A → r ∈ Z) → OrdC Z lf lt
theorem remainder_ok {k : Int} {n : Nat} (h1 : 1 ≤ n) (h2 : n ≤ 1152921504606846976) (H : Q (.int .i64 (k % n)) h) : i_remainder.call #[.int .i64 k, .int .i64 n] h Q := by
  refine i_remainder.body _ _ _ _ ?_
  unfold i_remainder.sh
  have hn0 : (n : Int) ≠ 0 := by omega
  have hb1 : k.tmod n < n := Int.tmod_lt_of_pos k (by omega)
  have hb2 : -(n : Int) < k.tmod n := by
    have := Int.lt_tmod_of_pos k (show (0 : Int) < n by omega)
    omega
  refine ⟨.i64, _, _, rfl, rfl, hn0, ?_⟩
  refine r_add (z := k.tmod n + n) (i64w (by omega) (by omega)) ?_
  refine ⟨.i64, _, _, rfl, rfl, hn0, ?_⟩
  have e : (k.tmod n + n).tmod n = k % n := by
    rw [Int.tmod_eq_emod_of_nonneg (by omega), Int.add_emod_right]
    have e1 := Int.mul_tdiv_add_tmod k n
    conv => rhs; rw [← e1, Int.add_comm, Int.add_mul_emod_self_left]
  rw [e]; exact H
theorem rank_ok {v : Value} {ow : List Int} {k : Int} (hr : Rdl 1 h v ow.length (ow.flatMap fi)) (hl : ow.length ≤ 1152921504606846976) (H : Q (.int .i64 (rnk ow k)) h) : i_rank.call #[v, .int .i64 k] h Q := by
  refine i_rank.body _ _ _ _ ?_
  unfold i_rank.sh
  refine hr.lenV ?_
  refine r_cmpI ?_
  refine r_if (fun e => ?_) (fun e => ?_)
  · have : ow = [] := by have : ow.length = 0 := by simpa using e
                         exact List.length_eq_zero_iff.1 this
    unfold rnk at H; rw [if_pos this] at H; exact H
  · have hne : ow ≠ [] := fun e2 => by subst e2; simp at e
    have hpos : 1 ≤ ow.length := by have := List.length_pos_iff.2 hne; omega
    unfold i_rank.j1
    refine hr.lenV ?_
    refine remainder_ok hpos hl ?_
    have hm0 : 0 ≤ k % (ow.length : Int) := Int.emod_nonneg _ (by omega)
    have hm1 : k % (ow.length : Int) < ow.length := Int.emod_lt_of_pos _ (by omega)
    have hlt : (k % (ow.length : Int)).toNat < ow.length := by generalize k % (ow.length : Int) = z at *; omega
    refine hr.at (n := (k % (ow.length : Int)).toNat) (f := fi) rfl fil (Int.toNat_of_nonneg hm0).symm rfl hlt fun b o hb => ?_
    refine hb.load0 rfl ?_
    unfold rnk at H
    rw [if_neg hne, List.getElem?_eq_getElem hlt] at H
    exact H
theorem Clone_ok {v : Value} {l : List Int} (hr : Rdl 1 h v l.length (l.flatMap fi)) (hl : l.length ≤ 2147483647)
    (H : ∀ v' b o sp E' h', Own 1 v' l.length b o (l.flatMap fi) sp → St h [] ((b, o, l.flatMap fi ++ sp) :: E') h' → Q v' h') : sl_Clone_inti.call #[v] h Q := by
  refine sl_Clone_inti.body _ _ _ ?_
  unfold sl_Clone_inti.sh
  have s := St.start h
  have hr0 := hr
  obtain ⟨a, cap, e, _, hc, _⟩ := hr0
  subst e
  refine ⟨a, _, _, rfl, ?_⟩
  refine r_if (fun ha => ?_) (fun ha => ?_)
  · have : l = [] := by
      cases l with
      | nil => rfl
      | cons x r =>
        obtain ⟨b, o, e, _⟩ := hc (by simp)
        subst e; cases ha
    subst this
    exact H _ 0 0 [] _ _ (Own.nil 1 0 0) (s.empty 0 0)
  · unfold sl_Clone_inti.j1
    refine St.r_mkSl (sz := 1) (cs := []) s (by ((simp only [fillV, fill1, Value.cells, zeros_succ, zeros_zero, List.size_toArray, List.length_cons, List.length_nil, List.length_append, List.take_succ_cons, List.take_zero, List.take_nil, List.drop_succ_cons, List.drop_zero, List.drop_nil, List.cons_append, List.nil_append, List.append_nil, Nat.reduceAdd, Nat.reduceMul, Nat.reduceLeDiff, Nat.reduceEqDiff, and_self, and_true, true_and, if_true, Nat.le_refl, Nat.zero_add, Nat.add_zero, Nat.zero_mul, reduceIte, if_false] <;> rfl))) rfl fun q h s wq => ?_
    refine s.r_appL (f := fi) (L := []) (M := l) 0 rfl wq rfl (hr.st s) (fun _ _ => by simp [one1]) (by simp; omega) (by simp; omega) fun v' b' o' sp' h s w' => ?_
    exact H _ _ _ _ _ _ w' s
theorem less_ok {cb : Nat} {v : Value} {ow : List Int} {a b : It} (s : St h0 Z E h) (hc : cl h cb 0 = some v) (hr : Rdl 1 h v ow.length (ow.flatMap fi)) (hl : ow.length ≤ 1152921504606846976) (H : ∀ E' h', St h [] E' h' → Q (.bool (ltO ow a b)) h') : i_before_c1.call #[av a, av b, ptr cb 0] h Q := by
  refine i_before_c1.body _ _ _ _ _ ?_
  unfold i_before_c1.sh
  have u := St.start h
  refine St.r_box (cs := enc a) u fun t3 h1 u => ?_
  refine St.r_box (cs := enc b) u fun t4 h1 u => ?_
  refine u.r_loadB hc ?_
  refine r_fld ?_
  refine St.r_load0 u 1 rfl rfl ?_
  refine u.r_loadB hc ?_
  refine r_fld ?_
  refine St.r_load0 u 0 rfl rfl ?_
  refine rank_ok (hr.st u) hl ?_
  refine ⟨⟨_, rfl, u.base hc⟩, St.r_still0 u 0 rfl rfl, ?_⟩
  refine rank_ok (hr.st u) hl ?_
  refine r_cmpI ?_
  exact H _ _ u
theorem before_ok {v : Value} {ow : List Int} (hr : Rdl 1 h v ow.length (ow.flatMap fi)) (hl : ow.length ≤ 2147483647)
    (H : ∀ lf A E' h', OrdA A lf (ltO ow) → St h [] (A ++ E') h' → Q lf h') : i_before.call #[v] h Q := by
  refine i_before.body _ _ _ ?_
  unfold i_before.sh
  refine Clone_ok hr hl fun v' b o sp E' h1 w s => ?_
  refine s.r_alloc fun t3 h1 s => ?_
  refine St.r_store0 s 0 rfl (by simp) w.one ?_; intro h1 s
  refine H _ [(t3, 0, [v']), (b, o, ow.flatMap fi ++ sp)] E' h1 (fun Z hz => ⟨rfl, rfl, fun {h0} {h} {E} {x} {y} {Q} s H => ?_⟩) s
  refine r_callV ⟨_, Tryz.func131, rfl, by kernel_rfl⟩ ?_
  refine less_ok s (s.clz (hz _ (List.mem_cons_self ..)) 0 rfl rfl) (w.rdlZ s (hz _ (List.mem_cons_of_mem _ (List.mem_cons_self ..)))) (by omega) H

/-! ### trees -/
structure TreeOk (lt : It → It → Bool) (m : Nat) (iso : Int) (g : Rt) : Prop where
  gd : rGd iso g
  fl : (rPt g).Fl m
  asc : Asc lt (rPt g).items
  m3 : 3 ≤ m
  m1 : m ≤ 1024
  odd : m % 2 = 1
theorem TreeOk.none {m : Nat} {iso : Int} (m3 : 3 ≤ m) (m1 : m ≤ 1024) (odd : m % 2 = 1) : TreeOk lt m iso none := ⟨trivial, trivial, List.Pairwise.nil, m3, m1, odd⟩
theorem init_skip {tb : Nat} {d iso cnt mn mx : Int} {ctr root : Option Addr} (s : St h0 Z ((tb, 0, hdr iso ctr root cnt lf mn mx) :: E) h) (hmn : mn ≠ 0) (H : Q (.tuple #[]) h) : BTreeG_I_init.call #[ptr tb 0, .int .i64 d] h Q := by
  refine BTreeG_I_init.body _ _ _ _ ?_
  unfold BTreeG_I_init.sh
  refine r_nil ?_
  refine r_fld ?_
  refine St.r_load0 s 0 rfl rfl ?_
  refine r_cmpI ?_
  exact r_if (fun _ => H) (fun e => absurd e (by simpa using hmn))
theorem init_set {tb : Nat} {d a b iso cnt : Int} {ctr root : Option Addr} (s : St h0 Z ((tb, 0, hdr iso ctr root cnt lf 0 0) :: E) h) (hd : ∀ {h : Heap} {Q : Value → Heap → Prop}, Q (.tuple #[.int .i64 a, .int .i64 b]) h → degreeToMinMax.call #[.int .i64 d] h Q)
    (H : ∀ h', St h0 Z ((tb, 0, hdr iso ctr root cnt lf a b) :: E) h' → Q (.tuple #[]) h') : BTreeG_I_init.call #[ptr tb 0, .int .i64 d] h Q := by
  refine BTreeG_I_init.body _ _ _ _ ?_
  unfold BTreeG_I_init.sh
  refine r_nil ?_
  refine r_fld ?_
  refine St.r_load0 s 0 rfl rfl ?_
  refine r_cmpI ?_
  refine r_if (fun e => absurd e (by decide)) (fun _ => ?_)
  unfold BTreeG_I_init.j1
  refine hd ?_
  refine r_ext rfl ?_
  refine r_ext rfl ?_
  refine r_nil ?_
  refine r_fld ?_
  (refine St.r_store0 s 0 rfl (by simp) rfl ?_; intro h s; try simp only [List.set_cons_zero, List.set_cons_succ] at s)
  refine r_nil ?_
  refine r_fld ?_
  (refine St.r_store0 s 0 rfl (by simp) rfl ?_; intro h s; try simp only [List.set_cons_zero, List.set_cons_succ] at s)
  refine r_nil ?_
  refine r_fld ?_
  refine St.r_loadN0 s 0 rfl (by simp) ?_
  refine r_ext rfl ?_
  refine r_ext rfl ?_
  refine r_nil ?_
  refine r_fld ?_
  (refine St.r_store0 s 0 rfl (by simp) rfl ?_; intro h s; try simp only [List.set_cons_zero, List.set_cons_succ] at s)
  refine r_nil ?_
  refine r_fld ?_
  refine St.r_load0 s 0 rfl rfl ?_
  refine r_not ?_
  refine r_if (fun _ => ?_) (fun e => absurd e (by decide))
  refine r_nil ?_
  refine r_fld ?_
  refine St.r_loadN0 s 0 rfl (by simp) ?_
  refine r_ext rfl ?_
  refine r_ext rfl ?_
  refine r_nil ?_
  refine r_fld ?_
  (refine St.r_store0 s 0 rfl (by simp) rfl ?_; intro h s; try simp only [List.set_cons_zero, List.set_cons_succ] at s)
  exact H _ s
/-- The least and the greatest number of items of a node. -/
def dmin (d : Nat) : Nat := if d = 0 then 31 else d - 1
def dmax (d : Nat) : Nat := if d = 0 then 63 else 2 * d - 1
theorem degree_any {d : Nat} (hd : d = 0 ∨ 2 ≤ d) (hd2 : d ≤ 512) {h : Heap} {Q : Value → Heap → Prop} (H : Q (.tuple #[.int .i64 (dmin d : Nat), .int .i64 (dmax d : Nat)]) h) : degreeToMinMax.call #[.int .i64 d] h Q := by
  by_cases e : d = 0
  · subst e; exact degree_zero H
  · unfold dmin dmax at H
    rw [if_neg e, if_neg e] at H
    refine degree_ok (d := d) (by omega) (by omega) ?_
    have e1 : (d : Int) - 1 = ((d - 1 : Nat) : Int) := by omega
    have e2 : 2 * (d : Int) - 1 = ((2 * d - 1 : Nat) : Int) := by omega
    rw [e1, e2]; exact H
theorem dmax_ok {d : Nat} (hd : d = 0 ∨ 2 ≤ d) (hd2 : d ≤ 512) : 3 ≤ dmax d ∧ dmax d ≤ 1024 ∧ dmax d % 2 = 1 ∧ dmin d = dmax d / 2 ∧ dmin d ≠ 0 := by
  unfold dmax dmin; split <;> omega
theorem newIsoID_ok {cb : Nat} {c : Int} (hc0 : 0 ≤ c) (hc1 : c ≤ 1073741824) (s : St h0 Z ((cb, 0, [.int .u64 c]) :: E) h) (H : ∀ h', St h0 Z ((cb, 0, [.int .u64 (c + 1)]) :: E) h' → Q (.int .u64 (c + 1)) h') : newIsoID.call #[ptr cb 0] h Q := by
  refine newIsoID.body _ _ _ ?_
  unfold newIsoID.sh
  refine r_nil ?_
  refine St.r_load0 s 0 rfl rfl ?_
  refine r_add (z := c + 1) (u64w (by omega) (by omega)) ?_
  refine r_nil ?_
  (refine St.r_store0 s 0 rfl (by simp) rfl ?_; intro h s; try simp only [List.set_cons_zero, List.set_cons_succ] at s)
  refine r_nil ?_
  refine St.r_load0 s 0 rfl rfl ?_
  exact H _ s
theorem New_ok (s : St h0 Z E h) {d : Nat} (hd : d = 0 ∨ 2 ≤ d) (hd2 : d ≤ 512) {nl : Bool} (hlf : one1 lf = true) (H : ∀ b cb h', St h0 Z ((b, 0, hdr 1 (some ⟨cb, 0, none⟩) none 0 lf (dmin d : Nat) (dmax d : Nat)) :: (cb, 0, [.int .u64 1]) :: E) h' → Q (ptr b 0) h') : NewBTreeGOptions_I.call #[lf, .agg #[.int .i64 d, .bool nl]] h Q := by
  refine NewBTreeGOptions_I.body _ _ _ _ ?_
  unfold NewBTreeGOptions_I.sh
  refine St.r_box (cs := [.int .i64 d, .bool nl]) s fun t3 h s => ?_
  refine s.r_alloc fun t6 h s => ?_
  refine s.r_alloc fun t8 h s => ?_
  refine r_nil ?_
  refine r_fld ?_
  (refine St.r_store0 s 1 rfl (by simp) rfl ?_; intro h s; try simp only [List.set_cons_zero, List.set_cons_succ] at s)
  refine r_nil ?_
  refine r_fld ?_
  refine St.r_load0 s 1 rfl rfl ?_
  refine newIsoID_ok (c := 0) (by decide) (by decide) s fun h s => ?_
  refine r_nil ?_
  refine r_fld ?_
  (refine St.r_store0 s 1 rfl (by simp) rfl ?_; intro h s; try simp only [List.set_cons_zero, List.set_cons_succ] at s)
  refine r_nil ?_
  refine r_fld ?_
  refine St.r_store0 s 1 rfl (by simp) hlf ?_; intro h s
  refine r_fld ?_
  refine St.r_load0 s 2 rfl rfl ?_
  have s : St h0 Z ((t6, 0, hdr 1 (some ⟨t8, 0, none⟩) none 0 lf 0 0) :: (t8, 0, [.int .u64 1]) :: (t3, 0, [.int .i64 d, .bool nl]) :: E) h := s.perm (List.Perm.swap _ _ _)
  refine init_set s (fun K => degree_any hd hd2 K) fun h s => ?_
  exact H _ _ _ (s.sub (List.Sublist.cons_cons _ (List.Sublist.cons_cons _ (List.sublist_cons_self _ _))))
/-- The first item of a tree. -/
theorem setHint_first {tb hb : Nat} {iso mn mx : Int} {ctr : Option Addr} {x : It} {hv : Value} (hmn : mn ≠ 0) (s : St h0 Z ((tb, 0, hdr iso ctr none 0 lf mn mx) :: E) h)
    (H : ∀ (t : GT It 0) h', t.pt = ([x] : List It) → Gd iso t → St h0 Z ((tb, 0, hdr iso ctr (some ⟨t.id, 0, none⟩) 1 lf mn mx) :: (t.all enc ++ E)) h' → Q (.tuple #[old none, .bool false]) h') :
    BTreeG_I_setHint.call #[ptr tb 0, av x, hv] h Q := by
  refine BTreeG_I_setHint.body _ _ _ _ _ ?_
  unfold BTreeG_I_setHint.sh
  refine St.r_box (cs := enc x) s fun t4 h s => ?_
  refine s.r_alloc fun t6 h s => ?_
  refine r_nil ?_
  refine r_fld ?_
  refine St.r_load0 s 2 rfl rfl ?_
  refine r_eqNilP ?_
  refine r_if (fun _ => ?_) (fun e => absurd e (by simp))
  refine init_skip (s.front 2 rfl) hmn ?_
  refine newNode_leaf (iso := iso) (by have := s.get (k := 2) (j := 0) rfl (by simp); simpa using this) fun n h s1 => ?_
  have s := s.join s1
  have s : St h0 Z ((n, 0, [.int .u64 iso, .int .i64 0, .slice none 0 0, .pointer none]) :: (tb, 0, hdr iso ctr none 0 lf mn mx) :: (t6, 0, enc emp) :: (t4, 0, enc x) :: E) h := s.perm (by ((apply perm_rg; intro f; simp only [List.set_cons_zero, List.set_cons_succ, List.eraseIdx_cons_zero, List.eraseIdx_cons_succ, List.cons_append, List.nil_append, List.map_append, List.map_cons, List.map_nil, List.sum_append, List.sum_cons, List.sum_nil, List.map_flatMap, Nat.add_zero, Nat.zero_add]; ac_rfl)))
  refine r_nil ?_
  refine r_fld ?_
  (refine St.r_store0 s 1 rfl (by simp) rfl ?_; intro h s; try simp only [List.set_cons_zero, List.set_cons_succ] at s)
  refine r_nil ?_
  refine r_fld ?_
  refine St.r_load0 s 1 rfl rfl ?_
  refine St.r_loadN0 s 3 rfl (by simp) ?_
  have fin : ∀ {iv : Value} {ib io : Nat} {isp : List Value} {h : Heap}, Own 2 iv 1 ib io (enc x) isp →
      St h0 Z ((n, 0, [.int .u64 iso, .int .i64 0, iv, .pointer none]) :: (tb, 0, hdr iso ctr (some ⟨n, 0, none⟩) 0 lf mn mx) :: (t6, 0, enc emp) :: (ib, io, enc x ++ isp) :: (t4, 0, enc x) :: E) h →
      (nilck (ptr tb 0) fun t35 => fld 2 t35 fun t36 => load1 t36 h fun t37 => nilck t37 fun t38 => fld 1 t38 fun t39 => store1 t39 (.int .i64 1) h fun h => nilck (ptr tb 0) fun t41 => fld 3 t41 fun t42 => store1 t42 (.int .i64 1) h fun h =>
        nilck (ptr tb 0) fun t44 => fld 7 t44 fun t45 => loadN 2 t45 h fun t46 => storeN 2 (ptr t6 0) t46 h fun h => loadN 2 (ptr t6 0) h fun r6 => Q (.tuple #[r6, (.bool false)]) h) := by
    intro iv ib io isp h wi s
    refine r_nil ?_
    refine r_fld ?_
    refine St.r_load0 s 1 rfl rfl ?_
    refine r_nil ?_
    refine r_fld ?_
    (refine St.r_store0 s 0 rfl (by simp) rfl ?_; intro h s; try simp only [List.set_cons_zero, List.set_cons_succ] at s)
    refine r_nil ?_
    refine r_fld ?_
    (refine St.r_store0 s 1 rfl (by simp) rfl ?_; intro h s; try simp only [List.set_cons_zero, List.set_cons_succ] at s)
    refine r_nil ?_
    refine r_fld ?_
    refine St.r_loadN0 s 1 rfl (by simp) ?_
    (refine St.r_storeN0 s 2 rfl rfl (by simp) (enc1 _) ?_; intro h s; try simp only [List.set_cons_zero, List.set_cons_succ] at s)
    refine St.r_loadN0 s 2 rfl (by simp) ?_
    exact H (⟨true, n, iso, 1, [x], iv, ib, io, isp, 0, .pointer none, 0, 0, []⟩ : Nd It) h rfl (Gd.leaf (by show Own 2 iv [x].length ib io ([x].flatMap enc) isp; simpa using wi) rfl rfl rfl)
      ((s.perm (E' := (t4, 0, enc x) :: (t6, 0, enc emp) :: (tb, 0, hdr iso ctr (some ⟨n, 0, none⟩) 1 lf mn mx) :: (n, 0, [.int .u64 iso, .int .i64 1, iv, .pointer none]) :: (ib, io, [x].flatMap enc ++ isp) :: E) (by rw [List.flatMap_singleton]; ((apply perm_rg; intro f; simp only [List.set_cons_zero, List.set_cons_succ, List.eraseIdx_cons_zero, List.eraseIdx_cons_succ, List.cons_append, List.nil_append, List.map_append, List.map_cons, List.map_nil, List.sum_append, List.sum_cons, List.sum_nil, List.map_flatMap, Nat.add_zero, Nat.zero_add]; ac_rfl)))).drop 2)
  constructor
  · refine St.r_mkSl (sz := 2) (cs := []) s (by ((simp only [fillV, fill1, Value.cells, zeros_succ, zeros_zero, List.size_toArray, List.length_cons, List.length_nil, List.length_append, List.take_succ_cons, List.take_zero, List.take_nil, List.drop_succ_cons, List.drop_zero, List.drop_nil, List.cons_append, List.nil_append, List.append_nil, Nat.reduceAdd, Nat.reduceMul, Nat.reduceLeDiff, Nat.reduceEqDiff, and_self, and_true, true_and, if_true, Nat.le_refl, Nat.zero_add, Nat.add_zero, Nat.zero_mul, reduceIte, if_false] <;> rfl))) rfl fun q1 h s w1 => ?_
    refine ⟨St.r_still0 s 2 rfl rfl, St.r_stillN0 s 4 rfl (by simp) rfl, ?_⟩
    refine St.r_mkSl (sz := 2) (cs := enc x) s (by ((simp only [fillV, fill1, Value.cells, zeros_succ, zeros_zero, List.size_toArray, List.length_cons, List.length_nil, List.length_append, List.take_succ_cons, List.take_zero, List.take_nil, List.drop_succ_cons, List.drop_zero, List.drop_nil, List.cons_append, List.nil_append, List.append_nil, Nat.reduceAdd, Nat.reduceMul, Nat.reduceLeDiff, Nat.reduceEqDiff, and_self, and_true, true_and, if_true, Nat.le_refl, Nat.zero_add, Nat.add_zero, Nat.zero_mul, reduceIte, if_false] <;> rfl))) rfl fun q2 h s w2 => ?_
    refine ⟨St.r_still0 s 3 rfl rfl, ?_⟩
    refine St.r_app s 1 (sz := 2) (n := 1) (new := enc x) rfl w1 rfl (w2.rdl s 0 rfl) (enc1 _) (by omega) (by omega) fun iv ib io isp h s wi => ?_
    refine ⟨St.r_still0 s 3 rfl rfl, ?_⟩
    refine r_nil ?_
    refine r_fld ?_
    refine St.r_store0 s 2 rfl (by simp) wi.one ?_; intro h s
    exact fin wi ((s.perm (E' := (q2, 0, enc x ++ []) :: _) (by simp; ((apply perm_rg; intro f; simp only [List.set_cons_zero, List.set_cons_succ, List.eraseIdx_cons_zero, List.eraseIdx_cons_succ, List.cons_append, List.nil_append, List.map_append, List.map_cons, List.map_nil, List.sum_append, List.sum_cons, List.sum_nil, List.map_flatMap, Nat.add_zero, Nat.zero_add]; ac_rfl)))).drop 1)
  · refine St.r_mkSl (sz := 2) (cs := enc x) s (by ((simp only [fillV, fill1, Value.cells, zeros_succ, zeros_zero, List.size_toArray, List.length_cons, List.length_nil, List.length_append, List.take_succ_cons, List.take_zero, List.take_nil, List.drop_succ_cons, List.drop_zero, List.drop_nil, List.cons_append, List.nil_append, List.append_nil, Nat.reduceAdd, Nat.reduceMul, Nat.reduceLeDiff, Nat.reduceEqDiff, and_self, and_true, true_and, if_true, Nat.le_refl, Nat.zero_add, Nat.add_zero, Nat.zero_mul, reduceIte, if_false] <;> rfl))) rfl fun q2 h s w2 => ?_
    refine ⟨St.r_still0 s 2 rfl rfl, ?_⟩
    refine St.r_mkSl (sz := 2) (cs := []) s (by ((simp only [fillV, fill1, Value.cells, zeros_succ, zeros_zero, List.size_toArray, List.length_cons, List.length_nil, List.length_append, List.take_succ_cons, List.take_zero, List.take_nil, List.drop_succ_cons, List.drop_zero, List.drop_nil, List.cons_append, List.nil_append, List.append_nil, Nat.reduceAdd, Nat.reduceMul, Nat.reduceLeDiff, Nat.reduceEqDiff, and_self, and_true, true_and, if_true, Nat.le_refl, Nat.zero_add, Nat.add_zero, Nat.zero_mul, reduceIte, if_false] <;> rfl))) rfl fun q1 h s w1 => ?_
    refine ⟨St.r_still0 s 3 rfl rfl, ?_⟩
    refine St.r_app s 0 (sz := 2) (n := 1) (new := enc x) rfl w1 rfl (w2.rdl s 1 rfl) (enc1 _) (by omega) (by omega) fun iv ib io isp h s wi => ?_
    refine ⟨St.r_still0 s 3 rfl rfl, ?_⟩
    refine r_nil ?_
    refine r_fld ?_
    refine St.r_store0 s 2 rfl (by simp) wi.one ?_; intro h s
    exact fin wi ((s.perm (E' := (q2, 0, enc x ++ []) :: _) (by simp; ((apply perm_rg; intro f; simp only [List.set_cons_zero, List.set_cons_succ, List.eraseIdx_cons_zero, List.eraseIdx_cons_succ, List.cons_append, List.nil_append, List.map_append, List.map_cons, List.map_nil, List.sum_append, List.sum_cons, List.sum_nil, List.map_flatMap, Nat.add_zero, Nat.zero_add]; ac_rfl)))).drop 1)

/-- A tree's head in parts. -/
theorem hdr_cut {tb : Nat} {iso cnt mn mx : Int} {ctr root : Option Addr} (s : St h0 Z ((tb, 0, hdr iso ctr root cnt lf mn mx) :: E) h) : St h0 Z ((tb, 0, hd0 iso ctr) :: (tb, 4, hd4 lf mn mx) :: (tb, 2, [.pointer root]) :: (tb, 3, [.int .i64 cnt]) :: E) h := by
  have s1 : St h0 Z ((tb, 0, hd0 iso ctr ++ ([.pointer root] ++ ([.int .i64 cnt] ++ hd4 lf mn mx))) :: E) h := s
  have s2 := s1.cut
  have s3 := (s2.front 1 rfl).cut
  have s4 := (s3.front 1 rfl).cut
  exact s4.perm (E' := (tb, 0, hd0 iso ctr) :: (tb, 4, hd4 lf mn mx) :: (tb, 2, [.pointer root]) :: (tb, 3, [.int .i64 cnt]) :: E) (by
    show ((tb, 0, hd0 iso ctr) :: (tb, 4, hd4 lf mn mx) :: (tb, 2, [.pointer root]) :: (tb, 3, [.int .i64 cnt]) :: E).Perm ((tb, 3, [.int .i64 cnt]) :: (tb, 4, hd4 lf mn mx) :: (tb, 2, [.pointer root]) :: (tb, 0, hd0 iso ctr) :: E)
    ((apply perm_rg; intro f; simp only [List.set_cons_zero, List.set_cons_succ, List.eraseIdx_cons_zero, List.eraseIdx_cons_succ, List.cons_append, List.nil_append, List.map_append, List.map_cons, List.map_nil, List.sum_append, List.sum_cons, List.sum_nil, List.map_flatMap, Nat.add_zero, Nat.zero_add]; ac_rfl)))
theorem hdr_glue {tb : Nat} {iso cnt mn mx : Int} {ctr root : Option Addr} (s : St h0 Z ((tb, 0, hd0 iso ctr) :: (tb, 4, hd4 lf mn mx) :: (tb, 2, [.pointer root]) :: (tb, 3, [.int .i64 cnt]) :: E) h) : St h0 Z ((tb, 0, hdr iso ctr root cnt lf mn mx) :: E) h := by
  have s1 : St h0 Z ((tb, 3, [.int .i64 cnt]) :: (tb, 3 + [Value.int .i64 cnt].length, hd4 lf mn mx) :: (tb, 2, [.pointer root]) :: (tb, 0, hd0 iso ctr) :: E) h := s.perm (by
    show ((tb, 3, [.int .i64 cnt]) :: (tb, 4, hd4 lf mn mx) :: (tb, 2, [.pointer root]) :: (tb, 0, hd0 iso ctr) :: E).Perm ((tb, 0, hd0 iso ctr) :: (tb, 4, hd4 lf mn mx) :: (tb, 2, [.pointer root]) :: (tb, 3, [.int .i64 cnt]) :: E)
    ((apply perm_rg; intro f; simp only [List.set_cons_zero, List.set_cons_succ, List.eraseIdx_cons_zero, List.eraseIdx_cons_succ, List.cons_append, List.nil_append, List.map_append, List.map_cons, List.map_nil, List.sum_append, List.sum_cons, List.sum_nil, List.map_flatMap, Nat.add_zero, Nat.zero_add]; ac_rfl)))
  have s2 := s1.glue
  have s3 : St h0 Z ((tb, 2, [.pointer root]) :: (tb, 2 + [Value.pointer root].length, [.int .i64 cnt] ++ hd4 lf mn mx) :: (tb, 0, hd0 iso ctr) :: E) h := s2.perm (by
    show ((tb, 2, [.pointer root]) :: (tb, 3, [.int .i64 cnt] ++ hd4 lf mn mx) :: (tb, 0, hd0 iso ctr) :: E).Perm ((tb, 3, [.int .i64 cnt] ++ hd4 lf mn mx) :: (tb, 2, [.pointer root]) :: (tb, 0, hd0 iso ctr) :: E)
    exact List.Perm.swap _ _ _)
  have s4 := s3.glue
  have s5 : St h0 Z ((tb, 0, hd0 iso ctr) :: (tb, 0 + (hd0 iso ctr).length, [.pointer root] ++ ([.int .i64 cnt] ++ hd4 lf mn mx)) :: E) h := s4.perm (by
    show ((tb, 0, hd0 iso ctr) :: (tb, 2, [.pointer root] ++ ([.int .i64 cnt] ++ hd4 lf mn mx)) :: E).Perm ((tb, 2, [.pointer root] ++ ([.int .i64 cnt] ++ hd4 lf mn mx)) :: (tb, 0, hd0 iso ctr) :: E)
    exact List.Perm.swap _ _ _)
  exact s5.glue

theorem setHint_ok (o : Swo lt) {A : List Rg} (hO : OrdA A lf lt) {tb m hb : Nat} {iso mn : Int} {ctr : Option Addr} {g : Rt} {x : It} {hv : Value} {hc : List Value} (M : TreeOk lt m iso g) (hmn : mn ≠ 0) (hsz : (rPt g).items.length ≤ 4611686018427387903) (hh : Hn hv hb hc)
    (s : St h0 Z ((tb, 0, hdr iso ctr (rA g) (rPt g).items.length lf mn m) :: (hb, 0, hc) :: (rAll g ++ (A ++ E))) h)
    (H : ∀ (g' : Rt) hc' h', rPt g' = (rPt g).set lt m x → TreeOk lt m iso g' → Hn hv hb hc' → St h0 Z ((tb, 0, hdr iso ctr (rA g') (rPt g').items.length lf mn m) :: (hb, 0, hc') :: (rAll g' ++ (A ++ E))) h' → Q (.tuple #[old (lget lt (rPt g).items x), .bool (lget lt (rPt g).items x).isSome]) h') :
    BTreeG_I_setHint.call #[ptr tb 0, av x, hv] h Q := by
  have key : ∀ g' : Rt, rPt g' = (rPt g).set lt m x → rGd iso g' → TreeOk lt m iso g' := fun g' e gd => by
    obtain ⟨e1, e2⟩ := MT.set_items (x := x) o M.odd M.m3 M.fl M.asc
    exact ⟨gd, by rw [e]; exact e2, by rw [e, e1]; exact asc_lput o M.asc, M.m3, M.m1, M.odd⟩
  cases g with
  | none =>
    refine setHint_first (hb := hb) hmn (E := (hb, 0, hc) :: (A ++ E)) s fun t h' e gd s => ?_
    refine H (some ⟨0, t⟩) hc h' ?_ ?_ hh ?_
    · show some (⟨0, t.pt⟩ : (j : Nat) × PT It j) = some ⟨0, ([x] : List It)⟩; rw [e]
    · refine key (some ⟨0, t⟩) ?_ gd
      show some (⟨0, t.pt⟩ : (j : Nat) × PT It j) = some ⟨0, ([x] : List It)⟩; rw [e]
    · show St h0 Z ((tb, 0, hdr iso ctr (some ⟨t.id, 0, none⟩) t.pt.items.length lf mn m) :: (hb, 0, hc) :: (t.all enc ++ (A ++ E))) h'
      have : t.pt.items.length = 1 := by rw [e]; rfl
      rw [this]; exact s.perm (by ((apply perm_rg; intro f; simp only [List.set_cons_zero, List.set_cons_succ, List.eraseIdx_cons_zero, List.eraseIdx_cons_succ, List.cons_append, List.nil_append, List.map_append, List.map_cons, List.map_nil, List.sum_append, List.sum_cons, List.sum_nil, List.map_flatMap, Nat.add_zero, Nat.zero_add]; ac_rfl)))
  | some t =>
    obtain ⟨k, t⟩ := t
    have s := hdr_cut s
    obtain ⟨s1, back⟩ := St.borrow (A := [(tb, 0, hd0 iso ctr), (tb, 4, hd4 lf mn m)] ++ A) (E := (tb, 2, [ptr t.id 0]) :: (tb, 3, [.int .i64 t.pt.items.length]) :: (hb, 0, hc) :: (t.all enc ++ E)) (s.perm (by
      show (([(tb, 0, hd0 iso ctr), (tb, 4, hd4 lf mn m)] ++ A) ++ ((tb, 2, [ptr t.id 0]) :: (tb, 3, [.int .i64 t.pt.items.length]) :: (hb, 0, hc) :: (t.all enc ++ E))).Perm ((tb, 0, hd0 iso ctr) :: (tb, 4, hd4 lf mn m) :: (tb, 2, [ptr t.id 0]) :: (tb, 3, [.int .i64 t.pt.items.length]) :: (hb, 0, hc) :: (t.all enc ++ (A ++ E)))
      ((apply perm_rg; intro f; simp only [List.set_cons_zero, List.set_cons_succ, List.eraseIdx_cons_zero, List.eraseIdx_cons_succ, List.cons_append, List.nil_append, List.map_append, List.map_cons, List.map_nil, List.sum_append, List.sum_cons, List.sum_nil, List.map_flatMap, Nat.add_zero, Nat.zero_add]; ac_rfl))))
    refine setHint_cut o (hO _ fun r hr => List.mem_append_left _ (List.mem_append_right _ hr)) (List.mem_cons_self ..) (List.mem_cons_of_mem _ (List.mem_cons_self ..)) M.m3 M.m1 M.odd t hh M.fl M.asc hsz M.gd rfl s1 fun g' hc' h' e1 e2 hh s2 => ?_
    refine H (some g') hc' h' e1 (key (some g') e1 e2) hh ?_
    refine hdr_glue ((back _ h' s2).perm ?_)
    show ((tb, 0, hd0 iso ctr) :: (tb, 4, hd4 lf mn m) :: (tb, 2, [ptr g'.2.id 0]) :: (tb, 3, [.int .i64 g'.2.pt.items.length]) :: (hb, 0, hc') :: (g'.2.all enc ++ (A ++ E))).Perm (([(tb, 0, hd0 iso ctr), (tb, 4, hd4 lf mn m)] ++ A) ++ ((tb, 2, [ptr g'.2.id 0]) :: (tb, 3, [.int .i64 g'.2.pt.items.length]) :: (hb, 0, hc') :: (g'.2.all enc ++ E)))
    ((apply perm_rg; intro f; simp only [List.set_cons_zero, List.set_cons_succ, List.eraseIdx_cons_zero, List.eraseIdx_cons_succ, List.cons_append, List.nil_append, List.map_append, List.map_cons, List.map_nil, List.sum_append, List.sum_cons, List.sum_nil, List.map_flatMap, Nat.add_zero, Nat.zero_add]; ac_rfl))
theorem SetHint_ok (o : Swo lt) {A : List Rg} (hO : OrdA A lf lt) {tb m hb : Nat} {iso mn : Int} {ctr : Option Addr} {g : Rt} {x : It} {hv : Value} {hc : List Value} (M : TreeOk lt m iso g) (hmn : mn ≠ 0) (hsz : (rPt g).items.length ≤ 4611686018427387903) (hh : Hn hv hb hc)
    (s : St h0 Z ((tb, 0, hdr iso ctr (rA g) (rPt g).items.length lf mn m) :: (hb, 0, hc) :: (rAll g ++ (A ++ E))) h)
    (H : ∀ (g' : Rt) hc' h', rPt g' = (rPt g).set lt m x → TreeOk lt m iso g' → Hn hv hb hc' → St h0 Z ((tb, 0, hdr iso ctr (rA g') (rPt g').items.length lf mn m) :: (hb, 0, hc') :: (rAll g' ++ (A ++ E))) h' → Q (.tuple #[old (lget lt (rPt g).items x), .bool (lget lt (rPt g).items x).isSome]) h') :
    BTreeG_I_SetHint.call #[ptr tb 0, av x, hv] h Q := by
  refine BTreeG_I_SetHint.body _ _ _ _ _ ?_
  unfold BTreeG_I_SetHint.sh
  refine St.r_box (cs := enc x) s fun t4 h s => ?_
  refine s.r_alloc fun t6 h s => ?_
  refine St.r_loadN0 s 1 rfl (by simp) ?_
  refine setHint_ok o hO M hmn hsz hh (E := (t6, 0, enc emp) :: (t4, 0, enc x) :: E) (s.perm (by ((apply perm_rg; intro f; simp only [List.set_cons_zero, List.set_cons_succ, List.eraseIdx_cons_zero, List.eraseIdx_cons_succ, List.cons_append, List.nil_append, List.map_append, List.map_cons, List.map_nil, List.sum_append, List.sum_cons, List.sum_nil, List.map_flatMap, Nat.add_zero, Nat.zero_add]; ac_rfl)))) fun g' hc' h' e M' hh s => ?_
  have s : St h0 Z ((t6, 0, enc emp) :: (t4, 0, enc x) :: (tb, 0, hdr iso ctr (rA g') (rPt g').items.length lf mn m) :: (hb, 0, hc') :: (rAll g' ++ (A ++ E))) h' := s.perm (by ((apply perm_rg; intro f; simp only [List.set_cons_zero, List.set_cons_succ, List.eraseIdx_cons_zero, List.eraseIdx_cons_succ, List.cons_append, List.nil_append, List.map_append, List.map_cons, List.map_nil, List.sum_append, List.sum_cons, List.sum_nil, List.map_flatMap, Nat.add_zero, Nat.zero_add]; ac_rfl)))
  refine r_ext rfl ?_
  refine r_ext rfl ?_
  refine St.r_storeN0 s 0 rfl rfl (by simp) (enc1 ((lget lt (rPt g).items x).getD emp)) ?_; intro h s
  refine St.r_loadN0 s 0 rfl (by simp) ?_
  refine St.r_storeN0 s 0 rfl rfl (by simp) (enc1 ((lget lt (rPt g).items x).getD emp)) ?_; intro h s
  refine St.r_loadN0 s 0 rfl (by simp) ?_
  exact H g' hc' h e M' hh (s.drop 2)
theorem Set_ok (o : Swo lt) {A : List Rg} (hO : OrdA A lf lt) {tb m : Nat} {iso mn : Int} {ctr : Option Addr} {g : Rt} {x : It} (M : TreeOk lt m iso g) (hmn : mn ≠ 0) (hsz : (rPt g).items.length ≤ 4611686018427387903)
    (s : St h0 Z ((tb, 0, hdr iso ctr (rA g) (rPt g).items.length lf mn m) :: (rAll g ++ (A ++ E))) h)
    (H : ∀ (g' : Rt) h', rPt g' = (rPt g).set lt m x → TreeOk lt m iso g' → St h0 Z ((tb, 0, hdr iso ctr (rA g') (rPt g').items.length lf mn m) :: (rAll g' ++ (A ++ E))) h' → Q (.tuple #[old (lget lt (rPt g).items x), .bool (lget lt (rPt g).items x).isSome]) h') :
    BTreeG_I_Set.call #[ptr tb 0, av x] h Q := by
  refine BTreeG_I_Set.body _ _ _ _ ?_
  unfold BTreeG_I_Set.sh
  refine St.r_box (cs := enc x) s fun t4 h s => ?_
  refine s.r_alloc fun t6 h s => ?_
  refine St.r_loadN0 s 1 rfl (by simp) ?_
  refine SetHint_ok o hO M hmn hsz Hn.none (E := (t6, 0, enc emp) :: (t4, 0, enc x) :: E) ((s.empty 0 0).perm (by ((apply perm_rg; intro f; simp only [List.set_cons_zero, List.set_cons_succ, List.eraseIdx_cons_zero, List.eraseIdx_cons_succ, List.cons_append, List.nil_append, List.map_append, List.map_cons, List.map_nil, List.sum_append, List.sum_cons, List.sum_nil, List.map_flatMap, Nat.add_zero, Nat.zero_add]; ac_rfl)))) fun g' hc' h' e M' hh s => ?_
  have s : St h0 Z ((t6, 0, enc emp) :: (t4, 0, enc x) :: (0, 0, hc') :: (tb, 0, hdr iso ctr (rA g') (rPt g').items.length lf mn m) :: (rAll g' ++ (A ++ E))) h' := s.perm (by ((apply perm_rg; intro f; simp only [List.set_cons_zero, List.set_cons_succ, List.eraseIdx_cons_zero, List.eraseIdx_cons_succ, List.cons_append, List.nil_append, List.map_append, List.map_cons, List.map_nil, List.sum_append, List.sum_cons, List.sum_nil, List.map_flatMap, Nat.add_zero, Nat.zero_add]; ac_rfl)))
  refine r_ext rfl ?_
  refine r_ext rfl ?_
  refine St.r_storeN0 s 0 rfl rfl (by simp) (enc1 ((lget lt (rPt g).items x).getD emp)) ?_; intro h s
  refine St.r_loadN0 s 0 rfl (by simp) ?_
  exact H g' h e M' (s.drop 3)
end Go.Proofs.YtgnnidefbeoibaaGreat.Gi
end
section
namespace Go.Proofs.YtgnnidefbeoibaaGreat.Gi
open Go.Hp Go.Proofs.YtgnnidefbeoibaaGreat
set_option linter.unusedVariables false
set_option linter.unusedSimpArgs false
set_option maxHeartbeats 4000000
variable {h0 h : Heap} {Z E : List Rg} {Q : Value → Heap → Prop} {lf : Value}

def GT.kp : {k : Nat} → GT It k → Value
  | 0, _ => .pointer none
  | _ + 1, t => ptr t.1.kb 0
def GT.rest : {k : Nat} → GT It k → List Rg
  | 0, _ => []
  | _ + 1, t => (t.1.kb, 0, [t.1.kv]) :: (t.1.krb, t.1.kro, ((t.2.map GT.id).map pp).flatMap fv ++ t.1.ksp) :: t.2.flatMap (GT.all enc)
theorem Gd.own {iso : Int} : ∀ {k : Nat} {t : GT It k}, Gd iso t → Own 2 t.nd.iv t.nd.its.length t.nd.ib t.nd.io (t.nd.its.flatMap enc) t.nd.isp
  | 0, _, g => g.wf.1
  | _ + 1, _, g => g.wf.1.1
theorem Gd.iso {iso : Int} : ∀ {k : Nat} {t : GT It k}, Gd iso t → t.nd.iso = iso
  | 0, _, g => g.wf.2.1 g.mine
  | _ + 1, _, g => g.wf.1.2.1 g.mine.1
end Go.Proofs.YtgnnidefbeoibaaGreat.Gi
end
section
namespace Go.Proofs.YtgnnidefbeoibaaGreat.Gi
open Go.Hp Go.Proofs.YtgnnidefbeoibaaGreat
set_option linter.unusedVariables false
set_option linter.unusedSimpArgs false
set_option maxHeartbeats 4000000
variable {h0 h : Heap} {Z E : List Rg} {Q : Value → Heap → Prop} {lf : Value}
attribute [local irreducible] load1 loadN store1 storeN fld nilck lenV idx arith cmpI notV extr mkSl app cpy slc ifV

end Go.Proofs.YtgnnidefbeoibaaGreat.Gi
end
section
namespace Go.Proofs.YtgnnidefbeoibaaGreat.Gi
open Go.Hp Go.Proofs.YtgnnidefbeoibaaGreat
set_option linter.unusedVariables false
set_option linter.unusedSimpArgs false
set_option maxHeartbeats 4000000
variable {h0 h : Heap} {Z E : List Rg} {Q : Value → Heap → Prop} {lt : It → It → Bool} {lf : Value}
attribute [local irreducible] load1 loadN store1 storeN fld nilck lenV idx arith cmpI notV extr mkSl app cpy slc ifV

end Go.Proofs.YtgnnidefbeoibaaGreat.Gi
end
section
namespace Go.Proofs.YtgnnidefbeoibaaGreat.Gi
open Go.Hp Go.Proofs.YtgnnidefbeoibaaGreat
set_option linter.unusedVariables false
set_option linter.unusedSimpArgs false
set_option maxHeartbeats 4000000
variable {h0 h : Heap} {Z E : List Rg} {Q : Value → Heap → Prop} {lt : It → It → Bool} {lf : Value}
attribute [local irreducible] load1 loadN store1 storeN fld nilck lenV idx arith cmpI notV extr mkSl app cpy slc ifV

end Go.Proofs.YtgnnidefbeoibaaGreat.Gi
end
section
namespace Go.Proofs.YtgnnidefbeoibaaGreat.Gi
open Go.Hp Go.Proofs.YtgnnidefbeoibaaGreat
set_option linter.unusedVariables false
set_option linter.unusedSimpArgs false
set_option maxHeartbeats 4000000
variable {h0 h : Heap} {Z E : List Rg} {Q : Value → Heap → Prop} {lt : It → It → Bool} {lf : Value}
attribute [local irreducible] load1 loadN store1 storeN fld nilck lenV idx arith cmpI notV extr mkSl app cpy slc ifV

theorem lock_ok {tb : Nat} {b : Bool} (H : Q (.bool false) h) : BTreeG_I_lock.call #[ptr tb 0, .bool b] h Q := by
  refine BTreeG_I_lock.body _ _ _ _ ?_
  unfold BTreeG_I_lock.sh
  exact H
end Go.Proofs.YtgnnidefbeoibaaGreat.Gi
end
section
namespace Go.Proofs.YtgnnidefbeoibaaGreat.Gi
open Go.Hp Go.Proofs.YtgnnidefbeoibaaGreat
set_option linter.unusedVariables false
set_option linter.unusedSimpArgs false
variable {h0 h : Heap} {Z E : List Rg} {Q : Value → Heap → Prop} {lt : It → It → Bool} {lf : Value}

theorem allZ_leaf {d : Nd It} (hz : ∀ r ∈ GT.all enc (h := 0) d, r ∈ Z) : (d.n, 0, [.int .u64 d.iso, .int .i64 d.cnt, d.iv, .pointer none]) ∈ Z ∧ (d.ib, d.io, d.its.flatMap enc ++ d.isp) ∈ Z := by
  have hz : ∀ r ∈ d.leaf enc, r ∈ Z := hz
  exact ⟨hz _ (List.mem_cons_self ..), hz _ (List.mem_cons_of_mem _ (List.mem_cons_self ..))⟩
theorem allZ_inner {k : Nat} {d : Nd It} {ts : List (GT It k)} (hz : ∀ r ∈ GT.all enc (h := k + 1) (d, ts), r ∈ Z) :
    (d.n, 0, [.int .u64 d.iso, .int .i64 d.cnt, d.iv, ptr d.kb 0]) ∈ Z ∧ (d.ib, d.io, d.its.flatMap enc ++ d.isp) ∈ Z ∧ (d.kb, 0, [d.kv]) ∈ Z ∧ (d.krb, d.kro, (ts.map GT.id).flatMap fp ++ d.ksp) ∈ Z ∧ ∀ c ∈ ts, ∀ r ∈ c.all enc, r ∈ Z := by
  have hz : ∀ r ∈ d.inner enc (ts.map GT.id) ++ ts.flatMap (GT.all enc), r ∈ Z := hz
  have h1 : ∀ r ∈ d.inner enc (ts.map GT.id), r ∈ Z := fun r hr => hz r (List.mem_append.2 (.inl hr))
  refine ⟨h1 _ (List.mem_cons_self ..), h1 _ (List.mem_cons_of_mem _ (List.mem_cons_self ..)), h1 _ (List.mem_cons_of_mem _ (List.mem_cons_of_mem _ (List.mem_cons_self ..))), ?_, fun c hc r hr => hz r (List.mem_append.2 (.inr (List.mem_flatMap.2 ⟨c, hc, hr⟩)))⟩
  have := h1 _ (List.mem_cons_of_mem _ (List.mem_cons_of_mem _ (List.mem_cons_of_mem _ (List.mem_cons_self ..))))
  rw [mfp] at this; exact this
/-- The kid's cell. -/
theorem kidcell {k : Nat} {ts : List (GT It k)} {krb kro i : Nat} {ksp : List Value} {c : GT It k} (hk : (krb, kro, (ts.map GT.id).flatMap fp ++ ksp) ∈ Z) (hc : ts[i]? = some c) (s : St h0 Z E h) : cl h krb (kro + i * 1) = some (ptr c.id 0) := by
  have hi : i < (ts.map GT.id).length := by rw [List.length_map]; exact (List.getElem?_eq_some_iff.1 hc).1
  refine s.clz hk (i * 1) rfl ?_
  rw [List.getElem?_append_left (by rw [flat_len fpl]; omega)]
  have := flat_get (f := fp) fpl (ts.map GT.id) i hi 0 (by decide)
  rw [Nat.add_zero] at this
  rw [this]
  have e : (ts.map GT.id)[i] = c.id := by
    have : (ts.map GT.id)[i]? = some c.id := by rw [List.getElem?_map, hc]; rfl
    exact (List.getElem?_eq_some_iff.1 this).2
  rw [e]; rfl

/-- The tree's own cell of its number stays. -/
def Iso (Z : List Rg) (tb : Nat) (iso : Int) : Prop := ∃ xs, (tb, 0, xs) ∈ Z ∧ xs[0]? = some (.int .u64 iso)
theorem Iso.at {tb : Nat} {iso : Int} (i : Iso Z tb iso) (s : St h0 Z E h) : cl h tb 0 = some (.int .u64 iso) := by
  obtain ⟨xs, h1, h2⟩ := i; exact s.clz h1 0 rfl h2
theorem nodeItems_ok {mu : Bool} {m tb : Nat} {iso : Int} (hm : m ≤ 1024) (hi : Iso Z tb iso) : ∀ {k : Nat} (t : GT It k) {lo : Nat} (g : Gd iso t) (fl : t.pt.Fl m lo) (hz : ∀ r ∈ t.all enc, r ∈ Z) {L : List It} {v : Value} {b o pb po : Nat} {sp : List Value} {E : List Rg} {h : Heap} {Q : Value → Heap → Prop},
    L.length + t.pt.items.length ≤ 4294967295 → cl h pb po = some (ptr t.id 0) → Own 2 v L.length b o (L.flatMap enc) sp → St h0 Z ((b, o, L.flatMap enc ++ sp) :: E) h →
    (∀ v' b' o' sp' h', Own 2 v' (L ++ t.pt.items).length b' o' ((L ++ t.pt.items).flatMap enc) sp' → St h0 Z ((b', o', (L ++ t.pt.items).flatMap enc ++ sp') :: E) h' → Q v' h') → BTreeG_I_nodeItems.call #[ptr tb 0, ptr pb po, v, .bool mu] h Q
  | 0, (d : Nd It), lo, g, fl, hz, L, v, b, o, pb, po, sp, E, h, Q, hN, hp, wv, s, H => by
    have hii : d.iso = iso := Gd.iso (k := 0) (t := d) g
    obtain ⟨own, n, is', cnt, its, iv, ib, io, isp, kb, kv', krb, kro, ksp⟩ := d
    obtain ⟨z1, z2⟩ := allZ_leaf hz
    have w : Own 2 iv its.length ib io (its.flatMap enc) isp := g.wf.1
    have hl : its.length ≤ m := fl.2
    have hN : L.length + its.length ≤ 4294967295 := hN
    have H : ∀ v' b' o' sp' h', Own 2 v' (L ++ its).length b' o' ((L ++ its).flatMap enc) sp' → St h0 Z ((b', o', (L ++ its).flatMap enc ++ sp') :: E) h' → Q v' h' := H
    refine BTreeG_I_nodeItems.body _ _ _ _ _ _ ?_
    unfold BTreeG_I_nodeItems.sh
    refine isoLoad_ok (n := n) (hi.at s) hp (fun _ => s.clz z1 0 rfl (by rw [← hii]; rfl)) ?_
    refine node_leaf_ok (a := none) (s.clz z1 3 rfl rfl) ?_
    refine r_if (fun _ => ?_) (fun e => absurd e (by simp))
    refine r_nil ?_
    refine r_fld ?_
    refine s.r_lz0 z1 (j := 2) rfl ?_
    refine s.r_appL (f := enc) (L := L) (M := its) 0 rfl wv rfl (w.rdlO (s.z _ z2)) (fun _ _ => enc1 _) (by omega) (by omega) fun v' b' o' sp' h s w' => ?_
    exact H v' b' o' sp' h w' s
  | k + 1, t, lo, g, fl, hz, L, v, b, o, pb, po, sp, E, h, Q, hN, hp, wv, s, H => by
    have hii : t.nd.iso = iso := Gd.iso g
    obtain ⟨d, ts⟩ := t
    obtain ⟨own, n, is', cnt, its, iv, ib, io, isp, kb, kv', krb, kro, ksp⟩ := d
    obtain ⟨z1, z2, z3, z4, z5⟩ := allZ_inner hz
    have w : Own 2 iv its.length ib io (its.flatMap enc) isp := g.wf.1.1
    have wK : Own 1 kv' ts.length krb kro ((ts.map GT.id).map fun m => ptr m 0) ksp := g.wf.2.1
    have hkl : ts.length = its.length + 1 := g.wf.2.2.1
    have hl : its.length ≤ m := fl.2.1
    have hpl : ∀ i, ((ts.take i).map fun t => t.pt.items) = (((ts.map GT.pt).take i).map PT.items) := fun i => by rw [← List.map_take, List.map_map]; rfl
    have hsplit : ∀ i (hi : i ≤ its.length) c, ts[i]? = some c → PT.items (h := k + 1) (its, ts.map GT.pt) = lz (its.take i) ((ts.take i).map fun t => t.pt.items) ++ (c.pt.items ++ rz (its.drop i) (((ts.map GT.pt).drop (i + 1)).map PT.items)) := by
      intro i hi c hc
      obtain ⟨c', hc', _, e⟩ := PT.around (t := ((its, ts.map GT.pt) : PT It (k + 1))) fl hi
      have hc' : (ts.map GT.pt)[i]? = some c' := hc'
      rw [List.getElem?_map, hc] at hc'
      have : c' = c.pt := (Option.some.inj hc').symm
      subst this
      rw [hpl]; exact e
    have hN : L.length + (PT.items (h := k + 1) (its, ts.map GT.pt)).length ≤ 4294967295 := hN
    have H : ∀ v' b' o' sp' h', Own 2 v' (L ++ PT.items (h := k + 1) (its, ts.map GT.pt)).length b' o' ((L ++ PT.items (h := k + 1) (its, ts.map GT.pt)).flatMap enc) sp' → St h0 Z ((b', o', (L ++ PT.items (h := k + 1) (its, ts.map GT.pt)).flatMap enc ++ sp') :: E) h' → Q v' h' := H
    refine BTreeG_I_nodeItems.body _ _ _ _ _ _ ?_
    unfold BTreeG_I_nodeItems.sh
    refine isoLoad_ok (n := n) (hi.at s) hp (fun _ => s.clz z1 0 rfl (by rw [← hii]; rfl)) ?_
    refine node_leaf_ok (a := some ⟨kb, 0, Option.none⟩) (s.clz z1 3 rfl rfl) ?_
    refine r_if (fun e => absurd e (by simp)) (fun _ => ?_)
    unfold BTreeG_I_nodeItems.j1
    refine loop_ghost (fun q st h => ∃ j v b o sp, q = its.length - j ∧ j ≤ its.length ∧ st = [v, .int .i64 (j : Nat)] ∧ Own 2 v (L ++ lz (its.take j) ((ts.take j).map fun t => t.pt.items)).length b o ((L ++ lz (its.take j) ((ts.take j).map fun t => t.pt.items)).flatMap enc) sp ∧ St h0 Z ((b, o, (L ++ lz (its.take j) ((ts.take j).map fun t => t.pt.items)).flatMap enc ++ sp) :: E) h)
      (n0 := its.length) ⟨0, v, b, o, sp, rfl, Nat.zero_le _, rfl, by simpa [lz] using wv, by simpa [lz] using s⟩ ?_
    clear s
    rintro q st h ⟨j, v, b, o, sp, rfl, hj, rfl, wv, s⟩ K HK
    obtain ⟨c, hc⟩ : ∃ c, ts[j]? = some c := ⟨ts[j]'(by omega), List.getElem?_eq_getElem (by omega)⟩
    have hcm := List.mem_of_getElem? hc
    have hfc : PT.Fl m (m / 2) c.pt := fl.2.2.2 _ (List.mem_map.2 ⟨c, hcm, rfl⟩)
    have hs := hsplit j hj c hc
    have hsl := congrArg List.length hs
    simp only [List.length_append] at hsl
    unfold BTreeG_I_nodeItems.l3.b
    refine r_nil ?_
    refine r_fld ?_
    refine s.r_lz0 z1 (j := 2) rfl ?_
    refine w.lenV ?_
    refine r_cmpI ?_
    refine r_if (fun hlt => ?_) (fun hge => ?_)
    · have hlt : j < its.length := by simpa using hlt
      have hx : its[j]? = some its[j] := List.getElem?_eq_getElem hlt
      have et : its.take (j + 1) = its.take j ++ [its[j]] := List.take_succ_eq_append_getElem hlt
      have ek : ts.take (j + 1) = ts.take j ++ [c] := by rw [List.take_add_one, hc]; rfl
      have ez : lz (its.take (j + 1)) ((ts.take (j + 1)).map fun t => t.pt.items) = lz (its.take j) ((ts.take j).map fun t => t.pt.items) ++ (c.pt.items ++ [its[j]]) := by
        rw [et, ek, List.map_append, List.map_cons, List.map_nil, lz_snoc _ _ _ _ (by simp; omega)]
      obtain ⟨rest, hrest⟩ : ∃ rest, rz (its.drop j) (((ts.map GT.pt).drop (j + 1)).map PT.items) = its[j] :: rest := by
        have e1 : its.drop j = its[j] :: its.drop (j + 1) := List.drop_eq_getElem_cons hlt
        have e2 : (ts.map GT.pt).drop (j + 1) = (ts.map GT.pt)[j + 1]'(by simp; omega) :: (ts.map GT.pt).drop (j + 1 + 1) := List.drop_eq_getElem_cons (by simp; omega)
        rw [e1, e2, List.map_cons, rz_cons]; exact ⟨_, rfl⟩
      rw [hrest, List.length_cons] at hsl
      unfold BTreeG_I_nodeItems.j4
      refine r_nil ?_
      refine r_fld ?_
      refine s.r_lz0 z1 (j := 3) rfl ?_
      refine r_nil ?_
      refine s.r_lz0 z3 (j := 0) rfl ?_
      refine wK.idx (n := j) rfl (by omega) ?_
      refine nodeItems_ok hm hi c (g.kid hcm) hfc (z5 c hcm) (by rw [List.length_append]; omega) (kidcell z4 hc s) wv s fun v2 b2 o2 sp2 h s2 s => ?_
      refine r_nil ?_
      refine r_fld ?_
      refine s.r_lz0 z1 (j := 2) rfl ?_
      refine w.idx (n := j) rfl hlt ?_
      refine s.r_loadFZ encl z2 hx ?_
      refine St.r_mkSl (sz := 2) (cs := enc its[j]) s (by ((simp only [fillV, fill1, Value.cells, zeros_succ, zeros_zero, List.size_toArray, List.length_cons, List.length_nil, List.length_append, List.take_succ_cons, List.take_zero, List.take_nil, List.drop_succ_cons, List.drop_zero, List.drop_nil, List.cons_append, List.nil_append, List.append_nil, Nat.reduceAdd, Nat.reduceMul, Nat.reduceLeDiff, Nat.reduceEqDiff, and_self, and_true, true_and, if_true, Nat.le_refl, Nat.zero_add, Nat.add_zero, Nat.zero_mul, reduceIte, if_false] <;> rfl))) rfl fun q h s w1 => ?_
      refine St.r_app s 1 (sz := 2) (n := 1) (new := enc its[j]) rfl s2 rfl (w1.rdl s 0 rfl) (enc1 _) (by simp only [List.length_append]; omega) (by simp only [List.length_append]; omega) fun v' b' o' sp' h s w' => ?_
      rw [snoc_enc] at s w'
      have e9 : (L ++ lz (its.take j) ((ts.take j).map fun t => t.pt.items) ++ c.pt.items) ++ [its[j]] = L ++ lz (its.take (j + 1)) ((ts.take (j + 1)).map fun t => t.pt.items) := by
        rw [ez]; simp
      have w' : Own 2 v' ((L ++ lz (its.take j) ((ts.take j).map fun t => t.pt.items) ++ c.pt.items) ++ [its[j]]).length b' o' (((L ++ lz (its.take j) ((ts.take j).map fun t => t.pt.items) ++ c.pt.items) ++ [its[j]]).flatMap enc) sp' := by rw [List.length_append]; exact w'
      rw [e9] at s w'
      unfold BTreeG_I_nodeItems.j5
      refine r_add (z := ((j + 1 : Nat) : Int)) (by rw [i64w (by omega) (by omega)]; omega) ?_
      exact HK (its.length - (j + 1)) _ _ (by omega) ⟨j + 1, v', b', o', sp', rfl, hlt, rfl, w', s.drop 1⟩
    · have hge : j = its.length := by simp at hge; omega
      subst hge
      have hr0 : rz (its.drop its.length) (((ts.map GT.pt).drop (its.length + 1)).map PT.items) = [] := by rw [List.drop_length]; rfl
      rw [hr0, List.append_nil] at hs
      unfold BTreeG_I_nodeItems.j2
      refine r_nil ?_
      refine r_fld ?_
      refine s.r_lz0 z1 (j := 3) rfl ?_
      refine r_nil ?_
      refine s.r_lz0 z3 (j := 0) rfl ?_
      refine r_nil ?_
      refine r_fld ?_
      refine s.r_lz0 z1 (j := 3) rfl ?_
      refine r_nil ?_
      refine s.r_lz0 z3 (j := 0) rfl ?_
      refine wK.lenV ?_
      refine r_sub (z := ((its.length : Nat) : Int)) (by rw [i64w (by omega) (by omega)]; omega) ?_
      refine wK.idx (n := its.length) rfl (by omega) ?_
      refine nodeItems_ok hm hi c (g.kid hcm) hfc (z5 c hcm) (by rw [List.length_append]; omega) (kidcell z4 hc s) wv s fun v2 b2 o2 sp2 h s2 s => ?_
      have e9 : L ++ lz (its.take its.length) ((ts.take its.length).map fun t => t.pt.items) ++ c.pt.items = L ++ PT.items (h := k + 1) (its, ts.map GT.pt) := by rw [hs]; simp
      rw [e9] at s s2
      exact H v2 b2 o2 sp2 h s2 s

theorem itemsB_ok {mu : Bool} {g : Rt} {tb m : Nat} {iso mn mx : Int} {ctr : Option Addr} (M : TreeOk lt m iso g) (hl : (rPt g).items.length ≤ 4294967295) (s : St h0 Z (((tb, 0, hdr iso ctr (rA g) (rPt g).items.length lf mn mx) :: rAll g) ++ E) h)
    (H : ∀ v b o sp h', Own 2 v (rPt g).items.length b o ((rPt g).items.flatMap enc) sp → St h0 Z ((b, o, (rPt g).items.flatMap enc ++ sp) :: (((tb, 0, hdr iso ctr (rA g) (rPt g).items.length lf mn mx) :: rAll g) ++ E)) h' → Q v h') :
    BTreeG_I_items.call #[ptr tb 0, .bool mu] h Q := by
  refine BTreeG_I_items.body _ _ _ _ ?_
  unfold BTreeG_I_items.sh
  refine lock_ok ?_
  refine r_if (fun e => absurd e (by simp)) (fun _ => ?_)
  unfold BTreeG_I_items.j1
  refine BTreeG_I_Len.body _ _ _ ?_
  unfold BTreeG_I_Len.sh
  have s : St h0 Z ((tb, 0, hdr iso ctr (rA g) (rPt g).items.length lf mn mx) :: (rAll g ++ E)) h := s
  refine r_nil ?_
  refine r_fld ?_
  refine St.r_load0 s 0 rfl rfl ?_
  refine s.r_mks (n := 0) (sz := 2) rfl (by omega) (by omega) (by omega) fun v b h s w => ?_
  rw [zeros_zero] at s w
  refine r_nil ?_
  refine r_fld ?_
  refine St.r_load0 s 1 rfl rfl ?_
  refine r_neNilP ?_
  cases g with
  | none =>
    refine r_if (fun e => absurd e (by simp [rA])) (fun _ => ?_)
    unfold BTreeG_I_items.j2
    exact H _ b 0 _ h w s
  | some t =>
    refine r_if (fun _ => ?_) (fun e => absurd e (by simp [rA]))
    refine r_nil ?_
    refine r_fld ?_
    have s0 : St h0 Z (((tb, 0, hdr iso ctr (rA (some t)) (rPt (some t)).items.length lf mn mx) :: rAll (some t)) ++ ((b, 0, ([] : List It).flatMap enc ++ zeros [.int .i64 0, .int .i64 0] ((rPt (some t)).items.length - 0)) :: E)) h := s.perm (by ((apply perm_rg; intro f; simp only [List.set_cons_zero, List.set_cons_succ, List.eraseIdx_cons_zero, List.eraseIdx_cons_succ, List.cons_append, List.nil_append, List.map_append, List.map_cons, List.map_nil, List.sum_append, List.sum_cons, List.sum_nil, List.map_flatMap, Nat.add_zero, Nat.zero_add]; ac_rfl)))
    obtain ⟨s1, back⟩ := s0.borrow
    refine nodeItems_ok M.m1 ⟨_, List.mem_cons_self .., rfl⟩ t.2 M.gd M.fl (fun r hr => List.mem_append.2 (.inl (List.mem_cons_of_mem _ hr))) (L := []) (by rw [List.length_nil, Nat.zero_add]; exact hl) (s1.clz (List.mem_cons_self ..) 2 rfl rfl) w s1 fun v' b' o' sp' h' w' s => ?_
    have s := back _ h' s
    unfold BTreeG_I_items.j2
    exact H v' b' o' sp' h' w' (s.perm (by ((apply perm_rg; intro f; simp only [List.set_cons_zero, List.set_cons_succ, List.eraseIdx_cons_zero, List.eraseIdx_cons_succ, List.cons_append, List.nil_append, List.map_append, List.map_cons, List.map_nil, List.sum_append, List.sum_cons, List.sum_nil, List.map_flatMap, Nat.add_zero, Nat.zero_add]; ac_rfl))))
theorem Items_ok {g : Rt} {tb m : Nat} {iso mn mx : Int} {ctr : Option Addr} (M : TreeOk lt m iso g) (hl : (rPt g).items.length ≤ 4294967295) (s : St h0 Z (((tb, 0, hdr iso ctr (rA g) (rPt g).items.length lf mn mx) :: rAll g) ++ E) h)
    (H : ∀ v b o sp h', Own 2 v (rPt g).items.length b o ((rPt g).items.flatMap enc) sp → St h0 Z ((b, o, (rPt g).items.flatMap enc ++ sp) :: (((tb, 0, hdr iso ctr (rA g) (rPt g).items.length lf mn mx) :: rAll g) ++ E)) h' → Q v h') :
    BTreeG_I_Items.call #[ptr tb 0] h Q := by
  refine BTreeG_I_Items.body _ _ _ ?_
  unfold BTreeG_I_Items.sh
  exact itemsB_ok M hl s H
theorem Len_ok {tb : Nat} {v : Value} (hv : cl h tb 3 = some v) (H : Q v h) : BTreeG_I_Len.call #[ptr tb 0] h Q := by
  refine BTreeG_I_Len.body _ _ _ ?_
  unfold BTreeG_I_Len.sh
  have s := St.start h
  refine r_nil ?_
  refine r_fld ?_
  refine s.r_loadB hv ?_
  exact H
end Go.Proofs.YtgnnidefbeoibaaGreat.Gi
end
section
namespace Go.Proofs.YtgnnidefbeoibaaGreat.Gi
open Go.Hp Go.Proofs.YtgnnidefbeoibaaGreat
set_option linter.unusedVariables false
set_option linter.unusedSimpArgs false
variable {h0 h : Heap} {Z E : List Rg} {Q : Value → Heap → Prop} {lt : It → It → Bool} {lf : Value}

theorem isoLoad_rd {tr : Value} {pb po n : Nat} (hp : cl h pb po = some (ptr n 0)) (H : Q (ptr n 0) h) : BTreeG_I_isoLoad.call #[tr, ptr pb po, .bool false] h Q := by
  refine BTreeG_I_isoLoad.body _ _ _ _ _ ?_
  unfold BTreeG_I_isoLoad.sh
  refine r_br (fun e => absurd e (by decide)) (fun _ => ?_)
  unfold BTreeG_I_isoLoad.j1
  refine r_nil ?_
  exact r_ld hp H
end Go.Proofs.YtgnnidefbeoibaaGreat.Gi
end
