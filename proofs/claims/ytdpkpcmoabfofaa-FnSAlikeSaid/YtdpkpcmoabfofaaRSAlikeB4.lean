/-
  Texts of this claim, laid together: S8 S9 K0Iu KaIu KbIu KcIu KdIu KeIu KfIu KqIu.
  Conditions: as each of them tells.
-/
import Derived.Test.YtdpkpcmoabfofaaRSAlikeB3
set_option linter.unusedVariables false
set_option linter.unusedSimpArgs false
open List (set_cons_zero set_cons_succ eraseIdx_cons_zero eraseIdx_cons_succ cons_append nil_append map_append map_cons map_flatMap map_nil flatMap_cons flatMap_append flatMap_nil append_nil append_assoc length_cons length_nil length_append take_succ_cons drop_succ_cons take_zero drop_zero take_nil drop_nil size_toArray length_map)
section
namespace Go.Proofs.Ytdpkpcmoabfofaa
open Go.Hp
set_option maxRecDepth 100000
set_option maxHeartbeats 8000000
/-! ### (*pub/tidwallbtree.Map[int, struct{}]).DeleteAt -/
def Map_iu_DeleteAt.j4 (s0 s5 : Value) (h : Heap) (Q : Value → Heap → Prop) : Prop := nilck s0 fun b=>fld 4 b fun d=>fld 0 d fun g=>load1 g h fun i=>nilck s0 fun j=>fld 4 j fun k=>fldZ Try.prog 0 k h fun l=>loadN 0 l h fun m=>storeN 0 s5 m h fun h=>loadN 0 s5 h fun n=>Q (.tuple #[i, n, (.bool false)]) h
def Map_iu_DeleteAt.j3 (s0 s5 s9 : Value) (h : Heap) (Q : Value → Heap → Prop) : Prop := fld 0 s9 fun b=>load1 b h fun d=>Map_iu_Delete.call #[s0, d] h fun g h=>extr 0 g fun i=>extr 1 g fun j=>alloc [] 145 h fun k h=>storeN 0 k i h fun h=>ifV j (fld 0 s9 fun l=>load1 l h fun m=>loadN 0 k h fun n=>storeN 0 s5 n h fun h=>loadN 0 s5 h fun o=>Q (.tuple #[m, o, (.bool true)]) h) (Map_iu_DeleteAt.j4 s0 s5 h Q)
def Map_iu_DeleteAt.j7 (s0 s5 s8 s9 s10 s12 : Value) (h : Heap) (K1 : List Value → Heap → Prop) (Q : Value → Heap → Prop) : Prop := arith (· + ·) s12 (.int .i64 1) fun b=>K1 [s10, b] h
def Map_iu_DeleteAt.j6 (s0 s5 s8 s9 s10 s12 : Value) (h : Heap) (K1 : List Value → Heap → Prop) (Q : Value → Heap → Prop) : Prop := nilck s10 fun b=>fld 1 b fun d=>load1 d h fun g=>arith (· + ·) g (.int .i64 1) fun i=>nilck s10 fun j=>fld 1 j fun k=>store1 k i h fun h=>mapNode_iu_leaf.call #[s10] h fun l h=>notV l fun m=>ifV m (nilck s10 fun n=>fld 3 n fun o=>load1 o h fun p=>nilck p fun q=>load1 q h fun u=>idx 1 s8 s12 fun v=>load1 v h fun w=>idx 1 u w fun x=>load1 x h fun y=>Map_iu_DeleteAt.j7 s0 s5 s8 s9 y s12 h K1 Q) (Map_iu_DeleteAt.j7 s0 s5 s8 s9 s10 s12 h K1 Q)
def Map_iu_DeleteAt.l5.b (c0 c5 c8 c9 s10 s12 : Value) (h : Heap) (K1 : List Value → Heap → Prop) (Q : Value → Heap → Prop) : Prop := lenV c8 fun b=>cmpI (fun a b=>decide (a < b)) s12 b fun d=>ifV d (Map_iu_DeleteAt.j6 c0 c5 c8 c9 s10 s12 h K1 Q) (Map_iu_DeleteAt.j3 c0 c5 c9 h Q)
def Map_iu_DeleteAt.j2 (s0 s5 s8 s9 : Value) (h : Heap) (Q : Value → Heap → Prop) : Prop := nilck s0 fun b=>fld 2 b fun d=>load1 d h fun g=>loopC (fun c s h K1=>Map_iu_DeleteAt.l5.b (c.getD 0 undef) (c.getD 1 undef) (c.getD 2 undef) (c.getD 3 undef) (s.getD 0 undef) (s.getD 1 undef) h K1 Q) [s0, s5, s8, s9] [g, (.int .i64 0)] h
def Map_iu_DeleteAt.j10 (s0 s1 s5 s8 s9 s10 s11 : Value) (h : Heap) (K1 : List Value → Heap → Prop) (Q : Value → Heap → Prop) : Prop := cvI .u8 s11 fun b=>mkSl (if 1 * 1 = 0 then [] else zeros [(.int .u8 0)] 1) 1 [(0 * 1, 1, b)] 5 h fun d h=>app 5 1 1 [(.int .u8 0)] s8 d h fun g h=>nilck s10 fun i=>fld 3 i fun j=>load1 j h fun k=>nilck k fun l=>load1 l h fun m=>idx 1 m s11 fun n=>Map_iu_isoLoad.call #[s0, n, (.bool true)] h fun o h=>K1 [s1, g, o] h
def Map_iu_DeleteAt.j13 (s0 s1 s5 s8 s9 s10 s11 : Value) (h : Heap) (K1 : List Value → Heap → Prop) (K2 : List Value → Heap → Prop) (Q : Value → Heap → Prop) : Prop := arith (· + ·) s11 (.int .i64 1) fun b=>K2 [s1, s8, b] h
def Map_iu_DeleteAt.j14 (s0 s1 s5 s8 s9 s10 s11 : Value) (h : Heap) (K1 : List Value → Heap → Prop) (K2 : List Value → Heap → Prop) (Q : Value → Heap → Prop) : Prop := nilck s10 fun b=>fld 3 b fun d=>load1 d h fun g=>nilck g fun i=>load1 i h fun j=>idx 1 j s11 fun k=>load1 k h fun l=>nilck l fun m=>fld 1 m fun n=>load1 n h fun o=>arith (· + ·) o (.int .i64 1) fun p=>arith (· - ·) s1 p fun q=>Map_iu_DeleteAt.j13 s0 q s5 s8 s9 s10 s11 h K1 K2 Q
def Map_iu_DeleteAt.j12 (s0 s1 s5 s8 s9 s10 s11 : Value) (h : Heap) (K1 : List Value → Heap → Prop) (K2 : List Value → Heap → Prop) (Q : Value → Heap → Prop) : Prop := nilck s10 fun b=>fld 3 b fun d=>load1 d h fun g=>nilck g fun i=>load1 i h fun j=>idx 1 j s11 fun k=>load1 k h fun l=>nilck l fun m=>fld 1 m fun n=>load1 n h fun o=>cmpI (fun a b=>decide (a < b)) s1 o fun p=>ifV p (Map_iu_DeleteAt.j10 s0 s1 s5 s8 s9 s10 s11 h K1 Q) (nilck s10 fun q=>fld 3 q fun u=>load1 u h fun v=>nilck v fun w=>load1 w h fun x=>idx 1 x s11 fun y=>load1 y h fun z=>nilck z fun b0=>fld 1 b0 fun b1=>load1 b1 h fun b2=>cmpI (fun a b=>a == b) s1 b2 fun b3=>ifV b3 (nilck s10 fun b4=>fld 2 b4 fun b5=>load1 b5 h fun b6=>idx 1 b6 s11 fun b7=>loadN 1 b7 h fun b8=>storeN 1 s9 b8 h fun h=>cvI .u8 s11 fun b9=>mkSl (if 1 * 1 = 0 then [] else zeros [(.int .u8 0)] 1) 1 [(0 * 1, 1, b9)] 5 h fun d0 h=>app 5 1 1 [(.int .u8 0)] s8 d0 h fun d1 h=>Map_iu_DeleteAt.j2 s0 s5 d1 s9 h Q) (Map_iu_DeleteAt.j14 s0 s1 s5 s8 s9 s10 s11 h K1 K2 Q))
def Map_iu_DeleteAt.l11.b (c0 c5 c9 c10 s1 s8 s11 : Value) (h : Heap) (K1 : List Value → Heap → Prop) (K2 : List Value → Heap → Prop) (Q : Value → Heap → Prop) : Prop := nilck c10 fun b=>fld 2 b fun d=>load1 d h fun g=>lenV g fun i=>cmpI (fun a b=>decide (a < b)) s11 i fun j=>ifV j (Map_iu_DeleteAt.j12 c0 s1 c5 s8 c9 c10 s11 h K1 K2 Q) (Map_iu_DeleteAt.j10 c0 s1 c5 s8 c9 c10 s11 h K1 Q)
def Map_iu_DeleteAt.j9 (s0 s1 s5 s8 s9 s10 : Value) (h : Heap) (K1 : List Value → Heap → Prop) (Q : Value → Heap → Prop) : Prop := loopC (fun c s h K2=>Map_iu_DeleteAt.l11.b (c.getD 0 undef) (c.getD 1 undef) (c.getD 2 undef) (c.getD 3 undef) (s.getD 0 undef) (s.getD 1 undef) (s.getD 2 undef) h K1 K2 Q) [s0, s5, s9, s10] [s1, s8, (.int .i64 0)] h
def Map_iu_DeleteAt.j16 (s5 s9 : Value) (h : Heap) (K1 : List Value → Heap → Prop) (Q : Value → Heap → Prop) : Prop := fld 0 s9 fun b=>load1 b h fun d=>fldZ Try.prog 0 s9 h fun g=>loadN 0 g h fun i=>storeN 0 s5 i h fun h=>loadN 0 s5 h fun j=>Q (.tuple #[d, j, (.bool true)]) h
def Map_iu_DeleteAt.j15 (s0 s1 s5 s9 s10 : Value) (h : Heap) (K1 : List Value → Heap → Prop) (Q : Value → Heap → Prop) : Prop := nilck s10 fun b=>fld 2 b fun d=>load1 d h fun g=>slc 1 g (some s1) none none fun i=>nilck s10 fun j=>fld 2 j fun k=>load1 k h fun l=>arith (· + ·) s1 (.int .i64 1) fun m=>slc 1 l (some m) none none fun n=>cpy 1 i n h fun o h=>nilck s10 fun p=>fld 2 p fun q=>load1 q h fun u=>nilck s10 fun v=>fld 2 v fun w=>load1 w h fun x=>lenV x fun y=>arith (· - ·) y (.int .i64 1) fun z=>nilck s0 fun b0=>fld 4 b0 fun b1=>loadN 1 b1 h fun b2=>idx 1 u z fun b3=>storeN 1 b3 b2 h fun h=>nilck s10 fun b4=>fld 2 b4 fun b5=>load1 b5 h fun b6=>nilck s10 fun b7=>fld 2 b7 fun b8=>load1 b8 h fun b9=>lenV b9 fun d0=>arith (· - ·) d0 (.int .i64 1) fun d1=>slc 1 b6 none (some d1) none fun d2=>nilck s10 fun d3=>fld 2 d3 fun d4=>store1 d4 d2 h fun h=>nilck s0 fun d5=>fld 3 d5 fun d6=>load1 d6 h fun d7=>arith (· - ·) d7 (.int .i64 1) fun d8=>nilck s0 fun d9=>fld 3 d9 fun g0=>store1 g0 d8 h fun h=>nilck s0 fun g1=>fld 3 g1 fun g2=>load1 g2 h fun g3=>cmpI (fun a b=>a == b) g3 (.int .i64 0) fun g4=>ifV g4 (nilck s0 fun g5=>fld 2 g5 fun g6=>store1 g6 (.pointer none) h fun h=>Map_iu_DeleteAt.j16 s5 s9 h K1 Q) (Map_iu_DeleteAt.j16 s5 s9 h K1 Q)
def Map_iu_DeleteAt.l8.b (c0 c5 c9 s1 s8 s10 : Value) (h : Heap) (K1 : List Value → Heap → Prop) (Q : Value → Heap → Prop) : Prop := nilck s10 fun b=>fld 1 b fun d=>load1 d h fun g=>arith (· - ·) g (.int .i64 1) fun i=>nilck s10 fun j=>fld 1 j fun k=>store1 k i h fun h=>mapNode_iu_leaf.call #[s10] h fun l h=>ifV l (nilck s10 fun m=>fld 2 m fun n=>load1 n h fun o=>idx 1 o s1 fun p=>loadN 1 p h fun q=>storeN 1 c9 q h fun h=>nilck s10 fun u=>fld 2 u fun v=>load1 v h fun w=>lenV w fun x=>nilck c0 fun y=>fld 5 y fun z=>load1 z h fun b0=>cmpI (fun a b=>a == b) x b0 fun b1=>ifV b1 (cvI .u8 s1 fun b2=>mkSl (if 1 * 1 = 0 then [] else zeros [(.int .u8 0)] 1) 1 [(0 * 1, 1, b2)] 5 h fun b3 h=>app 5 1 1 [(.int .u8 0)] s8 b3 h fun b4 h=>Map_iu_DeleteAt.j2 c0 c5 b4 c9 h Q) (Map_iu_DeleteAt.j15 c0 s1 c5 c9 s10 h K1 Q)) (Map_iu_DeleteAt.j9 c0 s1 c5 s8 c9 s10 h K1 Q)
def Map_iu_DeleteAt.j1 (s0 s1 s5 : Value) (h : Heap) (Q : Value → Heap → Prop) : Prop := alloc [(.int .u8 0), (.int .u8 0), (.int .u8 0), (.int .u8 0), (.int .u8 0), (.int .u8 0), (.int .u8 0), (.int .u8 0)] 255 h fun b h=>slcA 8 1 b none (some (.int .i64 0)) fun d=>alloc [(.int .i64 0)] 147 h fun g h=>nilck s0 fun i=>fld 2 i fun j=>Map_iu_isoLoad.call #[s0, j, (.bool true)] h fun k h=>loopC (fun c s h K1=>Map_iu_DeleteAt.l8.b (c.getD 0 undef) (c.getD 1 undef) (c.getD 2 undef) (s.getD 0 undef) (s.getD 1 undef) (s.getD 2 undef) h K1 Q) [s0, s5, g] [s1, d, k] h
def Map_iu_DeleteAt.sh (a0 a1 : Value) (h : Heap) (Q : Value → Heap → Prop) : Prop := alloc [] 145 h fun b h=>nilck a0 fun d=>fld 2 d fun g=>load1 g h fun i=>eqNilP i fun j=>br j false (cmpI (fun a b=>decide (a < b)) a1 (.int .i64 0) fun k=>br k false (nilck a0 fun l=>fld 3 l fun m=>load1 m h fun n=>cmpI (fun a b=>decide (a ≥ b)) a1 n fun o=>ifV o (nilck a0 fun p=>fld 4 p fun q=>fld 0 q fun u=>load1 u h fun v=>nilck a0 fun w=>fld 4 w fun x=>fldZ Try.prog 0 x h fun y=>loadN 0 y h fun z=>storeN 0 b z h fun h=>loadN 0 b h fun b0=>Q (.tuple #[v, b0, (.bool false)]) h) (Map_iu_DeleteAt.j1 a0 a1 b h Q)) (nilck a0 fun b1=>fld 4 b1 fun b2=>fld 0 b2 fun b3=>load1 b3 h fun b4=>nilck a0 fun b5=>fld 4 b5 fun b6=>fldZ Try.prog 0 b6 h fun b7=>loadN 0 b7 h fun b8=>storeN 0 b b8 h fun h=>loadN 0 b h fun b9=>Q (.tuple #[b4, b9, (.bool false)]) h)) (nilck a0 fun d0=>fld 4 d0 fun d1=>fld 0 d1 fun d2=>load1 d2 h fun d3=>nilck a0 fun d4=>fld 4 d4 fun d5=>fldZ Try.prog 0 d5 h fun d6=>loadN 0 d6 h fun d7=>storeN 0 b d7 h fun h=>loadN 0 b h fun d8=>Q (.tuple #[d3, d8, (.bool false)]) h)
theorem Map_iu_DeleteAt.body (a0 a1 : Value) (h : Heap) (Q : Value → Heap → Prop) (H : Map_iu_DeleteAt.sh a0 a1 h Q) : Map_iu_DeleteAt.call #[a0, a1] h Q := by
  refine callsH_of (args := [a0, a1]) Try.func125 rfl rfl ?_; unfold Map_iu_DeleteAt.sh at H; refine sR <| nS (.int .i64 0) rfl <| vl_n <| H_alloc TV_145 H fun _ h H => nS (.bool false) rfl <| vl_e ?_; refine WPc_scope ?_; refine WPc_seq (fun e h => Map_iu_DeleteAt.j1 (e 0) (e 1) (e 5) h Q) ?_ (fun e h H => ?_)
  rotate_left
  · unfold Map_iu_DeleteAt.j1 at H
    refine sR <| vl_n <| H_alloc TV_255 H fun _ h H => vl_e <| sR <| nP (R_slcA TA_255) H fun t42 H => nS t42 rfl <| vl_e <| sR <| vl_n <| H_alloc TV_147 H fun _ h H => vl_e <| sR <| nM (e 0) rfl <| nM (e 0) rfl <| nP R_nil H fun _ H => ?_; refine nP (R_fld TF_191_2) H fun _ H => vl_n <| H_call HB_181 H fun t47 h H => nS t47 rfl <| vl_e <| WPc_seq' ?_; refine WPc_label ?_; refine WPc_seq (fun e h => Map_iu_DeleteAt.j2 (e 0) (e 5) (e 8) (e 9) h Q) ?_ (fun e h H => ?_)
    rotate_left
    · unfold Map_iu_DeleteAt.j2 at H
      refine sR <| nM (e 0) rfl <| nP R_nil H fun _ H => nP (R_fld TF_191_2) H fun _ H => nL T1_189 H fun t223 H => nS t223 rfl <| vl_e ?_; refine WPc_seq (fun e h => Map_iu_DeleteAt.j3 (e 0) (e 5) (e 9) h Q) ?_ (fun e h H => ?_)
      rotate_left
      · unfold Map_iu_DeleteAt.j3 at H
        refine sR <| nM (e 0) rfl <| nP (R_fld TF_147_1) H fun _ H => nL T1_3 H fun _ H => vl_n <| H_call HB_183 H fun t256 h H => nM t256 rfl <| nP R_ext H fun _ H => nP R_ext H fun t258 H => vl_n <| H_alloc TV_145 H fun _ h H => vl_n <| H_storeN TS_145 H fun h H => nS t258 rfl <| vl_e ?_; refine WPc_seq (fun e h => Map_iu_DeleteAt.j4 (e 0) (e 5) h Q) ?_ (fun e h H => ?_)
        rotate_left
        · unfold Map_iu_DeleteAt.j4 at H
          refine WPc_seq' <| W_drawn [0, 1, 3, 7, 15, 0, 32, 96, 224, 480, 31, 2047, 4095] (.take 0 (.take 1 (.take 2 (.take 3 (.take 4 (.take 5 (.take 6 (.take 7 (.take 8 (.take 9 (.take 10 (.alt 11 (.take 12 .done) .none)))))))))))) mixed (by kernel_rfl) <| pM (e 0) rfl rfl <| pP rfl R_nil H fun _ H => pP rfl (R_fld TF_191_4) H fun _ H => pP rfl (R_fld TF_147_1) H fun _ H => pL rfl T1_3 H fun _ t267 _ H => pM (e 0) rfl rfl <| pP rfl R_nil H fun _ H => pP rfl (R_fld TF_191_4) H fun _ H => ?_; refine tkL rfl ?_; refine R_fldZ TFZ_147_0 H fun _ H _ => ?_; exact tkL rfl <| R_loadN TN_145 H fun _ _ _ _ H _ _ => pS t267 rfl rfl <| aE rfl <| H_storeN TS_145 H fun h H => ⟨(hskip rfl (hskip rfl (hskip rfl hnil))), pS (.bool false) rfl rfl <| vp_done <| WPc_ret <| resH_of rfl <| resL_t <| resL_N TN_145 <| loadN_imp H fun r5 H => resL_t <| H⟩
        refine sR <| nM t258 rfl <| vl_e ?_; refine cI H (fun H => ?_) fun H => ?_
        · refine WPc_seq' <| W_drawn [0, 1, 0, 3, 15, 31] (.take 0 (.take 1 (.take 2 (.take 3 (.alt 4 (.take 5 .done) .none))))) mixed (by kernel_rfl) <| pP rfl (R_fld TF_147_1) H fun _ H => pL rfl T1_3 H fun _ t261 _ H => tkL rfl <| R_loadN TN_145 H fun _ _ _ _ H _ _ => pS t261 rfl rfl <| aE rfl <| H_storeN TS_145 H fun h H => ⟨(hskip rfl (hskip rfl hnil)), pS (.bool true) rfl rfl <| vp_done <| WPc_ret <| resH_of rfl <| resL_t <| resL_N TN_145 <| loadN_imp H fun r5 H => ?_⟩
          exact resL_t <| H
        · exact WPc_skip <| H
      refine sR <| nS (.int .i64 0) rfl <| vl_e <| WPc_block ?_; refine loop_at (fun e => [e 10, e 12]) (fun e => [e 0, e 5, e 8, e 9]) H rfl rfl ?_; intro K1 e1 h H hin1
      replace H : Map_iu_DeleteAt.l5.b (e1 0) (e1 5) (e1 8) (e1 9) (e1 10) (e1 12) h K1 Q := H
      unfold Map_iu_DeleteAt.l5.b at H; clear hin1; refine WPc_seq (fun e h => Map_iu_DeleteAt.j6 (e 0) (e 5) (e 8) (e 9) (e 10) (e 12) h K1 Q ∧ [e1 0, e1 5, e1 8, e1 9] = [e 0, e 5, e 8, e 9]) ?_ (fun e h ⟨H, hq1⟩ => ?_)
      rotate_left
      · unfold Map_iu_DeleteAt.j6 at H
        refine WPc_seq (fun e h => Map_iu_DeleteAt.j7 (e 0) (e 5) (e 8) (e 9) (e 10) (e 12) h K1 Q ∧ [e1 0, e1 5, e1 8, e1 9] = [e 0, e 5, e 8, e 9]) ?_ (fun e h ⟨H, hq1⟩ => ?_)
        rotate_left
        · unfold Map_iu_DeleteAt.j7 at H
          refine W_region (by kernel_rfl) <| nM (e 12) rfl <| nP R_add H fun t229 H => nS t229 rfl <| vl_e ?_; exact ⟨H, hq1⟩
        refine WPc_block <| sR <| nM (e 10) rfl <| nP R_nil H fun _ H => nP (R_fld TF_252_1) H fun _ H => nL T1_3 H fun _ H => nP R_add H fun _ H => nP R_nil H fun _ H => nP (R_fld TF_252_1) H fun _ H => vl_n <| H_store1 TS_3 H fun h H => vl_e <| sR <| nM (e 10) rfl <| vl_n <| H_call HB_182 H fun _ h H => ?_; refine nP R_not H fun _ H => vl_e ?_; refine cI H (fun H => ?_) fun H => ?_
        · refine W_drawn [0, 1, 3, 7, 15, 31, 0, 0, 192, 448, 1023, 2047, 4095] (.take 0 (.take 1 (.take 2 (.take 3 (.take 4 (.take 5 (.take 6 (.take 7 (.take 8 (.take 9 (.take 10 (.take 11 (.take 12 .done))))))))))))) mixed (by kernel_rfl) <| pM (e 10) rfl rfl <| pP rfl R_nil H fun _ H => pP rfl (R_fld TF_252_3) H fun _ H => pL rfl T1_250 H fun _ _ _ H => pP rfl R_nil H fun _ H => pL rfl T1_253 H fun _ _ _ H => pM (e 8) rfl rfl <| pM (e 12) rfl rfl <| pP rfl (R_idx TE_116) H fun _ H => pL rfl T1_5 H fun _ _ _ H => pP rfl (R_idx TE_253) H fun _ H => pL rfl T1_189 H fun _ t251 _ H => pS t251 rfl rfl ?_
          refine vp_done ?_; exact ⟨H, hq1⟩
        · refine WPc_skip ?_
          exact ⟨H, hq1⟩
      refine sR <| nM (e1 12) rfl <| nM (e1 8) rfl <| nP (R_len Try.underlying116) H fun _ H => nP R_lss H fun _ H => vl_e ?_; refine cI H (fun H => ?_) fun H => ?_
      · refine WPc_skip ?_
        exact ⟨H, rfl⟩
      · refine WPc_exit ?_
        exact H
    refine WPc_block ?_; refine loop_at (fun e => [e 1, e 8, e 10]) (fun e => [e 0, e 5, e 9]) H rfl rfl ?_; intro K1 e1 h H hin1
    replace H : Map_iu_DeleteAt.l8.b (e1 0) (e1 5) (e1 9) (e1 1) (e1 8) (e1 10) h K1 Q := H
    unfold Map_iu_DeleteAt.l8.b at H; clear hin1; refine WPc_block <| sR <| nM (e1 10) rfl <| nP R_nil H fun _ H => nP (R_fld TF_252_1) H fun _ H => nL T1_3 H fun _ H => nP R_sub H fun _ H => nP R_nil H fun _ H => nP (R_fld TF_252_1) H fun _ H => vl_n <| H_store1 TS_3 H fun h H => vl_e ?_; refine WPc_seq (fun e h => Map_iu_DeleteAt.j9 (e 0) (e 1) (e 5) (e 8) (e 9) (e 10) h K1 Q ∧ [e1 0, e1 5, e1 9] = [e 0, e 5, e 9]) ?_ (fun e h ⟨H, hq1⟩ => ?_)
    rotate_left
    · unfold Map_iu_DeleteAt.j9 at H
      refine sR <| nS (.int .i64 0) rfl <| vl_e ?_; refine WPc_seq (fun e h => Map_iu_DeleteAt.j10 (e 0) (e 1) (e 5) (e 8) (e 9) (e 10) (e 11) h K1 Q ∧ [e1 0, e1 5, e1 9] = [e 0, e 5, e 9]) ?_ (fun e h ⟨H, hq1⟩ => ?_)
      rotate_left
      · unfold Map_iu_DeleteAt.j10 at H
        refine sR <| nM (e 8) rfl <| nM (e 11) rfl <| nP (R_cvI Try.underlying3 Try.underlying5) H fun _ H => vl_n <| H_mkSl TZ_116 (by decide) rfl H rfl fun _ h H => vl_n <| H_app TZ_116 TU_116 H fun t209 h H => nS t209 rfl <| vl_e <| W_region (by kernel_rfl) <| nM (e 0) rfl <| nM (e 10) rfl <| nP R_nil H fun _ H => nP (R_fld TF_252_3) H fun _ H => nL T1_250 H fun _ H => ?_; refine nP R_nil H fun _ H => nL T1_253 H fun _ H => nM (e 11) rfl <| nP (R_idx TE_253) H fun _ H => vl_n <| H_call HB_181 H fun t219 h H => nS t219 rfl <| vl_e ?_; exact ⟨H, hq1⟩
      refine WPc_block ?_; refine loop_at (fun e => [e 1, e 8, e 11]) (fun e => [e 0, e 5, e 9, e 10]) H rfl rfl ?_; intro K2 e2 h H hin2
      replace H : Map_iu_DeleteAt.l11.b (e2 0) (e2 5) (e2 9) (e2 10) (e2 1) (e2 8) (e2 11) h K1 K2 Q := H
      unfold Map_iu_DeleteAt.l11.b at H
      have hz1 : [e1 0, e1 5, e1 9] = [e2 0, e2 5, e2 9] := Eq.trans hq1 (congrArg (fun l : List Value => [l.getD 0 undef, l.getD 1 undef, l.getD 2 undef]) hin2)
      clear hin2; refine WPc_seq (fun e h => Map_iu_DeleteAt.j12 (e 0) (e 1) (e 5) (e 8) (e 9) (e 10) (e 11) h K1 K2 Q ∧ [e1 0, e1 5, e1 9] = [e 0, e 5, e 9] ∧ [e2 0, e2 5, e2 9, e2 10] = [e 0, e 5, e 9, e 10]) ?_ (fun e h ⟨H, hq1, hq2⟩ => ?_)
      rotate_left
      · unfold Map_iu_DeleteAt.j12 at H
        refine WPc_seq (fun e h => Map_iu_DeleteAt.j13 (e 0) (e 1) (e 5) (e 8) (e 9) (e 10) (e 11) h K1 K2 Q ∧ [e1 0, e1 5, e1 9] = [e 0, e 5, e 9] ∧ [e2 0, e2 5, e2 9, e2 10] = [e 0, e 5, e 9, e 10]) ?_ (fun e h ⟨H, hq1, hq2⟩ => ?_)
        rotate_left
        · unfold Map_iu_DeleteAt.j13 at H
          refine W_region (by kernel_rfl) <| nM (e 11) rfl <| nP R_add H fun t149 H => nS t149 rfl <| vl_e ?_; exact ⟨H, hq2⟩
        refine WPc_block ?_; refine WPc_seq (fun e h => Map_iu_DeleteAt.j14 (e 0) (e 1) (e 5) (e 8) (e 9) (e 10) (e 11) h K1 K2 Q ∧ [e1 0, e1 5, e1 9] = [e 0, e 5, e 9] ∧ [e2 0, e2 5, e2 9, e2 10] = [e 0, e 5, e 9, e 10]) ?_ (fun e h ⟨H, hq1, hq2⟩ => ?_)
        rotate_left
        · unfold Map_iu_DeleteAt.j14 at H
          refine W_region (by kernel_rfl) <| nM (e 1) rfl <| nM (e 10) rfl <| nP R_nil H fun _ H => nP (R_fld TF_252_3) H fun _ H => nL T1_250 H fun _ H => nP R_nil H fun _ H => nL T1_253 H fun _ H => nM (e 11) rfl <| nP (R_idx TE_253) H fun _ H => nL T1_189 H fun _ H => nP R_nil H fun _ H => nP (R_fld TF_252_1) H fun _ H => nL T1_3 H fun _ H => ?_; refine nP R_add H fun _ H => nP R_sub H fun t204 H => nS t204 rfl <| vl_e ?_; exact ⟨H, hq1, hq2⟩
        refine sR <| nM (e 1) rfl <| nM (e 10) rfl <| nP R_nil H fun _ H => nP (R_fld TF_252_3) H fun _ H => nL T1_250 H fun _ H => nP R_nil H fun _ H => nL T1_253 H fun _ H => nM (e 11) rfl <| nP (R_idx TE_253) H fun _ H => nL T1_189 H fun _ H => nP R_nil H fun _ H => nP (R_fld TF_252_1) H fun _ H => nL T1_3 H fun _ H => ?_; refine nP R_lss H fun _ H => vl_e ?_; refine cI H (fun H => ?_) fun H => ?_
        · refine WPc_exit ?_
          exact ⟨H, hq1⟩
        · refine sR <| nM (e 1) rfl <| nM (e 10) rfl <| nP R_nil H fun _ H => nP (R_fld TF_252_3) H fun _ H => nL T1_250 H fun _ H => nP R_nil H fun _ H => nL T1_253 H fun _ H => nM (e 11) rfl <| nP (R_idx TE_253) H fun _ H => nL T1_189 H fun _ H => nP R_nil H fun _ H => nP (R_fld TF_252_1) H fun _ H => nL T1_3 H fun _ H => ?_
          refine nP R_eqI H fun _ H => vl_e ?_; refine cI H (fun H => ?_) fun H => ?_
          · refine sR <| nM (e 10) rfl <| nP R_nil H fun _ H => nP (R_fld TF_252_2) H fun _ H => nL T1_249 H fun _ H => nM (e 11) rfl <| nP (R_idx TE_249) H fun _ H => nLN TN_147 H fun _ H => vl_n <| H_storeN TS_147 H fun h H => vl_e <| sR <| nM (e 8) rfl <| nM (e 11) rfl <| nP (R_cvI Try.underlying3 Try.underlying5) H fun _ H => ?_
            refine vl_n <| H_mkSl TZ_116 (by decide) rfl H rfl fun _ h H => vl_n <| H_app TZ_116 TU_116 H fun t189 h H => nS t189 rfl <| vl_e ?_; refine WPc_exit ?_; exact H
          · refine WPc_skip ?_
            exact ⟨H, hq1, hq2⟩
      refine sR <| nM (e2 11) rfl <| nM (e2 10) rfl <| nP R_nil H fun _ H => nP (R_fld TF_252_2) H fun _ H => nL T1_249 H fun _ H => nP (R_len Try.underlying249) H fun _ H => nP R_lss H fun _ H => vl_e ?_; refine cI H (fun H => ?_) fun H => ?_
      · refine WPc_skip ?_
        exact ⟨H, hz1, rfl⟩
      · refine WPc_exit ?_
        exact ⟨H, hz1⟩
    refine sR <| nM (e1 10) rfl <| vl_n <| H_call HB_182 H fun _ h H => vl_e ?_; refine cI H (fun H => ?_) fun H => ?_
    · refine sR <| nM (e1 10) rfl <| nP R_nil H fun _ H => nP (R_fld TF_252_2) H fun _ H => nL T1_249 H fun _ H => nM (e1 1) rfl <| nP (R_idx TE_249) H fun _ H => nLN TN_147 H fun _ H => vl_n <| H_storeN TS_147 H fun h H => vl_e ?_
      refine WPc_seq (fun e h => Map_iu_DeleteAt.j15 (e 0) (e 1) (e 5) (e 9) (e 10) h K1 Q ∧ [e1 0, e1 5, e1 9] = [e 0, e 5, e 9]) ?_ (fun e h ⟨H, hq1⟩ => ?_)
      rotate_left
      · unfold Map_iu_DeleteAt.j15 at H
        refine WPc_seq' <| W_drawn [0, 1, 3, 7, 0, 31, 0, 64, 192, 448, 0, 1024, 4032, 8191] (.take 0 (.take 1 (.take 2 (.take 3 (.take 4 (.take 5 (.take 6 (.take 7 (.take 8 (.take 9 (.take 10 (.take 11 (.take 12 (.alt 13 .done .none)))))))))))))) mixed (by kernel_rfl) <| pM (e 10) rfl rfl <| pP rfl R_nil H fun _ H => pP rfl (R_fld TF_252_2) H fun _ H => pL rfl T1_249 H fun _ _ _ H => pM (e 1) rfl rfl <| pP rfl (R_slice TE_249 (by decide)) H fun _ H => pM (e 10) rfl rfl <| pP rfl R_nil H fun _ H => pP rfl (R_fld TF_252_2) H fun _ H => pL rfl T1_249 H fun _ _ _ H => pM (e 1) rfl rfl <| pP rfl R_add H fun _ H => ?_; refine pP rfl (R_slice TE_249 (by decide)) H fun _ H => aE rfl <| H_cpy TE_249 H fun _ h H => ⟨(hskip rfl (hskip rfl hnil)), vp_done <| WPc_seq' <| W_drawn [0, 1, 3, 7, 0, 16, 48, 112, 240, 496, 0, 1024, 3072, 7168, 16383, 32767] (.take 0 (.take 1 (.take 2 (.take 3 (.take 4 (.take 5 (.take 6 (.take 7 (.take 8 (.take 9 (.take 10 (.take 11 (.take 12 (.take 13 (.take 14 (.alt 15 .done .none)))))))))))))))) mixed (by kernel_rfl) <| pM (e 10) rfl rfl <| pP rfl R_nil H fun _ H => pP rfl (R_fld TF_252_2) H fun _ H => pL rfl T1_249 H fun _ _ _ H => pM (e 10) rfl rfl <| pP rfl R_nil H fun _ H => pP rfl (R_fld TF_252_2) H fun _ H => pL rfl T1_249 H fun _ _ _ H => pP rfl (R_len Try.underlying249) H fun _ H => ?_⟩
        refine pP rfl R_sub H fun _ H => pM (e 0) rfl rfl <| pP rfl R_nil H fun _ H => pP rfl (R_fld TF_191_4) H fun _ H => tkL rfl <| R_loadN TN_147 H fun _ _ _ _ H _ _ => pP rfl (R_idx TE_249) H fun _ H => aE rfl <| H_storeN TS_147 H fun h H => ⟨(hskip rfl (hskip rfl (hskip rfl hnil))), vp_done <| WPc_seq' <| W_drawn [0, 0, 2, 6, 14, 0, 32, 96, 224, 480, 992, 2046, 4095, 8191, 16383] (.take 0 (.take 1 (.take 2 (.take 3 (.take 4 (.take 5 (.take 6 (.take 7 (.take 8 (.take 9 (.take 10 (.take 11 (.take 12 (.take 13 (.alt 14 .done .none))))))))))))))) mixed (by kernel_rfl) <| pM (e 10) rfl rfl <| pM (e 10) rfl rfl <| pP rfl R_nil H fun _ H => pP rfl (R_fld TF_252_2) H fun _ H => ?_⟩
        refine pL rfl T1_249 H fun _ _ _ H => pM (e 10) rfl rfl <| pP rfl R_nil H fun _ H => pP rfl (R_fld TF_252_2) H fun _ H => pL rfl T1_249 H fun _ _ _ H => pP rfl (R_len Try.underlying249) H fun _ H => pP rfl R_sub H fun _ H => pP rfl (R_slice TE_249 (by decide)) H fun _ H => pP rfl R_nil H fun _ H => pP rfl (R_fld TF_252_2) H fun _ H => aE rfl <| H_store1 TS_249 H fun h H => ⟨(hskip rfl (hskip rfl hnil)), vp_done <| sR <| nM (e 0) rfl ?_⟩
        refine nP R_nil H fun _ H => nP (R_fld TF_191_3) H fun _ H => nL T1_3 H fun _ H => nP R_sub H fun _ H => nP R_nil H fun _ H => nP (R_fld TF_191_3) H fun _ H => vl_n <| H_store1 TS_3 H fun h H => vl_e ?_; refine WPc_seq (fun e h => Map_iu_DeleteAt.j16 (e 5) (e 9) h K1 Q ∧ [e1 0, e1 5, e1 9] = [e 0, e 5, e 9]) ?_ (fun e h ⟨H, hq1⟩ => ?_)
        rotate_left
        · unfold Map_iu_DeleteAt.j16 at H
          refine WPc_seq' <| W_drawn [0, 1, 0, 4, 3, 31, 63] (.take 0 (.take 1 (.take 2 (.take 3 (.take 4 (.alt 5 (.take 6 .done) .none)))))) mixed (by kernel_rfl) <| pP rfl (R_fld TF_147_1) H fun _ H => pL rfl T1_3 H fun _ t138 _ H => ?_; refine tkL rfl ?_; refine R_fldZ TFZ_147_0 H fun _ H _ => ?_; exact tkL rfl <| R_loadN TN_145 H fun _ _ _ _ H _ _ => pS t138 rfl rfl <| aE rfl <| H_storeN TS_145 H fun h H => ⟨(hskip rfl (hskip rfl (hskip rfl hnil))), pS (.bool true) rfl rfl <| vp_done <| WPc_ret <| resH_of rfl <| resL_t <| resL_N TN_145 <| loadN_imp H fun r5 H => resL_t <| H⟩
        refine sR <| nM (e 0) rfl <| nP R_nil H fun _ H => nP (R_fld TF_191_3) H fun _ H => nL T1_3 H fun _ H => nP R_eqI H fun _ H => vl_e ?_; refine cI H (fun H => ?_) fun H => ?_
        · refine W_region (by kernel_rfl) <| nM (e 0) rfl <| nP R_nil H fun _ H => nP (R_fld TF_191_2) H fun _ H => vl_n <| H_store1 TS_189 H fun h H => vl_e ?_
          exact ⟨H, hq1⟩
        · refine WPc_skip ?_
          exact ⟨H, hq1⟩
      refine WPc_seq' <| W_drawn [0, 1, 3, 7, 15, 0, 32, 96, 224, 511] (.take 0 (.take 1 (.take 2 (.take 3 (.take 4 (.take 5 (.take 6 (.take 7 (.take 8 (.take 9 .done)))))))))) mixed (by kernel_rfl) <| pM (e1 10) rfl rfl <| pP rfl R_nil H fun _ H => pP rfl (R_fld TF_252_2) H fun _ H => pL rfl T1_249 H fun _ _ _ H => pP rfl (R_len Try.underlying249) H fun _ H => pM (e1 0) rfl rfl <| pP rfl R_nil H fun _ H => pP rfl (R_fld TF_191_5) H fun _ H => pL rfl T1_3 H fun _ _ _ H => pP rfl R_eqI H fun _ H => vp_done ?_; refine cI H (fun H => ?_) fun H => ?_
      · refine sR <| nM (e1 8) rfl <| nM (e1 1) rfl <| nP (R_cvI Try.underlying3 Try.underlying5) H fun _ H => vl_n <| H_mkSl TZ_116 (by decide) rfl H rfl fun _ h H => vl_n <| H_app TZ_116 TU_116 H fun t78 h H => nS t78 rfl <| vl_e ?_
        refine WPc_exit ?_; exact H
      · refine WPc_skip ?_
        exact ⟨H, rfl⟩
    · refine WPc_skip ?_
      exact ⟨H, rfl⟩
  refine sR <| nM a0 rfl <| nP R_nil H fun _ H => nP (R_fld TF_191_2) H fun _ H => nL T1_189 H fun _ H => nP (R_eqNilP Try.underlying189 rfl) H fun t19 H => nM t19 rfl ?_; obtain ⟨b, hb, H1, H2⟩ := H
  cases b
  · have H := H1 rfl
    clear H1 H2; refine vl_y rfl hb ?_; refine H_of_R (R_move (v := a1) rfl ?_)
    refine vl_y rfl hb ?_; refine H_of_R (R_lss H fun t22 H => ?_)
    refine nA (R_pickC (v := t22) false hb rfl) <| nM t22 rfl ?_; obtain ⟨b_2, hb_2, H1, H2⟩ := H
    cases b_2
    · have H := H1 rfl
      clear H1 H2; refine vl_y rfl hb_2 ?_; refine H_of_R (R_move (v := a1) rfl ?_)
      refine vl_y rfl hb_2 ?_; refine H_of_R (R_move (v := a0) rfl ?_)
      refine vl_y rfl hb_2 ?_; refine H_of_R (R_nil H fun _ H => ?_)
      refine vl_y rfl hb_2 ?_; refine H_of_R (R_fld TF_191_3 H fun _ H => ?_)
      refine vl_y rfl hb_2 ?_; refine H_of_R (R_load1 T1_3 H fun _ _ _ _ H => ?_)
      refine vl_y rfl hb_2 ?_; refine H_of_R (R_geq H fun t30 H => ?_)
      refine nA (R_pickC (v := t30) false hb_2 rfl) <| vl_e ?_; refine cI H (fun H => ?_) fun H => ?_
      · refine WPc_seq' <| W_drawn [0, 1, 3, 7, 15, 0, 32, 96, 224, 480, 31, 2047, 4095] (.take 0 (.take 1 (.take 2 (.take 3 (.take 4 (.take 5 (.take 6 (.take 7 (.take 8 (.take 9 (.take 10 (.alt 11 (.take 12 .done) .none)))))))))))) mixed (by kernel_rfl) <| pM a0 rfl rfl <| pP rfl R_nil H fun _ H => pP rfl (R_fld TF_191_4) H fun _ H => pP rfl (R_fld TF_147_1) H fun _ H => pL rfl T1_3 H fun _ t36 _ H => pM a0 rfl rfl <| pP rfl R_nil H fun _ H => pP rfl (R_fld TF_191_4) H fun _ H => ?_
        refine tkL rfl ?_; refine R_fldZ TFZ_147_0 H fun _ H _ => ?_; exact tkL rfl <| R_loadN TN_145 H fun _ _ _ _ H _ _ => pS t36 rfl rfl <| aE rfl <| H_storeN TS_145 H fun h H => ⟨(hskip rfl (hskip rfl (hskip rfl hnil))), pS (.bool false) rfl rfl <| vp_done <| WPc_ret <| resH_of rfl <| resL_t <| resL_N TN_145 <| loadN_imp H fun r5 H => resL_t <| H⟩
      · exact WPc_skip <| H
    · have H := H2 rfl
      clear H1 H2; refine vl_s rfl (nbF hb_2) ?_; refine vl_s rfl (nbF hb_2) ?_; refine vl_s rfl (nbF hb_2) ?_; refine vl_s rfl (nbF hb_2) ?_; refine vl_s rfl (nbF hb_2) ?_; refine vl_s rfl (nbF hb_2) ?_; refine nA (R_pickC (v := (.bool true)) true hb_2 rfl) <| vl_e ?_; refine WPc_cond (t := true) rfl (fun _ => ?_) (fun hh => by cases hh)
      refine WPc_seq' <| W_drawn [0, 1, 3, 7, 15, 0, 32, 96, 224, 480, 31, 2047, 4095] (.take 0 (.take 1 (.take 2 (.take 3 (.take 4 (.take 5 (.take 6 (.take 7 (.take 8 (.take 9 (.take 10 (.alt 11 (.take 12 .done) .none)))))))))))) mixed (by kernel_rfl) <| pM a0 rfl rfl <| pP rfl R_nil H fun _ H => pP rfl (R_fld TF_191_4) H fun _ H => pP rfl (R_fld TF_147_1) H fun _ H => pL rfl T1_3 H fun _ t36_2 _ H => pM a0 rfl rfl <| pP rfl R_nil H fun _ H => pP rfl (R_fld TF_191_4) H fun _ H => ?_; refine tkL rfl ?_; refine R_fldZ TFZ_147_0 H fun _ H _ => ?_; exact tkL rfl <| R_loadN TN_145 H fun _ _ _ _ H _ _ => pS t36_2 rfl rfl <| aE rfl <| H_storeN TS_145 H fun h H => ⟨(hskip rfl (hskip rfl (hskip rfl hnil))), pS (.bool false) rfl rfl <| vp_done <| WPc_ret <| resH_of rfl <| resL_t <| resL_N TN_145 <| loadN_imp H fun r5_2 H => resL_t <| H⟩
  · have H := H2 rfl
    clear H1 H2; refine vl_s rfl (nbF hb) ?_; refine vl_s rfl (nbF hb) ?_; refine nA (R_pickC (v := (.bool true)) true hb rfl) <| nM (.bool true) rfl ?_; refine vl_s rfl (nbF rfl) ?_; refine vl_s rfl (nbF rfl) ?_; refine vl_s rfl (nbF rfl) ?_; refine vl_s rfl (nbF rfl) ?_; refine vl_s rfl (nbF rfl) ?_; refine vl_s rfl (nbF rfl) ?_; refine nA (R_pickC (v := (.bool true)) true rfl rfl) <| vl_e ?_; refine WPc_cond (t := true) rfl (fun _ => ?_) (fun hh => by cases hh)
    refine WPc_seq' <| W_drawn [0, 1, 3, 7, 15, 0, 32, 96, 224, 480, 31, 2047, 4095] (.take 0 (.take 1 (.take 2 (.take 3 (.take 4 (.take 5 (.take 6 (.take 7 (.take 8 (.take 9 (.take 10 (.alt 11 (.take 12 .done) .none)))))))))))) mixed (by kernel_rfl) <| pM a0 rfl rfl <| pP rfl R_nil H fun _ H => pP rfl (R_fld TF_191_4) H fun _ H => pP rfl (R_fld TF_147_1) H fun _ H => pL rfl T1_3 H fun _ t36_3 _ H => pM a0 rfl rfl <| pP rfl R_nil H fun _ H => pP rfl (R_fld TF_191_4) H fun _ H => ?_; refine tkL rfl ?_; refine R_fldZ TFZ_147_0 H fun _ H _ => ?_; exact tkL rfl <| R_loadN TN_145 H fun _ _ _ _ H _ _ => pS t36_3 rfl rfl <| aE rfl <| H_storeN TS_145 H fun h H => ⟨(hskip rfl (hskip rfl (hskip rfl hnil))), pS (.bool false) rfl rfl <| vp_done <| WPc_ret <| resH_of rfl <| resL_t <| resL_N TN_145 <| loadN_imp H fun r5_3 H => resL_t <| H⟩
/-! ### (*pub/tidwallbtree.Set[int]).DeleteAt -/
def Set_i_DeleteAt.sh (a0 a1 : Value) (h : Heap) (Q : Value → Heap → Prop) : Prop := nilck a0 fun b=>fld 0 b fun d=>Map_iu_DeleteAt.call #[d, a1] h fun g h=>extr 0 g fun i=>extr 1 g fun j=>extr 2 g fun k=>alloc [] 145 h fun l h=>storeN 0 l j h fun h=>Q (.tuple #[i, k]) h
theorem Set_i_DeleteAt.body (a0 a1 : Value) (h : Heap) (Q : Value → Heap → Prop) (H : Set_i_DeleteAt.sh a0 a1 h Q) : Set_i_DeleteAt.call #[a0, a1] h Q := by
  refine callsH_of (args := [a0, a1]) Try.func78 rfl rfl ?_; unfold Set_i_DeleteAt.sh at H; refine sR <| nS (.int .i64 0) rfl <| nS (.bool false) rfl <| vl_e <| sR <| nM a0 rfl <| nP R_nil H fun _ H => nP (R_fld TF_193_0) H fun _ H => nM a1 rfl <| vl_n <| H_call HB_125 H fun t14 h H => nM t14 rfl <| nP R_ext H fun t15 H => nP R_ext H fun _ H => nP R_ext H fun t17 H => ?_; exact vl_n <| H_alloc TV_145 H fun _ h H => nS t15 rfl <| vl_n <| H_storeN TS_145 H fun h H => nS t17 rfl <| vl_e <| sR <| nM t15 rfl <| nM t17 rfl <| nS t15 rfl <| nS t17 rfl <| vl_e <| WPc_ret <| resH_of rfl <| H
/-! ### impl.SDeleteAt -/
def i_SDeleteAt.j1 (s6 s7 : Value) (h : Heap) (Q : Value → Heap → Prop) : Prop := Set_i_Keys.call #[s6] h fun b h=>Q (.tuple #[s7, b]) h
def i_SDeleteAt.j4 (s6 s7 s12 s13 s14 : Value) (h : Heap) (K1 : List Value → Heap → Prop) (Q : Value → Heap → Prop) : Prop := arith (· + ·) s14 (.int .i64 1) fun b=>K1 [s7, b] h
def i_SDeleteAt.j3 (s6 s7 s12 s13 s14 : Value) (h : Heap) (K1 : List Value → Heap → Prop) (Q : Value → Heap → Prop) : Prop := idx 1 s12 s14 fun b=>load1 b h fun d=>Set_i_DeleteAt.call #[s6, d] h fun g h=>extr 0 g fun i=>extr 1 g fun j=>i_key.call #[i, j] h fun k h=>mkSl (if 1 * 2 = 0 then [] else zeros [(.int .i64 0), (.bool false)] 1) 1 [(0 * 2, 2, k)] 81 h fun l h=>app 81 2 16 [(.int .i64 0), (.bool false)] s7 l h fun m h=>i_SDeleteAt.j4 s6 m s12 s13 s14 h K1 Q
def i_SDeleteAt.l2.b (c6 c12 c13 s7 s14 : Value) (h : Heap) (K1 : List Value → Heap → Prop) (Q : Value → Heap → Prop) : Prop := cmpI (fun a b=>decide (a < b)) s14 c13 fun b=>ifV b (i_SDeleteAt.j3 c6 s7 c12 c13 s14 h K1 Q) (i_SDeleteAt.j1 c6 s7 h Q)
def i_SDeleteAt.sh (a0 a1 : Value) (h : Heap) (Q : Value → Heap → Prop) : Prop := i_growSet.call #[a0] h fun b h=>lenV a1 fun d=>loopC (fun c s h K1=>i_SDeleteAt.l2.b (c.getD 0 undef) (c.getD 1 undef) (c.getD 2 undef) (s.getD 0 undef) (s.getD 1 undef) h K1 Q) [b, a1, d] [(.slice none 0 0), (.int .i64 0)] h
theorem i_SDeleteAt.body (a0 a1 : Value) (h : Heap) (Q : Value → Heap → Prop) (H : i_SDeleteAt.sh a0 a1 h Q) : i_SDeleteAt.call #[a0, a1] h Q := by
  refine callsH_of (args := [a0, a1]) Try.func34 rfl rfl ?_; unfold i_SDeleteAt.sh at H; refine sR <| nS (.slice none 0 0) rfl <| nS (.slice none 0 0) rfl <| vl_e <| sR <| nM a0 rfl <| vl_n <| H_call HB_70 H fun t11 h H => nS t11 rfl <| vl_e <| sR <| nS (.slice none 0 0) rfl <| vl_e ?_; refine WPc_seq (fun e h => i_SDeleteAt.j1 (e 6) (e 7) h Q) ?_ (fun e h H => ?_)
  rotate_left
  · unfold i_SDeleteAt.j1 at H
    exact sR <| nM (e 7) rfl <| nM (e 6) rfl <| vl_n <| H_call HB_76 H fun t30 h H => nS (e 7) rfl <| nS t30 rfl <| vl_e <| WPc_ret <| resH_of rfl <| H
  refine sR <| nM a1 rfl <| nP (R_len Try.underlying30) H fun _ H => nM (.int .i64 0) rfl <| vl_e <| WPc_block ?_; refine loop_at (fun e => [e 7, e 14]) (fun e => [e 6, e 12, e 13]) H rfl rfl ?_; intro K1 e1 h H hin1
  replace H : i_SDeleteAt.l2.b (e1 6) (e1 12) (e1 13) (e1 7) (e1 14) h K1 Q := H
  unfold i_SDeleteAt.l2.b at H; clear hin1; refine sR <| nP R_lss H fun _ H => vl_e ?_; refine WPc_seq (fun e h => i_SDeleteAt.j3 (e 6) (e 7) (e 12) (e 13) (e 14) h K1 Q ∧ [e1 6, e1 12, e1 13] = [e 6, e 12, e 13]) ?_ (fun e h ⟨H, hq1⟩ => ?_)
  rotate_left
  · unfold i_SDeleteAt.j3 at H
    refine WPc_seq (fun e h => i_SDeleteAt.j4 (e 6) (e 7) (e 12) (e 13) (e 14) h K1 Q ∧ [e1 6, e1 12, e1 13] = [e 6, e 12, e 13]) ?_ (fun e h ⟨H, hq1⟩ => ?_)
    rotate_left
    · unfold i_SDeleteAt.j4 at H
      refine W_region (by kernel_rfl) <| nP R_add H fun t27 H => nM t27 rfl <| vl_e ?_; exact ⟨H, hq1⟩
    refine WPc_block <| sR <| nP (R_idx TE_30) H fun _ H => nL T1_3 H fun t17 H => nS t17 rfl <| vl_e <| W_region (by kernel_rfl) <| nM (e 7) rfl <| nM (e 6) rfl <| nM t17 rfl <| vl_n <| H_call HB_78 H fun _ h H => nP R_ext H fun _ H => nP R_ext H fun _ H => vl_n <| H_call HB_73 H fun _ h H => ?_; refine vl_n <| H_mkSl TZ_66 (by decide) rfl H rfl fun _ h H => vl_n <| H_app TZ_66 TU_66 H fun t26 h H => nS t26 rfl <| vl_e ?_; exact ⟨H, hq1⟩
  refine cI H (fun H => ?_) fun H => ?_
  · refine WPc_skip ?_
    exact ⟨H, rfl⟩
  · refine WPc_exit ?_
    exact H
/-! ### (*pub/tidwallbtree.Set[int]).Len -/
def Set_i_Len.sh (a0 : Value) (h : Heap) (Q : Value → Heap → Prop) : Prop := nilck a0 fun b=>fld 0 b fun d=>Map_iu_Len.call #[d] h fun g h=>Q g h
theorem Set_i_Len.body (a0 : Value) (h : Heap) (Q : Value → Heap → Prop) (H : Set_i_Len.sh a0 h Q) : Set_i_Len.call #[a0] h Q := by
  refine callsH_of (args := [a0]) Try.func79 rfl rfl ?_; unfold Set_i_Len.sh at H; exact sR <| nS (.int .i64 0) rfl <| vl_e <| sR <| nM a0 rfl <| nP R_nil H fun _ H => nP (R_fld TF_193_0) H fun _ H => vl_n <| H_call HB_126 H fun t6 h H => nS t6 rfl <| vl_e <| WPc_ret <| resH_of rfl <| H
end Go.Proofs.Ytdpkpcmoabfofaa
end
section
namespace Go.Proofs.Ytdpkpcmoabfofaa
open Go.Hp
set_option maxRecDepth 100000
set_option maxHeartbeats 8000000
/-! ### impl.SLen -/
def i_SLen.sh (a0 : Value) (h : Heap) (Q : Value → Heap → Prop) : Prop := i_growSet.call #[a0] h fun b h=>Set_i_Len.call #[b] h fun d h=>Q d h
theorem i_SLen.body (a0 : Value) (h : Heap) (Q : Value → Heap → Prop) (H : i_SLen.sh a0 h Q) : i_SLen.call #[a0] h Q := by
  refine callsH_of (args := [a0]) Try.func35 rfl rfl ?_; unfold i_SLen.sh at H; exact sR <| nS (.int .i64 0) rfl <| vl_e <| sR <| nM a0 rfl <| vl_n <| H_call HB_70 H fun _ h H => vl_n <| H_call HB_79 H fun t5 h H => nS t5 rfl <| vl_e <| WPc_ret <| resH_of rfl <| H
/-! ### slices.Equal[[]int,int] -/
def sl_Equal_inti.j2 (h : Heap) (Q : Value → Heap → Prop) : Prop := Q (.bool true) h
def sl_Equal_inti.j5 (s0 s1 s12 s13 : Value) (h : Heap) (K1 : List Value → Heap → Prop) (Q : Value → Heap → Prop) : Prop := arith (· + ·) s13 (.int .i64 1) fun b=>K1 [b] h
def sl_Equal_inti.j4 (s0 s1 s12 s13 : Value) (h : Heap) (K1 : List Value → Heap → Prop) (Q : Value → Heap → Prop) : Prop := idx 1 s0 s13 fun b=>load1 b h fun d=>idx 1 s1 s13 fun g=>load1 g h fun i=>cmpI (fun a b=>a != b) d i fun j=>ifV j (Q (.bool false) h) (sl_Equal_inti.j5 s0 s1 s12 s13 h K1 Q)
def sl_Equal_inti.l3.b (c0 c1 c12 s13 : Value) (h : Heap) (K1 : List Value → Heap → Prop) (Q : Value → Heap → Prop) : Prop := cmpI (fun a b=>decide (a < b)) s13 c12 fun b=>ifV b (sl_Equal_inti.j4 c0 c1 c12 s13 h K1 Q) (sl_Equal_inti.j2 h Q)
def sl_Equal_inti.j1 (s0 s1 : Value) (h : Heap) (Q : Value → Heap → Prop) : Prop := lenV s0 fun b=>loopC (fun c s h K1=>sl_Equal_inti.l3.b (c.getD 0 undef) (c.getD 1 undef) (c.getD 2 undef) (s.getD 0 undef) h K1 Q) [s0, s1, b] [(.int .i64 0)] h
def sl_Equal_inti.sh (a0 a1 : Value) (h : Heap) (Q : Value → Heap → Prop) : Prop := lenV a0 fun b=>lenV a1 fun d=>cmpI (fun a b=>a != b) b d fun g=>ifV g (Q (.bool false) h) (sl_Equal_inti.j1 a0 a1 h Q)
theorem sl_Equal_inti.body (a0 a1 : Value) (h : Heap) (Q : Value → Heap → Prop) (H : sl_Equal_inti.sh a0 a1 h Q) : sl_Equal_inti.call #[a0, a1] h Q := by
  refine callsH_of (args := [a0, a1]) Try.func36 rfl rfl ?_; unfold sl_Equal_inti.sh at H; refine sR <| nS (.bool false) rfl <| vl_e ?_; refine WPc_seq (fun e h => sl_Equal_inti.j1 (e 0) (e 1) h Q) ?_ (fun e h H => ?_)
  rotate_left
  · unfold sl_Equal_inti.j1 at H
    refine WPc_seq (fun e h => sl_Equal_inti.j2 h Q) ?_ (fun e h H => ?_)
    rotate_left
    · unfold sl_Equal_inti.j2 at H
      exact sR <| nS (.bool true) rfl <| vl_e <| WPc_ret <| resH_of rfl <| H
    refine sR <| nM (e 0) rfl <| nP (R_len Try.underlying30) H fun _ H => nM (.int .i64 0) rfl <| vl_e <| WPc_block ?_; refine loop_at (fun e => [e 13]) (fun e => [e 0, e 1, e 12]) H rfl rfl ?_; intro K1 e1 h H hin1
    replace H : sl_Equal_inti.l3.b (e1 0) (e1 1) (e1 12) (e1 13) h K1 Q := H
    unfold sl_Equal_inti.l3.b at H; clear hin1; refine sR <| nP R_lss H fun _ H => vl_e ?_; refine WPc_seq (fun e h => sl_Equal_inti.j4 (e 0) (e 1) (e 12) (e 13) h K1 Q ∧ [e1 0, e1 1, e1 12] = [e 0, e 1, e 12]) ?_ (fun e h ⟨H, hq1⟩ => ?_)
    rotate_left
    · unfold sl_Equal_inti.j4 at H
      refine WPc_seq (fun e h => sl_Equal_inti.j5 (e 0) (e 1) (e 12) (e 13) h K1 Q ∧ [e1 0, e1 1, e1 12] = [e 0, e 1, e 12]) ?_ (fun e h ⟨H, hq1⟩ => ?_)
      rotate_left
      · unfold sl_Equal_inti.j5 at H
        refine W_region (by kernel_rfl) <| nP R_add H fun t25 H => nM t25 rfl <| vl_e ?_; exact ⟨H, hq1⟩
      refine WPc_block <| sR <| nM (e 13) rfl <| nS (e 13) rfl <| vl_e <| WPc_seq' <| W_drawn [0, 0, 3, 7, 0, 0, 48, 112, 255] (.take 0 (.take 1 (.take 2 (.take 3 (.take 4 (.take 5 (.take 6 (.take 7 (.take 8 .done))))))))) mixed (by kernel_rfl) <| pM (e 0) rfl rfl <| pM (e 13) rfl rfl <| pP rfl (R_idx TE_30) H fun _ H => pL rfl T1_3 H fun _ _ _ H => pM (e 1) rfl rfl <| pM (e 13) rfl rfl <| pP rfl (R_idx TE_30) H fun _ H => ?_; refine pL rfl T1_3 H fun _ _ _ H => pP rfl R_neI H fun _ H => vp_done ?_; refine cI H (fun H => ?_) fun H => ?_
      · exact sR <| nS (.bool false) rfl <| vl_e <| WPc_ret <| resH_of rfl <| H
      · refine WPc_skip ?_
        exact ⟨H, hq1⟩
    refine cI H (fun H => ?_) fun H => ?_
    · refine WPc_skip ?_
      exact ⟨H, rfl⟩
    · refine WPc_exit ?_
      exact H
  refine sR <| nM a0 rfl <| nP (R_len Try.underlying30) H fun _ H => nM a1 rfl <| nP (R_len Try.underlying30) H fun _ H => nP R_neI H fun _ H => vl_e ?_; refine cI H (fun H => ?_) fun H => ?_
  · exact sR <| nS (.bool false) rfl <| vl_e <| WPc_ret <| resH_of rfl <| H
  · exact WPc_skip <| H
/-! ### slices.Clone[[]int,int] -/
def sl_Clone_inti.j1 (s0 : Value) (h : Heap) (Q : Value → Heap → Prop) : Prop := mkSl (if 0 * 1 = 0 then [] else zeros [(.int .i64 0)] 0) 0 [] 3 h fun b h=>app 3 1 8 [(.int .i64 0)] b s0 h fun d h=>Q d h
def sl_Clone_inti.sh (a0 : Value) (h : Heap) (Q : Value → Heap → Prop) : Prop := eqNilS a0 fun b=>ifV b (Q (.slice none 0 0) h) (sl_Clone_inti.j1 a0 h Q)
theorem sl_Clone_inti.body (a0 : Value) (h : Heap) (Q : Value → Heap → Prop) (H : sl_Clone_inti.sh a0 h Q) : sl_Clone_inti.call #[a0] h Q := by
  refine callsH_of (args := [a0]) Try.func80 rfl rfl ?_; unfold sl_Clone_inti.sh at H; refine sR <| nS (.slice none 0 0) rfl <| vl_e ?_; refine WPc_seq (fun e h => sl_Clone_inti.j1 (e 0) h Q) ?_ (fun e h H => ?_)
  rotate_left
  · unfold sl_Clone_inti.j1 at H
    exact sR <| vl_n <| H_mkSl TZ_30 (by decide) rfl H rfl fun _ h H => nM (e 0) rfl <| vl_n <| H_app TZ_30 TU_30 H fun t7 h H => nS t7 rfl <| vl_e <| WPc_ret <| resH_of rfl <| H
  refine sR <| nM a0 rfl <| nP (R_eqNilS Try.underlying30 rfl) H fun _ H => vl_e ?_; refine cI H (fun H => ?_) fun H => ?_
  · exact sR <| nS (.slice none 0 0) rfl <| vl_e <| WPc_ret <| resH_of rfl <| H
  · exact WPc_skip <| H
/-! ### slices.Reverse[[]int,int] -/
def sl_Reverse_inti.j3 (s0 s2 s3 : Value) (h : Heap) (K1 : List Value → Heap → Prop) (Q : Value → Heap → Prop) : Prop := arith (· + ·) s2 (.int .i64 1) fun b=>arith (· - ·) s3 (.int .i64 1) fun d=>K1 [b, d] h
def sl_Reverse_inti.j2 (s0 s2 s3 : Value) (h : Heap) (K1 : List Value → Heap → Prop) (Q : Value → Heap → Prop) : Prop := idx 1 s0 s3 fun b=>load1 b h fun d=>idx 1 s0 s2 fun g=>load1 g h fun i=>idx 1 s0 s2 fun j=>store1 j d h fun h=>idx 1 s0 s3 fun k=>store1 k i h fun h=>sl_Reverse_inti.j3 s0 s2 s3 h K1 Q
def sl_Reverse_inti.l1.b (c0 s2 s3 : Value) (h : Heap) (K1 : List Value → Heap → Prop) (Q : Value → Heap → Prop) : Prop := cmpI (fun a b=>decide (a < b)) s2 s3 fun b=>ifV b (sl_Reverse_inti.j2 c0 s2 s3 h K1 Q) (Q (.tuple #[]) h)
def sl_Reverse_inti.sh (a0 : Value) (h : Heap) (Q : Value → Heap → Prop) : Prop := lenV a0 fun b=>arith (· - ·) b (.int .i64 1) fun d=>loopC (fun c s h K1=>sl_Reverse_inti.l1.b (c.getD 0 undef) (s.getD 0 undef) (s.getD 1 undef) h K1 Q) [a0] [(.int .i64 0), d] h
theorem sl_Reverse_inti.body (a0 : Value) (h : Heap) (Q : Value → Heap → Prop) (H : sl_Reverse_inti.sh a0 h Q) : sl_Reverse_inti.call #[a0] h Q := by
  refine callsH_of (args := [a0]) Try.func81 rfl rfl ?_; unfold sl_Reverse_inti.sh at H; refine sR <| nM a0 rfl <| nP (R_len Try.underlying30) H fun _ H => nP R_sub H fun t6 H => nS (.int .i64 0) rfl <| nS t6 rfl <| vl_e <| WPc_block ?_; refine loop_at (fun e => [e 2, e 3]) (fun e => [e 0]) H rfl rfl ?_; intro K1 e1 h H hin1
  replace H : sl_Reverse_inti.l1.b (e1 0) (e1 2) (e1 3) h K1 Q := H
  unfold sl_Reverse_inti.l1.b at H; clear hin1; refine WPc_seq (fun e h => sl_Reverse_inti.j2 (e 0) (e 2) (e 3) h K1 Q ∧ [e1 0] = [e 0]) ?_ (fun e h ⟨H, hq1⟩ => ?_)
  rotate_left
  · unfold sl_Reverse_inti.j2 at H
    refine WPc_seq (fun e h => sl_Reverse_inti.j3 (e 0) (e 2) (e 3) h K1 Q ∧ [e1 0] = [e 0]) ?_ (fun e h ⟨H, hq1⟩ => ?_)
    rotate_left
    · unfold sl_Reverse_inti.j3 at H
      refine W_region (by kernel_rfl) <| nM (e 2) rfl <| nP R_add H fun t11 H => nM (e 3) rfl <| nP R_sub H fun t13 H => nS t11 rfl <| nS t13 rfl <| vl_e ?_; exact ⟨H, hq1⟩
    refine WPc_block <| W_drawn [0, 0, 0, 0, 0, 0, 48, 112, 0, 0, 768, 1792, 4083, 8179, 16383, 32767] (.take 0 (.take 1 (.take 2 (.take 3 (.take 4 (.take 5 (.take 6 (.take 7 (.take 8 (.take 9 (.take 10 (.take 11 (.take 12 (.alt 13 (.take 14 (.alt 15 .done .none)) .none)))))))))))))) mixed (by kernel_rfl) <| pM (e 0) rfl rfl <| pM (e 2) rfl rfl <| pM (e 0) rfl rfl <| pM (e 3) rfl rfl <| pM (e 0) rfl rfl <| pM (e 3) rfl rfl <| pP rfl (R_idx TE_30) H fun _ H => pL rfl T1_3 H fun _ _ _ H => pM (e 0) rfl rfl <| pM (e 2) rfl rfl <| pP rfl (R_idx TE_30) H fun _ H => pL rfl T1_3 H fun _ _ _ H => ?_; refine pP rfl (R_idx TE_30) H fun _ H => aE rfl <| H_store1 TS_3 H fun h H => ⟨(hskip rfl (hskip rfl hnil)), pP rfl (R_idx TE_30) H fun _ H => aE rfl <| H_store1 TS_3 H fun h H => ⟨hnil, vp_done ?_⟩⟩
    exact ⟨H, hq1⟩
  refine sR <| nM (e1 2) rfl <| nM (e1 3) rfl <| nP R_lss H fun _ H => vl_e ?_; refine cI H (fun H => ?_) fun H => ?_
  · refine WPc_skip ?_
    exact ⟨H, rfl⟩
  · refine WPc_exit ?_
    exact resH_of rfl <| H
/-! ### laws.turned[int] -/
def l_turned_i.sh (a0 : Value) (h : Heap) (Q : Value → Heap → Prop) : Prop := sl_Clone_inti.call #[a0] h fun b h=>sl_Reverse_inti.call #[b] h fun d h=>Q b h
theorem l_turned_i.body (a0 : Value) (h : Heap) (Q : Value → Heap → Prop) (H : l_turned_i.sh a0 h Q) : l_turned_i.call #[a0] h Q := by
  refine callsH_of (args := [a0]) Try.func37 rfl rfl ?_; unfold l_turned_i.sh at H; refine sR <| nS (.slice none 0 0) rfl <| vl_e <| sR <| nM a0 rfl <| vl_n <| H_call HB_80 H fun t5 h H => nS t5 rfl <| vl_e <| sR <| nM t5 rfl <| vl_n <| H_call HB_81 H fun _ h H => vl_e <| sR <| nM t5 rfl ?_; exact nS t5 rfl <| vl_e <| WPc_ret <| resH_of rfl <| H
/-! ### (*pub/tidwallbtree.Map[int, struct{}]).nodeReverse -/
def Map_iu_nodeReverse.j3 (h : Heap) (Q : Value → Heap → Prop) : Prop := Q (.bool true) h
def Map_iu_nodeReverse.j6 (s0 s2 s3 s9 s11 : Value) (h : Heap) (K1 : List Value → Heap → Prop) (Q : Value → Heap → Prop) : Prop := arith (· - ·) s11 (.int .i64 1) fun b=>K1 [b] h
def Map_iu_nodeReverse.j7 (s0 s2 s3 s9 s11 : Value) (h : Heap) (K1 : List Value → Heap → Prop) (Q : Value → Heap → Prop) : Prop := nilck s9 fun b=>fld 3 b fun d=>load1 d h fun g=>nilck g fun i=>load1 i h fun j=>idx 1 j s11 fun k=>Map_iu_nodeReverse.call #[s0, k, s2, s3] h fun l h=>notV l fun m=>ifV m (Q (.bool false) h) (Map_iu_nodeReverse.j6 s0 s2 s3 s9 s11 h K1 Q)
def Map_iu_nodeReverse.j5 (s0 s2 s3 s9 s11 : Value) (h : Heap) (K1 : List Value → Heap → Prop) (Q : Value → Heap → Prop) : Prop := nilck s9 fun b=>fld 2 b fun d=>load1 d h fun g=>idx 1 g s11 fun i=>fld 0 i fun j=>load1 j h fun k=>nilck s9 fun l=>fld 2 l fun m=>load1 m h fun n=>idx 1 n s11 fun o=>fldZ Try.prog 0 o h fun p=>loadN 0 p h fun q=>callV Try.prog s2 #[k, q] h fun u h=>notV u fun v=>ifV v (Q (.bool false) h) (Map_iu_nodeReverse.j7 s0 s2 s3 s9 s11 h K1 Q)
def Map_iu_nodeReverse.l4.b (c0 c2 c3 c9 s11 : Value) (h : Heap) (K1 : List Value → Heap → Prop) (Q : Value → Heap → Prop) : Prop := cmpI (fun a b=>decide (a ≥ b)) s11 (.int .i64 0) fun b=>ifV b (Map_iu_nodeReverse.j5 c0 c2 c3 c9 s11 h K1 Q) (Map_iu_nodeReverse.j3 h Q)
def Map_iu_nodeReverse.j2 (s0 s2 s3 s9 : Value) (h : Heap) (Q : Value → Heap → Prop) : Prop := nilck s9 fun b=>fld 2 b fun d=>load1 d h fun g=>lenV g fun i=>arith (· - ·) i (.int .i64 1) fun j=>loopC (fun c s h K1=>Map_iu_nodeReverse.l4.b (c.getD 0 undef) (c.getD 1 undef) (c.getD 2 undef) (c.getD 3 undef) (s.getD 0 undef) h K1 Q) [s0, s2, s3, s9] [j] h
def Map_iu_nodeReverse.j1 (s0 s2 s3 s9 : Value) (h : Heap) (Q : Value → Heap → Prop) : Prop := nilck s9 fun b=>fld 3 b fun d=>load1 d h fun g=>nilck g fun i=>load1 i h fun j=>nilck s9 fun k=>fld 3 k fun l=>load1 l h fun m=>nilck m fun n=>load1 n h fun o=>lenV o fun p=>arith (· - ·) p (.int .i64 1) fun q=>idx 1 j q fun u=>Map_iu_nodeReverse.call #[s0, u, s2, s3] h fun v h=>notV v fun w=>ifV w (Q (.bool false) h) (Map_iu_nodeReverse.j2 s0 s2 s3 s9 h Q)
def Map_iu_nodeReverse.j8 (h : Heap) (Q : Value → Heap → Prop) : Prop := Q (.bool true) h
def Map_iu_nodeReverse.j11 (s2 s9 s10 : Value) (h : Heap) (K1 : List Value → Heap → Prop) (Q : Value → Heap → Prop) : Prop := arith (· - ·) s10 (.int .i64 1) fun b=>K1 [b] h
def Map_iu_nodeReverse.j10 (s2 s9 s10 : Value) (h : Heap) (K1 : List Value → Heap → Prop) (Q : Value → Heap → Prop) : Prop := nilck s9 fun b=>fld 2 b fun d=>load1 d h fun g=>idx 1 g s10 fun i=>fld 0 i fun j=>load1 j h fun k=>nilck s9 fun l=>fld 2 l fun m=>load1 m h fun n=>idx 1 n s10 fun o=>fldZ Try.prog 0 o h fun p=>loadN 0 p h fun q=>callV Try.prog s2 #[k, q] h fun u h=>notV u fun v=>ifV v (Q (.bool false) h) (Map_iu_nodeReverse.j11 s2 s9 s10 h K1 Q)
def Map_iu_nodeReverse.l9.b (c2 c9 s10 : Value) (h : Heap) (K1 : List Value → Heap → Prop) (Q : Value → Heap → Prop) : Prop := cmpI (fun a b=>decide (a ≥ b)) s10 (.int .i64 0) fun b=>ifV b (Map_iu_nodeReverse.j10 c2 c9 s10 h K1 Q) (Map_iu_nodeReverse.j8 h Q)
def Map_iu_nodeReverse.sh (a0 a1 a2 a3 : Value) (h : Heap) (Q : Value → Heap → Prop) : Prop := Map_iu_isoLoad.call #[a0, a1, a3] h fun b h=>mapNode_iu_leaf.call #[b] h fun d h=>ifV d (nilck b fun g=>fld 2 g fun i=>load1 i h fun j=>lenV j fun k=>arith (· - ·) k (.int .i64 1) fun l=>loopC (fun c s h K1=>Map_iu_nodeReverse.l9.b (c.getD 0 undef) (c.getD 1 undef) (s.getD 0 undef) h K1 Q) [a2, b] [l] h) (Map_iu_nodeReverse.j1 a0 a2 a3 b h Q)
theorem Map_iu_nodeReverse.body (a0 a1 a2 a3 : Value) (h : Heap) (Q : Value → Heap → Prop) (H : Map_iu_nodeReverse.sh a0 a1 a2 a3 h Q) : Map_iu_nodeReverse.call #[a0, a1, a2, a3] h Q := by
  refine callsH_of (args := [a0, a1, a2, a3]) Try.func229 rfl rfl ?_; unfold Map_iu_nodeReverse.sh at H; refine sR <| nS (.bool false) rfl <| vl_e <| sR <| nM a0 rfl <| nM a1 rfl <| nM a3 rfl <| vl_n <| H_call HB_181 H fun t15 h H => nS t15 rfl <| vl_e ?_; refine WPc_seq (fun e h => Map_iu_nodeReverse.j1 (e 0) (e 2) (e 3) (e 9) h Q) ?_ (fun e h H => ?_)
  rotate_left
  · unfold Map_iu_nodeReverse.j1 at H
    refine WPc_seq (fun e h => Map_iu_nodeReverse.j2 (e 0) (e 2) (e 3) (e 9) h Q) ?_ (fun e h H => ?_)
    rotate_left
    · unfold Map_iu_nodeReverse.j2 at H
      refine WPc_seq (fun e h => Map_iu_nodeReverse.j3 h Q) ?_ (fun e h H => ?_)
      rotate_left
      · unfold Map_iu_nodeReverse.j3 at H
        exact sR <| nS (.bool true) rfl <| vl_e <| WPc_ret <| resH_of rfl <| H
      refine sR <| nM (e 9) rfl <| nP R_nil H fun _ H => nP (R_fld TF_252_2) H fun _ H => nL T1_249 H fun _ H => nP (R_len Try.underlying249) H fun _ H => nP R_sub H fun t72 H => nS t72 rfl <| vl_e <| WPc_block ?_; refine loop_at (fun e => [e 11]) (fun e => [e 0, e 2, e 3, e 9]) H rfl rfl ?_; intro K1 e1 h H hin1
      replace H : Map_iu_nodeReverse.l4.b (e1 0) (e1 2) (e1 3) (e1 9) (e1 11) h K1 Q := H
      unfold Map_iu_nodeReverse.l4.b at H; clear hin1; refine WPc_seq (fun e h => Map_iu_nodeReverse.j5 (e 0) (e 2) (e 3) (e 9) (e 11) h K1 Q ∧ [e1 0, e1 2, e1 3, e1 9] = [e 0, e 2, e 3, e 9]) ?_ (fun e h ⟨H, hq1⟩ => ?_)
      rotate_left
      · unfold Map_iu_nodeReverse.j5 at H
        refine WPc_seq (fun e h => Map_iu_nodeReverse.j6 (e 0) (e 2) (e 3) (e 9) (e 11) h K1 Q ∧ [e1 0, e1 2, e1 3, e1 9] = [e 0, e 2, e 3, e 9]) ?_ (fun e h ⟨H, hq1⟩ => ?_)
        rotate_left
        · unfold Map_iu_nodeReverse.j6 at H
          refine W_region (by kernel_rfl) <| nM (e 11) rfl <| nP R_sub H fun t76 H => nS t76 rfl <| vl_e ?_; exact ⟨H, hq1⟩
        refine WPc_block ?_; refine WPc_seq (fun e h => Map_iu_nodeReverse.j7 (e 0) (e 2) (e 3) (e 9) (e 11) h K1 Q ∧ [e1 0, e1 2, e1 3, e1 9] = [e 0, e 2, e 3, e 9]) ?_ (fun e h ⟨H, hq1⟩ => ?_)
        rotate_left
        · unfold Map_iu_nodeReverse.j7 at H
          refine sR <| nM (e 0) rfl <| nM (e 9) rfl <| nP R_nil H fun _ H => nP (R_fld TF_252_3) H fun _ H => nL T1_250 H fun _ H => nP R_nil H fun _ H => nL T1_253 H fun _ H => nM (e 11) rfl <| nP (R_idx TE_253) H fun _ H => nM (e 2) rfl <| nM (e 3) rfl <| vl_n <| H_call HB_229 H fun _ h H => nP R_not H fun _ H => ?_; refine vl_e ?_; refine cI H (fun H => ?_) fun H => ?_
          · exact sR <| nS (.bool false) rfl <| vl_e <| WPc_ret <| resH_of rfl <| H
          · refine WPc_skip ?_
            exact ⟨H, hq1⟩
        refine WPc_seq' <| W_drawn [0, 0, 2, 6, 14, 0, 62, 126, 254, 0, 512, 1536, 3584, 0, 15872, 32256, 65024, 131071, 262143] (.take 0 (.take 1 (.take 2 (.take 3 (.take 4 (.take 5 (.take 6 (.take 7 (.take 8 (.take 9 (.take 10 (.take 11 (.take 12 (.take 13 (.take 14 (.take 15 (.take 16 (.alt 17 (.take 18 .done) .none)))))))))))))))))) mixed (by kernel_rfl) <| pM (e 2) rfl rfl <| pM (e 9) rfl rfl <| pP rfl R_nil H fun _ H => pP rfl (R_fld TF_252_2) H fun _ H => pL rfl T1_249 H fun _ _ _ H => pM (e 11) rfl rfl <| pP rfl (R_idx TE_249) H fun _ H => pP rfl (R_fld TF_147_1) H fun _ H => pL rfl T1_3 H fun _ _ _ H => pM (e 9) rfl rfl <| pP rfl R_nil H fun _ H => pP rfl (R_fld TF_252_2) H fun _ H => ?_; refine pL rfl T1_249 H fun _ _ _ H => pM (e 11) rfl rfl <| pP rfl (R_idx TE_249) H fun _ H => ?_; refine tkL rfl ?_; refine R_fldZ TFZ_147_0 H fun _ H _ => ?_; refine tkL rfl <| R_loadN TN_145 H fun _ _ _ _ H _ _ => aE rfl <| H_callV H fun _ h H => ⟨(hskip rfl (hskip rfl (hskip rfl (hskip rfl (hskip rfl hnil))))), pP rfl R_not H fun _ H => vp_done ?_⟩
        refine cI H (fun H => ?_) fun H => ?_
        · exact sR <| nS (.bool false) rfl <| vl_e <| WPc_ret <| resH_of rfl <| H
        · refine WPc_skip ?_
          exact ⟨H, hq1⟩
      refine sR <| nM (e1 11) rfl <| nP R_geq H fun _ H => vl_e ?_; refine cI H (fun H => ?_) fun H => ?_
      · refine WPc_skip ?_
        exact ⟨H, rfl⟩
      · refine WPc_exit ?_
        exact H
    refine WPc_seq' <| W_drawn [0, 0, 2, 6, 14, 30, 62, 0, 128, 384, 896, 1920, 3968, 8064, 16256, 32766, 0, 0, 262143, 524287] (.take 0 (.take 1 (.take 2 (.take 3 (.take 4 (.take 5 (.take 6 (.take 7 (.take 8 (.take 9 (.take 10 (.take 11 (.take 12 (.take 13 (.take 14 (.take 15 (.take 16 (.take 17 (.alt 18 (.take 19 .done) .none))))))))))))))))))) mixed (by kernel_rfl) <| pM (e 0) rfl rfl <| pM (e 9) rfl rfl <| pP rfl R_nil H fun _ H => pP rfl (R_fld TF_252_3) H fun _ H => pL rfl T1_250 H fun _ _ _ H => pP rfl R_nil H fun _ H => pL rfl T1_253 H fun _ _ _ H => pM (e 9) rfl rfl <| pP rfl R_nil H fun _ H => pP rfl (R_fld TF_252_3) H fun _ H => pL rfl T1_250 H fun _ _ _ H => pP rfl R_nil H fun _ H => ?_; refine pL rfl T1_253 H fun _ _ _ H => pP rfl (R_len Try.underlying253) H fun _ H => pP rfl R_sub H fun _ H => pP rfl (R_idx TE_253) H fun _ H => pM (e 2) rfl rfl <| pM (e 3) rfl rfl <| aE rfl <| H_call HB_229 H fun _ h H => ⟨(hskip rfl (hskip rfl (hskip rfl (hskip rfl hnil)))), pP rfl R_not H fun _ H => vp_done ?_⟩
    refine cI H (fun H => ?_) fun H => ?_
    · exact sR <| nS (.bool false) rfl <| vl_e <| WPc_ret <| resH_of rfl <| H
    · exact WPc_skip <| H
  refine sR <| nM t15 rfl <| vl_n <| H_call HB_182 H fun _ h H => vl_e ?_; refine cI H (fun H => ?_) fun H => ?_
  · refine WPc_seq (fun e h => Map_iu_nodeReverse.j8 h Q) ?_ (fun e h H => ?_)
    rotate_left
    · unfold Map_iu_nodeReverse.j8 at H
      exact sR <| nS (.bool true) rfl <| vl_e <| WPc_ret <| resH_of rfl <| H
    refine sR <| nM t15 rfl <| nP R_nil H fun _ H => nP (R_fld TF_252_2) H fun _ H => nL T1_249 H fun _ H => nP (R_len Try.underlying249) H fun _ H => nP R_sub H fun t23 H => nS t23 rfl <| vl_e <| WPc_block ?_; refine loop_at (fun e => [e 10]) (fun e => [e 2, e 9]) H rfl rfl ?_; intro K1 e1 h H hin1
    replace H : Map_iu_nodeReverse.l9.b (e1 2) (e1 9) (e1 10) h K1 Q := H
    unfold Map_iu_nodeReverse.l9.b at H; clear hin1; refine WPc_seq (fun e h => Map_iu_nodeReverse.j10 (e 2) (e 9) (e 10) h K1 Q ∧ [e1 2, e1 9] = [e 2, e 9]) ?_ (fun e h ⟨H, hq1⟩ => ?_)
    rotate_left
    · unfold Map_iu_nodeReverse.j10 at H
      refine WPc_seq (fun e h => Map_iu_nodeReverse.j11 (e 2) (e 9) (e 10) h K1 Q ∧ [e1 2, e1 9] = [e 2, e 9]) ?_ (fun e h ⟨H, hq1⟩ => ?_)
      rotate_left
      · unfold Map_iu_nodeReverse.j11 at H
        refine W_region (by kernel_rfl) <| nM (e 10) rfl <| nP R_sub H fun t27 H => nS t27 rfl <| vl_e ?_; exact ⟨H, hq1⟩
      refine WPc_block <| WPc_seq' <| W_drawn [0, 0, 2, 6, 14, 0, 62, 126, 254, 0, 512, 1536, 3584, 0, 15872, 32256, 65024, 131071, 262143] (.take 0 (.take 1 (.take 2 (.take 3 (.take 4 (.take 5 (.take 6 (.take 7 (.take 8 (.take 9 (.take 10 (.take 11 (.take 12 (.take 13 (.take 14 (.take 15 (.take 16 (.alt 17 (.take 18 .done) .none)))))))))))))))))) mixed (by kernel_rfl) <| pM (e 2) rfl rfl <| pM (e 9) rfl rfl <| pP rfl R_nil H fun _ H => pP rfl (R_fld TF_252_2) H fun _ H => pL rfl T1_249 H fun _ _ _ H => pM (e 10) rfl rfl <| pP rfl (R_idx TE_249) H fun _ H => pP rfl (R_fld TF_147_1) H fun _ H => pL rfl T1_3 H fun _ _ _ H => pM (e 9) rfl rfl <| pP rfl R_nil H fun _ H => ?_; refine pP rfl (R_fld TF_252_2) H fun _ H => pL rfl T1_249 H fun _ _ _ H => pM (e 10) rfl rfl <| pP rfl (R_idx TE_249) H fun _ H => ?_; refine tkL rfl ?_; refine R_fldZ TFZ_147_0 H fun _ H _ => ?_; refine tkL rfl <| R_loadN TN_145 H fun _ _ _ _ H _ _ => aE rfl <| H_callV H fun _ h H => ⟨(hskip rfl (hskip rfl (hskip rfl (hskip rfl (hskip rfl hnil))))), pP rfl R_not H fun _ H => vp_done ?_⟩
      refine cI H (fun H => ?_) fun H => ?_
      · exact sR <| nS (.bool false) rfl <| vl_e <| WPc_ret <| resH_of rfl <| H
      · refine WPc_skip ?_
        exact ⟨H, hq1⟩
    refine sR <| nM (e1 10) rfl <| nP R_geq H fun _ H => vl_e ?_; refine cI H (fun H => ?_) fun H => ?_
    · refine WPc_skip ?_
      exact ⟨H, rfl⟩
    · refine WPc_exit ?_
      exact H
  · exact WPc_skip <| H
/-! ### (*pub/tidwallbtree.Map[int, struct{}]).reverse -/
def Map_iu_reverse.j1 (s0 s1 s2 : Value) (h : Heap) (Q : Value → Heap → Prop) : Prop := nilck s0 fun b=>fld 2 b fun d=>Map_iu_nodeReverse.call #[s0, d, s1, s2] h fun g h=>Q (.tuple #[]) h
def Map_iu_reverse.sh (a0 a1 a2 : Value) (h : Heap) (Q : Value → Heap → Prop) : Prop := nilck a0 fun b=>fld 2 b fun d=>load1 d h fun g=>eqNilP g fun i=>ifV i (Q (.tuple #[]) h) (Map_iu_reverse.j1 a0 a1 a2 h Q)
theorem Map_iu_reverse.body (a0 a1 a2 : Value) (h : Heap) (Q : Value → Heap → Prop) (H : Map_iu_reverse.sh a0 a1 a2 h Q) : Map_iu_reverse.call #[a0, a1, a2] h Q := by
  refine callsH_of (args := [a0, a1, a2]) Try.func185 rfl rfl ?_; unfold Map_iu_reverse.sh at H; refine WPc_seq (fun e h => Map_iu_reverse.j1 (e 0) (e 1) (e 2) h Q) ?_ (fun e h H => ?_)
  rotate_left
  · unfold Map_iu_reverse.j1 at H
    exact W_region (by kernel_rfl) <| nM (e 0) rfl <| nM (e 0) rfl <| nP R_nil H fun _ H => nP (R_fld TF_191_2) H fun _ H => nM (e 1) rfl <| nM (e 2) rfl <| vl_n <| H_call HB_229 H fun _ h H => vl_e <| resH_of rfl <| H
  refine sR <| nM a0 rfl <| nP R_nil H fun _ H => nP (R_fld TF_191_2) H fun _ H => nL T1_189 H fun _ H => nP (R_eqNilP Try.underlying189 rfl) H fun _ H => vl_e ?_; refine cI H (fun H => ?_) fun H => ?_
  · exact WPc_ret <| resH_of rfl <| H
  · exact WPc_skip <| H
/-! ### (*pub/tidwallbtree.Map[int, struct{}]).Reverse -/
def Map_iu_Reverse.sh (a0 a1 : Value) (h : Heap) (Q : Value → Heap → Prop) : Prop := Map_iu_reverse.call #[a0, a1, (.bool false)] h fun b h=>Q (.tuple #[]) h
theorem Map_iu_Reverse.body (a0 a1 : Value) (h : Heap) (Q : Value → Heap → Prop) (H : Map_iu_Reverse.sh a0 a1 h Q) : Map_iu_Reverse.call #[a0, a1] h Q := by
  refine callsH_of (args := [a0, a1]) Try.func127 rfl rfl ?_; unfold Map_iu_Reverse.sh at H; exact W_region (by kernel_rfl) <| nM a0 rfl <| nM a1 rfl <| vl_n <| H_call HB_185 H fun _ h H => vl_e <| resH_of rfl <| H
/-! ### (*pub/tidwallbtree.Set[int]).Reverse$1 -/
def Set_i_Reverse_c1.sh (a0 a1 f0 : Value) (h : Heap) (Q : Value → Heap → Prop) : Prop := box 145 a1 h fun b h=>load1 f0 h fun d=>callV Try.prog d #[a0] h fun g h=>Q g h
theorem Set_i_Reverse_c1.body (a0 a1 f0 : Value) (h : Heap) (Q : Value → Heap → Prop) (H : Set_i_Reverse_c1.sh a0 a1 f0 h Q) : Set_i_Reverse_c1.call #[a0, a1, f0] h Q := by
  refine callsH_of (args := [a0, a1, f0]) Try.func128 rfl rfl ?_; unfold Set_i_Reverse_c1.sh at H; exact sR <| vl_n <| H_box H fun _ h H => nS (.bool false) rfl <| vl_e <| sR <| nL T1_37 H fun _ H => nM a0 rfl <| vl_n <| H_callV H fun t8 h H => nS t8 rfl <| vl_e <| WPc_ret <| resH_of rfl <| H
/-! ### (*pub/tidwallbtree.Set[int]).Reverse -/
def Set_i_Reverse.sh (a0 a1 : Value) (h : Heap) (Q : Value → Heap → Prop) : Prop := box 37 a1 h fun b h=>nilck a0 fun d=>fld 0 d fun g=>Map_iu_Reverse.call #[g, (.func (.func 128) #[] #[b])] h fun i h=>Q (.tuple #[]) h
theorem Set_i_Reverse.body (a0 a1 : Value) (h : Heap) (Q : Value → Heap → Prop) (H : Set_i_Reverse.sh a0 a1 h Q) : Set_i_Reverse.call #[a0, a1] h Q := by
  refine callsH_of (args := [a0, a1]) Try.func82 rfl rfl ?_; unfold Set_i_Reverse.sh at H; exact sR <| vl_n <| H_box H fun t3 h H => vl_e <| W_region (by kernel_rfl) <| nM a0 rfl <| nP R_nil H fun _ H => nP (R_fld TF_193_0) H fun _ H => nA (R_mkFn (v := (.func (.func 128) #[] #[t3])) rfl) <| vl_n <| H_call HB_127 H fun _ h H => vl_e <| resH_of rfl <| H
/-! ### impl.SReverse -/
def i_SReverse.sh (a0 a1 : Value) (h : Heap) (Q : Value → Heap → Prop) : Prop := alloc [(.slice none 0 0)] 30 h fun b h=>i_growSet.call #[a0] h fun d h=>i_taker_i.call #[b, a1] h fun g h=>Set_i_Reverse.call #[d, g] h fun i h=>load1 b h fun j=>Q j h
theorem i_SReverse.body (a0 a1 : Value) (h : Heap) (Q : Value → Heap → Prop) (H : i_SReverse.sh a0 a1 h Q) : i_SReverse.call #[a0, a1] h Q := by
  refine callsH_of (args := [a0, a1]) Try.func38 rfl rfl ?_; unfold i_SReverse.sh at H; refine sR <| nS (.slice none 0 0) rfl <| vl_e <| sR <| vl_n <| H_alloc TV_30 H fun _ h H => vl_e <| sR <| nM a0 rfl <| vl_n <| H_call HB_70 H fun _ h H => nM a1 rfl <| vl_n <| H_call HB_72 H fun _ h H => vl_n <| H_call HB_82 H fun _ h H => vl_e <| sR ?_; exact nL T1_30 H fun t11 H => nS t11 rfl <| vl_e <| WPc_ret <| resH_of rfl <| H
/-! ### (*pub/tidwallbtree.Map[int, struct{}]).iter -/
def Map_iu_iter.sh (a0 a1 : Value) (h : Heap) (Q : Value → Heap → Prop) : Prop := alloc [(.pointer none), (.bool false), (.bool false), (.bool false), (.bool false), (.slice none 0 0), (.int .i64 0)] 149 h fun b h=>alloc [(.pointer none), (.bool false), (.bool false), (.bool false), (.bool false), (.slice none 0 0), (.int .i64 0)] 149 h fun d h=>fld 0 d fun g=>store1 g a0 h fun h=>fld 1 d fun i=>store1 i a1 h fun h=>loadN 7 d h fun j=>storeN 7 b j h fun h=>loadN 7 b h fun k=>Q k h
theorem Map_iu_iter.body (a0 a1 : Value) (h : Heap) (Q : Value → Heap → Prop) (H : Map_iu_iter.sh a0 a1 h Q) : Map_iu_iter.call #[a0, a1] h Q := by
  refine callsH_of (args := [a0, a1]) Try.func186 rfl rfl ?_; unfold Map_iu_iter.sh at H; refine sR <| vl_n <| H_alloc TV_149 H fun _ h H => vl_e <| sR <| vl_n <| H_alloc TV_149 H fun _ h H => vl_e <| sR <| nM a0 rfl <| nP (R_fld TF_149_0) H fun _ H => vl_n <| H_store1 TS_143 H fun h H => vl_e <| sR <| nM a1 rfl <| nP (R_fld TF_149_1) H fun _ H => ?_; exact vl_n <| H_store1 TS_4 H fun h H => vl_e <| sR <| nLN TN_149 H fun _ H => vl_n <| H_storeN TS_149 H fun h H => vl_e <| WPc_ret <| resH_of rfl <| resL_N TN_149 <| loadN_imp H fun r4 H => H
/-! ### (*pub/tidwallbtree.Map[int, struct{}]).Iter -/
def Map_iu_Iter.sh (a0 : Value) (h : Heap) (Q : Value → Heap → Prop) : Prop := alloc [(.pointer none), (.bool false), (.bool false), (.bool false), (.bool false), (.slice none 0 0), (.int .i64 0)] 149 h fun b h=>Map_iu_iter.call #[a0, (.bool false)] h fun d h=>storeN 7 b d h fun h=>loadN 7 b h fun g=>Q g h
theorem Map_iu_Iter.body (a0 : Value) (h : Heap) (Q : Value → Heap → Prop) (H : Map_iu_Iter.sh a0 h Q) : Map_iu_Iter.call #[a0] h Q := by
  refine callsH_of (args := [a0]) Try.func129 rfl rfl ?_; unfold Map_iu_Iter.sh at H; exact sR <| vl_n <| H_alloc TV_149 H fun _ h H => vl_e <| sR <| nM a0 rfl <| vl_n <| H_call HB_186 H fun _ h H => vl_n <| H_storeN TS_149 H fun h H => vl_e <| WPc_ret <| resH_of rfl <| resL_N TN_149 <| loadN_imp H fun r2 H => H
/-! ### (*pub/tidwallbtree.Set[int]).Iter -/
def Set_i_Iter.sh (a0 : Value) (h : Heap) (Q : Value → Heap → Prop) : Prop := alloc [(.pointer none), (.bool false), (.bool false), (.bool false), (.bool false), (.slice none 0 0), (.int .i64 0)] 151 h fun b h=>nilck a0 fun d=>fld 0 d fun g=>Map_iu_Iter.call #[g] h fun i h=>buildV [(.pointer none), (.bool false), (.bool false), (.bool false), (.bool false), (.slice none 0 0), (.int .i64 0)] [(0, 7, i)] fun j=>storeN 7 b j h fun h=>loadN 7 b h fun k=>Q k h
theorem Set_i_Iter.body (a0 : Value) (h : Heap) (Q : Value → Heap → Prop) (H : Set_i_Iter.sh a0 h Q) : Set_i_Iter.call #[a0] h Q := by
  refine callsH_of (args := [a0]) Try.func83 rfl rfl ?_; unfold Set_i_Iter.sh at H; refine sR <| vl_n <| H_alloc TV_151 H fun _ h H => vl_e <| sR <| nM a0 rfl <| nP R_nil H fun _ H => nP (R_fld TF_193_0) H fun _ H => vl_n <| H_call HB_129 H fun _ h H => nP (R_build TB_151 rfl (by decide)) H fun _ H => vl_n <| H_storeN TS_151 H fun h H => vl_e <| WPc_ret <| resH_of rfl <| resL_N TN_151 ?_; exact loadN_imp H fun r2 H => H
end Go.Proofs.Ytdpkpcmoabfofaa
end
section
namespace Go.Proofs.Ytdpkpcmoabfofaa.Iu
open Go.Hp
abbrev KT := Int
abbrev VT := Unit
abbrev It := KT × VT
abbrev enc (p : It) : List Value := [.int .i64 p.1]
abbrev kv (k : KT) : Value := .int .i64 k
abbrev vv (v : VT) : Value := .agg #[]
abbrev emp : It := (0, ())
def lt (a b : It) : Bool := decide (a.1 < b.1)
abbrev hd0 (iso : Int) (ctr : Option Addr) : List Value := [.int .u64 iso, .pointer ctr]
abbrev hd4 (mn mx : Int) : List Value := enc emp ++ [.int .i64 mn, .int .i64 mx, .bool false, .bool false]
abbrev hdr (iso : Int) (ctr root : Option Addr) (cnt mn mx : Int) : List Value := [.int .u64 iso, .pointer ctr, .pointer root, .int .i64 cnt] ++ hd4 mn mx
theorem encl (p : It) : (enc p).length = 1 := rfl
theorem enc1 (p : It) : ∀ y ∈ enc p, one1 y = true := by simp [one1]
theorem swo : Swo lt where
  irr a := by simp [lt]
  tr a b c h1 h2 := by simp only [lt, decide_eq_true_eq] at *; exact Int.lt_trans h1 h2
  ntr a b c h1 h2 := by simp only [lt, decide_eq_false_iff_not, Int.not_lt] at *; exact Int.le_trans h2 h1
abbrev fk (k : KT) : List Value := [kv k]
theorem fkl (k : KT) : (fk k).length = 1 := rfl
theorem snoc_fk (l : List KT) (k : KT) : l.flatMap fk ++ [kv k] = (l ++ [k]).flatMap fk := by rw [List.flatMap_append, List.flatMap_singleton]
def setAll (l : List It) : List It := l.foldl (lput lt) []
theorem setAll_snoc (l : List It) (x : It) : setAll (l ++ [x]) = lput lt (setAll l) x := by unfold setAll; rw [List.foldl_append]; rfl
theorem setAll_len (l : List It) : (setAll l).length ≤ l.length := by
  unfold setAll
  have : ∀ (l a : List It), (l.foldl (lput lt) a).length ≤ a.length + l.length := fun l => by
    induction l with
    | nil => intro a; simp
    | cons x r ih =>
      intro a
      have h1 := ih (lput lt a x)
      have h2 : (lput lt a x).length = _ := lput_length
      simp only [List.foldl_cons, List.length_cons]
      split at h2 <;> omega
  have := this l []; simpa using this
end Go.Proofs.Ytdpkpcmoabfofaa.Iu
end
section
namespace Go.Proofs.Ytdpkpcmoabfofaa.Iu
open Go.Hp Go.Proofs.Ytdpkpcmoabfofaa
variable {h0 h : Heap} {Z E : List Rg} {Q : Value → Heap → Prop}
theorem zall : zokAll Try.prog = true := by kernel_rfl
theorem search_ok {h : Heap} {tr iv : Value} {n : Nat} {its : List It} {x : It} {Q : Value → Heap → Prop} (ha : Asc lt its) (hb : its.length ≤ 4611686018427387903)
    (hn : cl h n 2 = some iv) (hr : Rdl 1 h iv its.length (its.flatMap enc)) (H : Q (.tuple #[.int .i64 (pos lt its x), .bool (lget lt its x).isSome]) h) : Map_iu_search.call #[tr, ptr n 0, kv x.1] h Q := by
  obtain ⟨a, cap, rfl, hl, hx, _⟩ := hr
  obtain ⟨ib, io, hia⟩ : ∃ ib io, its.length ≠ 0 → a = some ⟨ib, io, none⟩ ∧ Rw h ib io (its.flatMap enc) := by
    by_cases e : its.length ≠ 0
    · obtain ⟨b, o, h1, h2⟩ := hx e; exact ⟨b, o, fun _ => ⟨h1, h2⟩⟩
    · exact ⟨0, 0, fun e' => absurd e' e⟩
  have hk : ∀ i (hi : i < its.length), cl h ib (io + i * 1) = some (kv its[i].1) := fun i hi => by
    have h2 := (hia (by omega)).2 (i * 1 + 0) (by rw [flat_len encl]; omega)
    rw [flat_get encl its i hi 0 (by decide)] at h2; rw [Nat.add_zero] at h2; exact h2
  have hs : ∀ i j (hi : i < its.length) (hj : j < its.length), i < j → lt its[i] its[j] = true := fun i j hi hj hij => List.pairwise_iff_getElem.1 ha i j hi hj hij
  have fin : ∀ lo, lo ≤ its.length → (∀ i (hi : i < its.length), i < lo → lt x its[i] = false) → (∀ i (hi : i < its.length), lo ≤ i → lt x its[i] = true) →
      (∀ hp : lo - 1 < its.length, 0 < lo → lt its[lo - 1] x = false → Q (.tuple #[.int .i64 (lo - 1 : Nat), .bool true]) h) ∧ ((∀ hp : lo - 1 < its.length, 0 < lo → lt its[lo - 1] x = true) → Q (.tuple #[.int .i64 lo, .bool false]) h) := by
    intro lo h1 h2 h3
    constructor
    · intro hp h0 hlt
      have e : pos lt its x = lo - 1 := pos_uni (by omega) (fun j hj hjl => swo.tr1 (hs j (lo - 1) hj hp hjl) (h2 (lo - 1) hp (by omega))) (fun _ => hlt)
      have e2 : lget lt its x = some its[lo - 1] := by
        unfold lget; rw [e, List.getElem?_eq_getElem hp, Option.bind_some, h2 (lo - 1) hp (by omega)]; rfl
      rw [e, e2] at H; exact H
    · intro hlt
      have e : pos lt its x = lo := by
        refine pos_uni h1 (fun j hj hjl => ?_) (fun hl => swo.asym (h3 lo hl (Nat.le_refl _)))
        rcases Nat.lt_or_ge j (lo - 1) with hl | hl
        · exact swo.tr _ _ _ (hs j (lo - 1) hj (by omega) hl) (hlt (by omega) (by omega))
        · have : j = lo - 1 := by omega
          subst this; exact hlt hj (by omega)
      have e2 : lget lt its x = none := by
        unfold lget; rw [e]
        rcases Nat.lt_or_ge lo its.length with hl | hl
        · rw [List.getElem?_eq_getElem hl, Option.bind_some, h3 lo hl (Nat.le_refl _)]; rfl
        · rw [List.getElem?_eq_none hl]; rfl
      rw [e, e2] at H; exact H
  refine Map_iu_search.body _ _ _ _ _ ?_; unfold Map_iu_search.sh
  simp only [w_load1, w_loadN, w_nil, w_fld, w_idx, w_len, w_lenStr, w_cap, w_arith, w_divi, w_remi, w_cmpI, w_cmpS, w_not, w_ext, w_eqNilP, w_neNilP, w_eqB, w_pick, w_max, w_ifV, w_br, w_store1, w_storeN, w_alloc, w_box, add_mk, Nat.zero_add, Nat.add_zero, Option.some.injEq, exists_eq_left', List.getElem?_cons_zero, List.getElem?_cons_succ, List.getD_cons_zero, List.getD_cons_succ, hn]
  refine loop_intro (fun s h' => h' = h ∧ ∃ lo hi : Nat, s = [.int .i64 lo, .int .i64 hi] ∧ lo ≤ hi ∧ hi ≤ its.length ∧ (∀ i (hi' : i < its.length), i < lo → lt x its[i] = false) ∧ (∀ i (hi' : i < its.length), hi ≤ i → lt x its[i] = true))
    (fun s _ => (iv (s.getD 1 undef) - iv (s.getD 0 undef)).toNat) ⟨rfl, 0, its.length, rfl, by omega, by omega, fun i hi hl => by omega, fun i h1 h2 => by omega⟩ ?_
  rintro s h' ⟨rfl, lo, hi, rfl, h1, h2, h3, h4⟩
  unfold Map_iu_search.l3.b
  simp only [w_load1, w_loadN, w_nil, w_fld, w_idx, w_len, w_lenStr, w_cap, w_arith, w_divi, w_remi, w_cmpI, w_cmpS, w_not, w_ext, w_eqNilP, w_neNilP, w_eqB, w_pick, w_max, w_ifV, w_br, w_store1, w_storeN, w_alloc, w_box, add_mk, Nat.zero_add, Nat.add_zero, Option.some.injEq, exists_eq_left', List.getElem?_cons_zero, List.getElem?_cons_succ, List.getD_cons_zero, List.getD_cons_succ]
  refine ⟨fun hlt => ?_, fun hge => ?_⟩
  · have hlt : lo < hi := by simpa using hlt
    unfold Map_iu_search.j4
    have hd : ((lo : Int) + hi).tdiv 2 = (((lo + hi) / 2 : Nat) : Int) := by
      rw [← Int.natCast_add]; exact (Int.ofNat_tdiv (lo + hi) 2).symm
    simp only [w_load1, w_loadN, w_nil, w_fld, w_idx, w_len, w_lenStr, w_cap, w_arith, w_divi, w_remi, w_cmpI, w_cmpS, w_not, w_ext, w_eqNilP, w_neNilP, w_eqB, w_pick, w_max, w_ifV, w_br, w_store1, w_storeN, w_alloc, w_box, add_mk, Nat.zero_add, Nat.add_zero, Option.some.injEq, exists_eq_left', List.getElem?_cons_zero, List.getElem?_cons_succ, List.getD_cons_zero, List.getD_cons_succ]
    rw [i64w (n := (lo : Int) + hi) (by omega) (by omega), hd, i64w (n := (((lo + hi) / 2 : Nat) : Int)) (by omega) (by omega)]; refine ⟨by decide, ?_⟩
    simp only [w_load1, w_loadN, w_nil, w_fld, w_idx, w_len, w_lenStr, w_cap, w_arith, w_divi, w_remi, w_cmpI, w_cmpS, w_not, w_ext, w_eqNilP, w_neNilP, w_eqB, w_pick, w_max, w_ifV, w_br, w_store1, w_storeN, w_alloc, w_box, add_mk, Nat.zero_add, Nat.add_zero, Option.some.injEq, exists_eq_left', List.getElem?_cons_zero, List.getElem?_cons_succ, List.getD_cons_zero, List.getD_cons_succ, hn, (hia (by omega)).1, Int.toNat_natCast]
    have hm : (lo + hi) / 2 < its.length := by omega
    refine ⟨by omega, by omega, ?_⟩
    simp only [w_load1, w_loadN, w_nil, w_fld, w_idx, w_len, w_lenStr, w_cap, w_arith, w_divi, w_remi, w_cmpI, w_cmpS, w_not, w_ext, w_eqNilP, w_neNilP, w_eqB, w_pick, w_max, w_ifV, w_br, w_store1, w_storeN, w_alloc, w_box, add_mk, Nat.zero_add, Nat.add_zero, Option.some.injEq, exists_eq_left', List.getElem?_cons_zero, List.getElem?_cons_succ, List.getD_cons_zero, List.getD_cons_succ, hk _ hm]
    refine ⟨fun hc => ?_, fun hc => ?_⟩
    · have hc : lt x its[(lo + hi) / 2] = false := by simpa [lt] using hc
      rw [i64w (by omega) (by omega)]; refine ⟨⟨trivial, (lo + hi) / 2 + 1, hi, by simp, by omega, h2, fun i hi' hl => ?_, h4⟩, by simp; omega⟩
      rcases Nat.lt_or_ge i ((lo + hi) / 2) with hl | hl
      · cases e : lt x its[i] with
        | false => rfl
        | true => have := swo.tr _ _ _ e (hs i _ hi' hm hl); rw [hc] at this; cases this
      · have : i = (lo + hi) / 2 := by omega
        subst this; exact hc
    · have hc : lt x its[(lo + hi) / 2] = true := by simpa [lt] using hc
      refine ⟨⟨trivial, lo, (lo + hi) / 2, rfl, by omega, by omega, h3, fun i hi1 hi2 => ?_⟩, by simp; omega⟩
      rcases Nat.lt_or_ge ((lo + hi) / 2) i with hl | hl
      · exact swo.tr _ _ _ hc (hs _ i hm hi1 hl)
      · have : i = (lo + hi) / 2 := by omega
        subst this; exact hc
  · have hge : lo = hi := by simp at hge; omega
    subst hge; obtain ⟨f1, f2⟩ := fin lo h2 h3 h4; unfold Map_iu_search.j1
    simp only [w_load1, w_loadN, w_nil, w_fld, w_idx, w_len, w_lenStr, w_cap, w_arith, w_divi, w_remi, w_cmpI, w_cmpS, w_not, w_ext, w_eqNilP, w_neNilP, w_eqB, w_pick, w_max, w_ifV, w_br, w_store1, w_storeN, w_alloc, w_box, add_mk, Nat.zero_add, Nat.add_zero, Option.some.injEq, exists_eq_left', List.getElem?_cons_zero, List.getElem?_cons_succ, List.getD_cons_zero, List.getD_cons_succ]
    refine ⟨fun hpos => ?_, fun hz => ?_⟩
    · have hpos : 0 < lo := by simpa using hpos
      rw [i64w (n := (lo : Int) - 1) (by omega) (by omega)]
      simp only [w_load1, w_loadN, w_nil, w_fld, w_idx, w_len, w_lenStr, w_cap, w_arith, w_divi, w_remi, w_cmpI, w_cmpS, w_not, w_ext, w_eqNilP, w_neNilP, w_eqB, w_pick, w_max, w_ifV, w_br, w_store1, w_storeN, w_alloc, w_box, add_mk, Nat.zero_add, Nat.add_zero, Option.some.injEq, exists_eq_left', List.getElem?_cons_zero, List.getElem?_cons_succ, List.getD_cons_zero, List.getD_cons_succ, hn, (hia (by omega)).1]
      refine ⟨by omega, by omega, ?_⟩
      rw [show ((lo : Int) - 1).toNat = lo - 1 by omega]
      have hm : lo - 1 < its.length := by omega
      simp only [w_load1, w_loadN, w_nil, w_fld, w_idx, w_len, w_lenStr, w_cap, w_arith, w_divi, w_remi, w_cmpI, w_cmpS, w_not, w_ext, w_eqNilP, w_neNilP, w_eqB, w_pick, w_max, w_ifV, w_br, w_store1, w_storeN, w_alloc, w_box, add_mk, Nat.zero_add, Nat.add_zero, Option.some.injEq, exists_eq_left', List.getElem?_cons_zero, List.getElem?_cons_succ, List.getD_cons_zero, List.getD_cons_succ, hk (lo - 1) hm]
      refine ⟨fun hc => ?_, fun hc => ?_⟩
      · have hc : lt its[lo - 1] x = false := by simpa [lt] using hc
        rw [show ((lo : Int) - 1) = ((lo - 1 : Nat) : Int) by omega]; exact f1 hm hpos hc
      · have hc : lt its[lo - 1] x = true := by simpa [lt] using hc
        unfold Map_iu_search.j2; exact f2 (fun _ _ => hc)
    · have hz : lo = 0 := by simp at hz; omega
      subst hz; unfold Map_iu_search.j2; exact f2 (fun _ e => absurd e (Nat.lt_irrefl _))
theorem leaf_ok {n : Nat} {a : Option Addr} (hn : cl h n 3 = some (.pointer a)) (H : Q (.bool a.isNone) h) : mapNode_iu_leaf.call #[ptr n 0] h Q := by
  refine mapNode_iu_leaf.body _ _ _ ?_; unfold mapNode_iu_leaf.sh
  have s := St.start h
  refine r_nil ?_; refine r_fld ?_; refine s.r_loadB hn ?_; refine r_eqNilP ?_; exact H
theorem isoLoad_ok {tb pb po n : Nat} {iso : Int} {m : Bool} (hi : cl h tb 0 = some (.int .u64 iso)) (hp : cl h pb po = some (ptr n 0)) (hn : m = true → cl h n 0 = some (.int .u64 iso)) (H : Q (ptr n 0) h) :
    Map_iu_isoLoad.call #[ptr tb 0, ptr pb po, .bool m] h Q := by
  refine Map_iu_isoLoad.body _ _ _ _ _ ?_; unfold Map_iu_isoLoad.sh
  have hj : Map_iu_isoLoad.j1 (ptr pb po) h Q := by
    unfold Map_iu_isoLoad.j1; refine r_nil ?_; exact r_ld hp H
  refine r_br (fun hm => ?_) (fun _ => hj)
  refine r_nil ?_; refine r_ld hp ?_; refine r_nil ?_; refine r_fld ?_; refine r_ld (hn hm) ?_; refine r_nil ?_; refine r_fld ?_; refine r_ld hi ?_; refine r_cmpI ?_; refine r_if (fun e => absurd e (by simp)) (fun _ => hj)
theorem newNode_leaf {tb : Nat} {iso : Int} (hi : cl h tb 0 = some (.int .u64 iso)) (H : ∀ n h', St h [] [(n, 0, [.int .u64 iso, .int .i64 0, .slice none 0 0, .pointer none])] h' → Q (ptr n 0) h') : Map_iu_newNode.call #[ptr tb 0, .bool true] h Q := by
  refine Map_iu_newNode.body _ _ _ _ ?_; unfold Map_iu_newNode.sh
  have s := St.start h
  refine s.r_alloc fun n h s => ?_; refine r_nil ?_; refine r_fld ?_; refine s.r_loadB hi ?_; refine r_nil ?_; refine r_fld ?_; refine St.r_store0 s 0 rfl (by simp) rfl ?_; intro h s
  try simp only [List.set_cons_zero, List.set_cons_succ] at s
  refine r_not ?_; refine r_if (fun e => absurd e (by decide)) (fun _ => ?_)
  unfold Map_iu_newNode.j1; exact H n h s
theorem newNode_inner {tb : Nat} {iso : Int} (hi : cl h tb 0 = some (.int .u64 iso)) (H : ∀ n kb h', St h [] [(n, 0, [.int .u64 iso, .int .i64 0, .slice none 0 0, ptr kb 0]), (kb, 0, [.slice none 0 0])] h' → Q (ptr n 0) h') : Map_iu_newNode.call #[ptr tb 0, .bool false] h Q := by
  refine Map_iu_newNode.body _ _ _ _ ?_; unfold Map_iu_newNode.sh
  have s := St.start h
  refine s.r_alloc fun n h s => ?_; refine r_nil ?_; refine r_fld ?_; refine s.r_loadB hi ?_; refine r_nil ?_; refine r_fld ?_; refine St.r_store0 s 0 rfl (by simp) rfl ?_; intro h s
  try simp only [List.set_cons_zero, List.set_cons_succ] at s
  refine r_not ?_; refine r_if (fun _ => ?_) (fun e => absurd e (by decide))
  refine s.r_alloc fun kb h s => ?_; refine r_nil ?_; refine r_fld ?_; refine St.r_store0 s 1 rfl (by simp) rfl ?_; intro h s
  unfold Map_iu_newNode.j1; exact H n kb h (s.perm (by ((apply perm_rg; intro f; simp only [set_cons_zero, set_cons_succ, eraseIdx_cons_zero, eraseIdx_cons_succ, cons_append, nil_append, map_append, map_cons, map_nil, List.sum_append, List.sum_cons, List.sum_nil, map_flatMap, Nat.add_zero, Nat.zero_add]; ac_rfl))))
theorem updateCount_leaf {n b o len : Nat} {c1 c2 iv : Value} {xs sp : List Value} (s : St h0 Z ((n, 0, [c1, c2, iv, .pointer none]) :: E) h) (w : Own 1 iv len b o xs sp)
    (H : ∀ h', St h0 Z ((n, 0, [c1, .int .i64 len, iv, .pointer none]) :: E) h' → Q (.tuple #[]) h') : mapNode_iu_updateCount.call #[ptr n 0] h Q := by
  refine mapNode_iu_updateCount.body _ _ _ ?_; unfold mapNode_iu_updateCount.sh; refine r_nil ?_; refine r_fld ?_; refine St.r_load0 s 0 rfl rfl ?_; refine w.lenV ?_; refine r_nil ?_; refine r_fld ?_; refine St.r_store0 s 0 rfl (by simp) rfl ?_; intro h s
  try simp only [List.set_cons_zero, List.set_cons_succ] at s
  refine leaf_ok (a := none) (s.get (k := 0) (j := 3) rfl (by simp)) ?_; refine r_not ?_; refine r_if (fun e => absurd e (by decide)) (fun _ => ?_)
  exact H _ s
theorem updateCount_inner {n kb b o rb ro len : Nat} {c1 c2 iv kv : Value} {xs sp ksp : List Value} {ids : List Nat} {c : Nat → Int} (s : St h0 Z ((n, 0, [c1, c2, iv, ptr kb 0]) :: (kb, 0, [kv]) :: (rb, ro, (ids.map fun m => ptr m 0) ++ ksp) :: E) h)
    (w : Own 1 iv len b o xs sp) (wkid : Own 1 kv ids.length rb ro (ids.map fun m => ptr m 0) ksp) (hids : ids.length ≤ 4294967296)
    (hc : ∀ j (hj : j < ids.length), ∃ a1 a2 a3, (ids[j], 0, [a1, .int .i64 (c j), a2, a3]) ∈ E ++ Z) (hb : ∀ j, j ≤ ids.length → 0 ≤ (len : Int) + ((List.range j).map c).sum ∧ (len : Int) + ((List.range j).map c).sum ≤ 9223372036854775807)
    (H : ∀ h', St h0 Z ((n, 0, [c1, .int .i64 ((len : Int) + ((List.range ids.length).map c).sum), iv, ptr kb 0]) :: (kb, 0, [kv]) :: (rb, ro, (ids.map fun m => ptr m 0) ++ ksp) :: E) h' → Q (.tuple #[]) h') : mapNode_iu_updateCount.call #[ptr n 0] h Q := by
  refine mapNode_iu_updateCount.body _ _ _ ?_; unfold mapNode_iu_updateCount.sh; refine r_nil ?_; refine r_fld ?_; refine St.r_load0 s 0 rfl rfl ?_; refine w.lenV ?_; refine r_nil ?_; refine r_fld ?_; refine St.r_store0 s 0 rfl (by simp) rfl ?_; intro h s
  try simp only [List.set_cons_zero, List.set_cons_succ] at s
  refine leaf_ok (a := some ⟨kb, 0, none⟩) (s.get (k := 0) (j := 3) rfl (by simp)) ?_; refine r_not ?_; refine r_if (fun _ => ?_) (fun e => absurd e (by simp))
  refine loop_intro (fun t h => ∃ j : Nat, t = [.int .i64 j] ∧ j ≤ ids.length ∧ St h0 Z ((n, 0, [c1, .int .i64 ((len : Int) + ((List.range j).map c).sum), iv, ptr kb 0]) :: (kb, 0, [kv]) :: (rb, ro, (ids.map fun m => ptr m 0) ++ ksp) :: E) h)
    (fun t _ => ids.length - (Hp.iv (t.getD 0 undef)).toNat) ⟨0, rfl, by omega, by simpa using s⟩ ?_
  rintro t h ⟨j, rfl, hj, s⟩
  unfold mapNode_iu_updateCount.l1.b; refine r_nil ?_; refine r_fld ?_; refine St.r_load0 s 0 rfl rfl ?_; refine r_nil ?_; refine St.r_load0 s 1 rfl rfl ?_; refine wkid.lenV ?_; refine r_cmpI ?_; refine r_if (fun hlt => ?_) (fun hge => ?_)
  · have hlt : j < ids.length := by simpa using hlt
    unfold mapNode_iu_updateCount.j2; refine r_nil ?_; refine r_fld ?_; refine St.r_load0 s 0 rfl rfl ?_; refine r_nil ?_; refine r_fld ?_; refine St.r_load0 s 0 rfl rfl ?_; refine r_nil ?_; refine St.r_load0 s 1 rfl rfl ?_; refine wkid.idx (n := j) rfl hlt ?_; refine s.r_load1 2 rfl (v := ptr ids[j] 0) (by rw [Nat.mul_one, List.getElem?_append_left (by simpa using hlt), List.getElem?_map, List.getElem?_eq_getElem hlt]; rfl) ?_; obtain ⟨a1, a2, a3, hm⟩ := hc j hlt; refine r_nil ?_; refine r_fld ?_; refine s.r_loadM (xs := [a1, .int .i64 (c j), a2, a3]) (by simp only [List.cons_append, List.mem_cons]; exact .inr (.inr (.inr hm))) rfl ?_; refine r_add (z := (len : Int) + ((List.range (j + 1)).map c).sum) ?_ ?_
    · have := hb (j + 1) hlt
      rw [List.range_succ, List.map_append, List.sum_append] at this ⊢
      simp only [List.map_cons, List.map_nil, List.sum_cons, List.sum_nil] at this ⊢
      rw [i64w (by omega) (by omega)]; omega
    · refine r_nil ?_
      refine r_fld ?_; refine St.r_store0 s 0 rfl (by simp) rfl ?_; intro h s
      try simp only [List.set_cons_zero, List.set_cons_succ] at s
      unfold mapNode_iu_updateCount.j3; refine r_add (z := ((j + 1 : Nat) : Int)) (by rw [i64w (by omega) (by omega)]; omega) ?_; exact ⟨⟨j + 1, rfl, hlt, s⟩, by simp; omega⟩
  · have hge : j = ids.length := by simp at hge; omega
    subst hge; exact H h s
end Go.Proofs.Ytdpkpcmoabfofaa.Iu
end
section
namespace Go.Proofs.Ytdpkpcmoabfofaa.Iu
open Go.Hp Go.Proofs.Ytdpkpcmoabfofaa
variable {h0 h : Heap} {Z E : List Rg} {Q : Value → Heap → Prop}
structure Gd (iso : Int) {k : Nat} (t : GT It k) : Prop where
  wf : t.Wf enc 1 iso
  cn : t.Cn
  mine : t.Mine
theorem Gd.kid {iso : Int} {k : Nat} {t : GT It (k + 1)} (g : Gd iso t) {c : GT It k} (hc : c ∈ t.2) : Gd iso c := ⟨(g.wf.2.2.2 c hc).1, g.cn.2 c hc, g.mine.2 c hc⟩
abbrev fp (m : Nat) : List Value := [ptr m 0]
theorem fpl (m : Nat) : (fp m).length = 1 := rfl
theorem mfp (l : List Nat) : (l.map fun m => ptr m 0) = l.flatMap fp := List.map_eq_flatMap
theorem GT.topA : ∀ {k : Nat} {t : GT It k}, ∃ a1 a2 a3, (t.id, 0, [a1, .int .i64 t.nd.cnt, a2, a3]) ∈ t.all enc
  | 0, d => ⟨_, _, _, List.mem_cons_self ..⟩
  | _ + 1, t => ⟨_, _, _, List.mem_append.2 (.inl (List.mem_cons_self ..))⟩
theorem r_div {k : IntKind} {x y z : Int} {K : Value → Prop} (hy : y ≠ 0) (hz : k.wrap (x.tdiv y) = z) (H : K (.int k z)) : divi (.int k x) (.int k y) K := ⟨k, x, y, rfl, rfl, hy, by rw [hz]; exact H⟩
theorem half {m : Nat} (hm : m ≤ 1048576) : IntKind.wrap .i64 ((m : Int).tdiv 2) = ((m / 2 : Nat) : Int) := by
  have : (m : Int).tdiv 2 = ((m / 2 : Nat) : Int) := (Int.ofNat_tdiv m 2).symm
  rw [this, i64w (by omega) (by omega)]
theorem updateCount_kids {k : Nat} {ts : List (GT It k)} {n kb b o rb ro len : Nat} {c1 c2 iv kv : Value} {xs sp ksp : List Value}
    (s : St h0 Z ((n, 0, [c1, c2, iv, ptr kb 0]) :: (kb, 0, [kv]) :: (rb, ro, (ts.map GT.id).flatMap fp ++ ksp) :: E) h)
    (w : Own 1 iv len b o xs sp) (wK : Own 1 kv (ts.map GT.id).length rb ro ((ts.map GT.id).flatMap fp) ksp) (hm : ∀ t ∈ ts, t.Cn) (hE : ∀ t ∈ ts, ∀ r ∈ t.all enc, r ∈ E)
    (hl : ts.length ≤ 1048576) (hsz : len + (ts.map fun t => t.pt.items.length).sum ≤ 4611686018427387904)
    (H : ∀ h', St h0 Z ((n, 0, [c1, .int .i64 ((len + (ts.map fun t => t.pt.items.length).sum : Nat) : Int), iv, ptr kb 0]) :: (kb, 0, [kv]) :: (rb, ro, (ts.map GT.id).flatMap fp ++ ksp) :: E) h' → Q (.tuple #[]) h') : mapNode_iu_updateCount.call #[ptr n 0] h Q := by
  have hmm : (ts.map fun t => t.pt.items).map List.length = ts.map fun t => t.pt.items.length := by rw [List.map_map]; rfl
  have hsum : ∀ i, i ≤ ts.length → ((List.range i).map fun j => (ts.map fun t => t.nd.cnt)[j]?.getD 0).sum = (((ts.map fun t => t.pt.items.length).take i).sum : Nat) := fun i hi => by
    rw [sum_range _ i (by simpa using hi), ← List.map_take, GT.Cn.sum (fun t ht => hm t (List.mem_of_mem_take ht)), List.map_map, ← List.map_take]; rfl
  rw [← mfp] at s wK; refine updateCount_inner (c := fun j => (ts.map fun t => t.nd.cnt)[j]?.getD 0) s w wK (by simp; omega) (fun i hi => ?_) (fun i hi => ?_) fun h s => ?_
  · have hi' : i < ts.length := by simpa using hi
    obtain ⟨a1, a2, a3, hmem⟩ := GT.topA (t := ts[i]); refine ⟨a1, a2, a3, ?_⟩
    simp only [List.getElem_map, List.getElem?_map, List.getElem?_eq_getElem hi', Option.map_some, Option.getD_some]
    exact List.mem_append.2 (.inl (hE _ (List.getElem_mem hi') _ hmem))
  · rw [hsum i (by simpa using hi)]
    have := sum_take_le (ts.map fun t => t.pt.items.length) i
    omega
  · rw [show (ts.map GT.id).length = ts.length by simp, hsum _ (Nat.le_refl _), List.take_of_length_le (by simp)] at s
    rw [mfp] at s; exact H h (by rw [Int.natCast_add]; exact s)
theorem nodeSplit_ok : ∀ {k : Nat} (t : GT It k) {h : Heap} {E : List Rg} {tb m lo : Nat} {iso mn : Int} {ctr : Option Addr}, (tb, 0, hd0 iso ctr) ∈ Z → (tb, 4, hd4 mn m) ∈ Z → 0 < m → m ≤ 1024 → t.pt.Fl m lo → t.pt.its.length = m → t.pt.items.length ≤ 4611686018427387904 → Gd iso t →
    St h0 Z (t.all enc ++ E) h → (∀ (l r : GT It k) md h', t.pt.its[m / 2]? = some md → l.pt = t.pt.lo (m / 2) → r.pt = t.pt.hi (m / 2) → l.id = t.id → Gd iso l → Gd iso r → St h0 Z (l.all enc ++ (r.all enc ++ E)) h' → Q (.tuple #[ptr r.id 0, .agg (enc md).toArray]) h') →
    Map_iu_nodeSplit.call #[ptr tb 0, ptr t.id 0] h Q
  | 0, (d : Nd It), h, E, tb, m, lo, iso, mn, ctr, hT0, hT4, hm0, hm1, fl, hlen, hsz, g, s, H => by
    obtain ⟨own, n, is', cnt, its, iv, ib, io, isp, kb, kv, krb, kro, ksp⟩ := d
    have hi : ∀ {E h}, St h0 Z E h → cl h tb 0 = some (.int .u64 iso) := fun s => by have := s.getZ hT0 (j := 0) (by simp); simpa using this
    have hlen : its.length = m := hlen
    have w : Own 1 iv its.length ib io (its.flatMap enc) isp := g.wf.1
    have s : St h0 Z ((n, 0, [.int .u64 is', .int .i64 cnt, iv, .pointer none]) :: (ib, io, its.flatMap enc ++ isp) :: E) h := s
    have hiso : is' = iso := g.wf.2.1 g.mine
    subst hiso; obtain ⟨md, hmd⟩ : ∃ md, its[m / 2]? = some md := ⟨its[m / 2]'(by omega), List.getElem?_eq_getElem (by omega)⟩
    show Map_iu_nodeSplit.call #[ptr tb 0, ptr n 0] h Q
    refine Map_iu_nodeSplit.body _ _ _ _ ?_; unfold Map_iu_nodeSplit.sh; refine s.r_alloc fun t5 h s => ?_; refine r_nil ?_; refine r_fld ?_; refine s.r_lz hT4 2 rfl rfl ?_; refine r_div (by decide) (half (by omega)) ?_; refine r_nil ?_; refine r_fld ?_; refine St.r_load0 s 1 rfl rfl ?_; refine w.idx (n := m / 2) rfl (by omega) ?_; refine s.r_loadF encl 2 rfl hmd ?_; refine St.r_storeN0 s 0 rfl rfl (by simp) (enc1 _) ?_; intro h s
    refine leaf_ok (a := none) (s.get (k := 1) (j := 3) rfl (by simp)) ?_; refine newNode_leaf (hi s) fun n' h s1 => ?_
    have s := s.join s1
    refine r_nil ?_; refine r_fld ?_; refine St.r_load0 s 2 rfl rfl ?_; refine r_add (z := ((m / 2 + 1 : Nat) : Int)) (by rw [i64w (by omega) (by omega)]; omega) ?_; refine w.slcLo encl (i := m / 2 + 1) rfl (by omega) fun vr wr => ?_; refine r_nil ?_; refine r_fld ?_; refine St.r_store0 s 0 rfl (by simp) wr.one ?_; intro h s
    refine leaf_ok (a := none) (s.get (k := 2) (j := 3) rfl (by simp)) ?_; refine r_not ?_; refine r_if (fun e => absurd e (by decide)) (fun _ => ?_)
    unfold Map_iu_nodeSplit.j1; refine updateCount_leaf s wr fun h s => ?_; refine r_nil ?_; refine r_fld ?_; refine St.r_load0 s 2 rfl rfl ?_; refine r_nil ?_; refine r_fld ?_; refine s.r_lzN hT4 0 rfl (by simp) ?_; refine w.idx (n := m / 2) rfl (by omega) ?_; refine s.r_storeF (x := emp) encl 3 rfl (by omega) (enc1 _) fun h s => ?_; refine r_nil ?_; refine r_fld ?_; refine St.r_load0 s 2 rfl rfl ?_; refine w.slc3 encl (i := m / 2) rfl rfl (by omega) fun vl wl => ?_; refine r_nil ?_; refine r_fld ?_; refine St.r_store0 s 2 rfl (by simp) wl.one ?_; intro h s
    refine leaf_ok (a := none) (s.get (k := 2) (j := 3) rfl (by simp)) ?_; refine r_not ?_; refine r_if (fun e => absurd e (by decide)) (fun _ => ?_)
    unfold Map_iu_nodeSplit.j2; refine updateCount_leaf (s.front 2 rfl) wl fun h s => ?_; refine St.r_loadN0 s 2 rfl (by simp) ?_; refine St.r_storeN0 s 2 rfl rfl (by simp) (enc1 _) ?_; intro h s
    refine St.r_loadN0 s 2 rfl (by simp) ?_
    have s : St h0 Z ((n, 0, [.int .u64 is', .int .i64 (its.take (m / 2)).length, vl, .pointer none]) :: (n', 0, [.int .u64 is', .int .i64 (its.drop (m / 2 + 1)).length, vr, .pointer none]) :: (t5, 0, enc md) :: (ib, io, (its.set (m / 2) emp).flatMap enc ++ isp) :: E) h := s
    have s := St.cut3 encl (x := emp) (i := m / 2) (s.front 3 rfl) (by rw [List.getElem?_set_self (by omega)])
    rw [List.take_set_of_le (Nat.le_refl _), List.drop_set_of_lt (by omega)] at s
    have hl1 : (its.take (m / 2)).length = m / 2 := by rw [List.length_take]; omega
    refine H (⟨true, n, is', (its.take (m / 2)).length, its.take (m / 2), vl, ib, io, [], 0, .pointer none, 0, 0, []⟩ : Nd It) (⟨true, n', is', (its.drop (m / 2 + 1)).length, its.drop (m / 2 + 1), vr, ib, io + (m / 2 + 1) * 1, isp, 0, .pointer none, 0, 0, []⟩ : Nd It) md h hmd rfl rfl rfl ⟨⟨wl, by simp⟩, rfl, rfl⟩ ⟨⟨wr, by simp⟩, rfl, rfl⟩ ?_; exact (s.perm (E' := (ib, io + m / 2 * 1, enc emp) :: (t5, 0, enc md) :: (n, 0, [.int .u64 is', .int .i64 (its.take (m / 2)).length, vl, .pointer none]) :: (ib, io, (its.take (m / 2)).flatMap enc ++ []) :: (n', 0, [.int .u64 is', .int .i64 (its.drop (m / 2 + 1)).length, vr, .pointer none]) :: (ib, io + (m / 2 + 1) * 1, (its.drop (m / 2 + 1)).flatMap enc ++ isp) :: E) (by rw [List.append_nil]; ((apply perm_rg; intro f; simp only [set_cons_zero, set_cons_succ, eraseIdx_cons_zero, eraseIdx_cons_succ, cons_append, nil_append, map_append, map_cons, map_nil, List.sum_append, List.sum_cons, List.sum_nil, map_flatMap, Nat.add_zero, Nat.zero_add]; ac_rfl)))).drop 2
  | k + 1, t, h, E, tb, m, lo, iso, mn, ctr, hT0, hT4, hm0, hm1, fl, hlen, hsz, g, s, H => by
    obtain ⟨d, ts⟩ := t; obtain ⟨own, n, is', cnt, its, iv, ib, io, isp, kb, kv, krb, kro, ksp⟩ := d
    have hi : ∀ {E h}, St h0 Z E h → cl h tb 0 = some (.int .u64 iso) := fun s => by have := s.getZ hT0 (j := 0) (by simp); simpa using this
    have hlen : its.length = m := hlen
    have w : Own 1 iv its.length ib io (its.flatMap enc) isp := g.wf.1.1
    have wK : Own 1 kv ts.length krb kro ((ts.map GT.id).map fun m => ptr m 0) ksp := g.wf.2.1
    have hkl : ts.length = its.length + 1 := g.wf.2.2.1
    have hidl : (ts.map GT.id).length = ts.length := List.length_map ..
    have hiso : is' = iso := g.wf.1.2.1 g.mine.1
    subst hiso; rw [← hidl, mfp] at wK
    have s : St h0 Z ((n, 0, [.int .u64 is', .int .i64 cnt, iv, ptr kb 0]) :: (ib, io, its.flatMap enc ++ isp) :: (kb, 0, [kv]) :: (krb, kro, ((ts.map GT.id).map fun m => ptr m 0) ++ ksp) :: (ts.flatMap (GT.all enc) ++ E)) h := s
    rw [mfp] at s
    have hmem : ∀ t ∈ ts, ∀ r ∈ t.all enc, r ∈ ts.flatMap (GT.all enc) ++ E := fun t ht r hr => List.mem_append.2 (.inl (List.mem_flatMap.2 ⟨t, ht, hr⟩))
    have hsz' : its.length + (ts.map fun t => t.pt.items.length).sum ≤ 4611686018427387904 := by
      have h1 : (inter its ((ts.map GT.pt).map PT.items)).length = _ := inter_length _ _
      rw [List.map_map, List.map_map] at h1
      have h2 : (inter its ((ts.map GT.pt).map PT.items)).length ≤ 4611686018427387904 := hsz
      rw [List.map_map] at h2; rw [h1] at h2; exact h2
    have hcn : ∀ t ∈ ts, t.Cn := fun t ht => g.cn.2 t ht
    have hsum : (ts.map fun t => t.pt.items.length).sum = ((ts.take (m / 2 + 1)).map fun t => t.pt.items.length).sum + ((ts.drop (m / 2 + 1)).map fun t => t.pt.items.length).sum := by
      rw [← List.sum_append, ← List.map_append, List.take_append_drop]
    obtain ⟨md, hmd⟩ : ∃ md, its[m / 2]? = some md := ⟨its[m / 2]'(by omega), List.getElem?_eq_getElem (by omega)⟩
    show Map_iu_nodeSplit.call #[ptr tb 0, ptr n 0] h Q
    refine Map_iu_nodeSplit.body _ _ _ _ ?_; unfold Map_iu_nodeSplit.sh; refine s.r_alloc fun t5 h s => ?_; refine r_nil ?_; refine r_fld ?_; refine s.r_lz hT4 2 rfl rfl ?_; refine r_div (by decide) (half (by omega)) ?_; refine r_nil ?_; refine r_fld ?_; refine St.r_load0 s 1 rfl rfl ?_; refine w.idx (n := m / 2) rfl (by omega) ?_; refine s.r_loadF encl 2 rfl hmd ?_; refine St.r_storeN0 s 0 rfl rfl (by simp) (enc1 _) ?_; intro h s
    refine leaf_ok (a := some ⟨kb, 0, none⟩) (s.get (k := 1) (j := 3) rfl (by simp)) ?_; refine newNode_inner (hi s) fun n' kb' h s1 => ?_
    have s := s.join s1
    refine r_nil ?_; refine r_fld ?_; refine St.r_load0 s 3 rfl rfl ?_; refine r_add (z := ((m / 2 + 1 : Nat) : Int)) (by rw [i64w (by omega) (by omega)]; omega) ?_; refine w.slcLo encl (i := m / 2 + 1) rfl (by omega) fun vr wr => ?_; refine r_nil ?_; refine r_fld ?_; refine St.r_store0 s 0 rfl (by simp) wr.one ?_; intro h s
    refine leaf_ok (a := some ⟨kb, 0, none⟩) (s.get (k := 3) (j := 3) rfl (by simp)) ?_; refine r_not ?_; refine r_if (fun _ => ?_) (fun e => absurd e (by simp))
    refine r_nil ?_; refine r_fld ?_; refine St.r_load0 s 0 rfl rfl ?_; refine r_nil ?_; refine r_fld ?_; refine St.r_load0 s 3 rfl rfl ?_; refine r_nil ?_; refine St.r_load0 s 5 rfl rfl ?_; refine r_add (z := ((m / 2 + 1 : Nat) : Int)) (by rw [i64w (by omega) (by omega)]; omega) ?_; refine wK.slcLo fpl (i := m / 2 + 1) rfl (by omega) fun vkr wkr => ?_; refine r_nil ?_; refine St.r_store0 s 1 rfl (by simp) wkr.one ?_; intro h s
    unfold Map_iu_nodeSplit.j1
    have ecut : (ts.map GT.id).flatMap fp ++ ksp = ((ts.take (m / 2 + 1)).map GT.id).flatMap fp ++ (((ts.drop (m / 2 + 1)).map GT.id).flatMap fp ++ ksp) := by
      rw [← List.append_assoc, ← List.flatMap_append, ← List.map_append, List.take_append_drop]
    have s := s.front 6 rfl
    rw [ecut] at s
    have s := s.cut
    rw [flat_len fpl, List.length_map, List.length_take, Nat.min_eq_left (show m / 2 + 1 ≤ ts.length by omega)] at s; rw [← List.map_drop] at wkr
    refine updateCount_kids (ts := ts.drop (m / 2 + 1)) (s.perm (E' := (n', 0, _) :: (kb', 0, _) :: (krb, kro + (m / 2 + 1) * 1, ((ts.drop (m / 2 + 1)).map GT.id).flatMap fp ++ ksp) :: (krb, kro, ((ts.take (m / 2 + 1)).map GT.id).flatMap fp) :: (t5, 0, enc md) :: (n, 0, [.int .u64 is', .int .i64 cnt, iv, ptr kb 0]) :: (ib, io, its.flatMap enc ++ isp) :: (kb, 0, [kv]) :: (ts.flatMap (GT.all enc) ++ E)) (by ((apply perm_rg; intro f; simp only [set_cons_zero, set_cons_succ, eraseIdx_cons_zero, eraseIdx_cons_succ, cons_append, nil_append, map_append, map_cons, map_nil, List.sum_append, List.sum_cons, List.sum_nil, map_flatMap, Nat.add_zero, Nat.zero_add]; ac_rfl)))) wr wkr (fun t ht => hcn t (List.mem_of_mem_drop ht))
      (fun t ht r hr => by have := hmem t (List.mem_of_mem_drop ht) r hr; simp only [List.mem_cons]; exact .inr (.inr (.inr (.inr (.inr this))))) (by rw [List.length_drop]; omega) (by rw [List.length_drop]; omega) fun h s => ?_
    refine r_nil ?_; refine r_fld ?_; refine St.r_load0 s 5 rfl rfl ?_; refine r_nil ?_; refine r_fld ?_; refine s.r_lzN hT4 0 rfl (by simp) ?_; refine w.idx (n := m / 2) rfl (by omega) ?_; refine s.r_storeF (x := emp) encl 6 rfl (by omega) (enc1 _) fun h s => ?_; refine r_nil ?_; refine r_fld ?_; refine St.r_load0 s 5 rfl rfl ?_; refine w.slc3 encl (i := m / 2) rfl rfl (by omega) fun vl wl => ?_; refine r_nil ?_; refine r_fld ?_; refine St.r_store0 s 5 rfl (by simp) wl.one ?_; intro h s
    refine leaf_ok (a := some ⟨kb, 0, none⟩) (s.get (k := 5) (j := 3) rfl (by simp)) ?_; refine r_not ?_; refine r_if (fun _ => ?_) (fun e => absurd e (by simp))
    refine r_nil ?_; refine r_fld ?_; refine St.r_load0 s 5 rfl rfl ?_; refine r_nil ?_; refine r_fld ?_; refine St.r_load0 s 5 rfl rfl ?_; refine r_nil ?_; refine St.r_load0 s 7 rfl rfl ?_; refine r_add (z := ((m / 2 + 1 : Nat) : Int)) (by rw [i64w (by omega) (by omega)]; omega) ?_; refine r_add (z := ((m / 2 + 1 : Nat) : Int)) (by rw [i64w (by omega) (by omega)]; omega) ?_; refine wK.slc3 fpl (i := m / 2 + 1) rfl rfl (by omega) fun vkl wkl => ?_; refine r_nil ?_; refine St.r_store0 s 7 rfl (by simp) wkl.one ?_; intro h s
    unfold Map_iu_nodeSplit.j2; rw [← List.map_take] at wkl
    have s : St h0 Z ((n, 0, [.int .u64 is', .int .i64 cnt, vl, ptr kb 0]) :: (kb, 0, [vkl]) :: (krb, kro, ((ts.take (m / 2 + 1)).map GT.id).flatMap fp ++ []) :: (n', 0, [.int .u64 is', .int .i64 (((its.drop (m / 2 + 1)).length + ((ts.drop (m / 2 + 1)).map fun t => t.pt.items.length).sum : Nat) : Int), vr, ptr kb' 0]) :: (kb', 0, [vkr]) :: (krb, kro + (m / 2 + 1) * 1, ((ts.drop (m / 2 + 1)).map GT.id).flatMap fp ++ ksp) :: (t5, 0, enc md) :: (ib, io, (its.set (m / 2) emp).flatMap enc ++ isp) :: (ts.flatMap (GT.all enc) ++ E)) h := s.perm (by rw [List.append_nil]; ((apply perm_rg; intro f; simp only [set_cons_zero, set_cons_succ, eraseIdx_cons_zero, eraseIdx_cons_succ, cons_append, nil_append, map_append, map_cons, map_nil, List.sum_append, List.sum_cons, List.sum_nil, map_flatMap, Nat.add_zero, Nat.zero_add]; ac_rfl)))
    refine updateCount_kids (ts := ts.take (m / 2 + 1)) s wl wkl (fun t ht => hcn t (List.mem_of_mem_take ht))
      (fun t ht r hr => by have := hmem t (List.mem_of_mem_take ht) r hr; simp only [List.mem_cons]; exact .inr (.inr (.inr (.inr (.inr this))))) (by rw [List.length_take]; omega) (by rw [List.length_take]; omega) fun h s => ?_
    refine St.r_loadN0 s 6 rfl (by simp) ?_; refine St.r_storeN0 s 6 rfl rfl (by simp) (enc1 _) ?_; intro h s
    refine St.r_loadN0 s 6 rfl (by simp) ?_
    have s := St.cut3 encl (x := emp) (i := m / 2) (s.front 7 rfl) (by rw [List.getElem?_set_self (by omega)])
    rw [List.take_set_of_le (Nat.le_refl _), List.drop_set_of_lt (by omega)] at s
    have cnt' : ∀ (a : List It) (b : List (GT It k)), (inter a ((b.map GT.pt).map PT.items)).length = a.length + (b.map fun t => t.pt.items.length).sum := fun a b => by
      rw [inter_length, List.map_map, List.map_map]; rfl
    refine H ((⟨true, n, is', (((its.take (m / 2)).length + ((ts.take (m / 2 + 1)).map fun t => t.pt.items.length).sum : Nat) : Int), its.take (m / 2), vl, ib, io, [], kb, vkl, krb, kro, []⟩ : Nd It), ts.take (m / 2 + 1)) ((⟨true, n', is', (((its.drop (m / 2 + 1)).length + ((ts.drop (m / 2 + 1)).map fun t => t.pt.items.length).sum : Nat) : Int), its.drop (m / 2 + 1), vr, ib, io + (m / 2 + 1) * 1, isp, kb', vkr, krb, kro + (m / 2 + 1) * 1, ksp⟩ : Nd It), ts.drop (m / 2 + 1)) md h hmd ?_ ?_ rfl ?_ ?_ ?_
    · show (its.take (m / 2), (ts.take (m / 2 + 1)).map GT.pt) = (its.take (m / 2), (ts.map GT.pt).take (m / 2 + 1)); rw [List.map_take]
    · show (its.drop (m / 2 + 1), (ts.drop (m / 2 + 1)).map GT.pt) = (its.drop (m / 2 + 1), (ts.map GT.pt).drop (m / 2 + 1)); rw [List.map_drop]
    · refine ⟨⟨⟨wl, by simp⟩, ?_, ?_, fun c hc => ⟨(g.wf.2.2.2 c (List.mem_of_mem_take hc)).1, fun e => by simp at e⟩⟩, ⟨?_, fun c hc => g.cn.2 c (List.mem_of_mem_take hc)⟩, ⟨rfl, fun c hc => g.mine.2 c (List.mem_of_mem_take hc)⟩⟩
      · rw [mfp]; rw [List.length_map] at wkl; exact wkl
      · show (ts.take (m / 2 + 1)).length = (its.take (m / 2)).length + 1; rw [List.length_take, List.length_take]; omega
      · exact congrArg Int.ofNat (cnt' _ _).symm
    · refine ⟨⟨⟨wr, by simp⟩, ?_, ?_, fun c hc => ⟨(g.wf.2.2.2 c (List.mem_of_mem_drop hc)).1, fun e => by simp at e⟩⟩, ⟨?_, fun c hc => g.cn.2 c (List.mem_of_mem_drop hc)⟩, ⟨rfl, fun c hc => g.mine.2 c (List.mem_of_mem_drop hc)⟩⟩
      · rw [mfp]; rw [List.length_map] at wkr; exact wkr
      · show (ts.drop (m / 2 + 1)).length = (its.drop (m / 2 + 1)).length + 1; rw [List.length_drop, List.length_drop]; omega
      · exact congrArg Int.ofNat (cnt' _ _).symm
    · have ef : ts.flatMap (GT.all enc) = (ts.take (m / 2 + 1)).flatMap (GT.all enc) ++ (ts.drop (m / 2 + 1)).flatMap (GT.all enc) := by rw [← List.flatMap_append, List.take_append_drop]
      have s := (s.perm (E' := (ib, io + m / 2 * 1, enc emp) :: (t5, 0, enc md) :: (((n, 0, [.int .u64 is', .int .i64 (((its.take (m / 2)).length + ((ts.take (m / 2 + 1)).map fun t => t.pt.items.length).sum : Nat) : Int), vl, ptr kb 0]) :: (ib, io, (its.take (m / 2)).flatMap enc ++ []) :: (kb, 0, [vkl]) :: (krb, kro, ((ts.take (m / 2 + 1)).map GT.id).flatMap fp ++ []) :: (ts.take (m / 2 + 1)).flatMap (GT.all enc)) ++
        (((n', 0, [.int .u64 is', .int .i64 (((its.drop (m / 2 + 1)).length + ((ts.drop (m / 2 + 1)).map fun t => t.pt.items.length).sum : Nat) : Int), vr, ptr kb' 0]) :: (ib, io + (m / 2 + 1) * 1, (its.drop (m / 2 + 1)).flatMap enc ++ isp) :: (kb', 0, [vkr]) :: (krb, kro + (m / 2 + 1) * 1, ((ts.drop (m / 2 + 1)).map GT.id).flatMap fp ++ ksp) :: (ts.drop (m / 2 + 1)).flatMap (GT.all enc)) ++ E))) (by rw [List.append_nil, List.append_nil, ef]; ((apply perm_rg; intro f; simp only [set_cons_zero, set_cons_succ, eraseIdx_cons_zero, eraseIdx_cons_succ, cons_append, nil_append, map_append, map_cons, map_nil, List.sum_append, List.sum_cons, List.sum_nil, map_flatMap, Nat.add_zero, Nat.zero_add]; ac_rfl)))).drop 2
      rw [← mfp, ← mfp] at s; exact s
end Go.Proofs.Ytdpkpcmoabfofaa.Iu
end
section
namespace Go.Proofs.Ytdpkpcmoabfofaa.Iu
open Go.Hp Go.Proofs.Ytdpkpcmoabfofaa
variable {h0 h : Heap} {Z E : List Rg} {Q : Value → Heap → Prop}
abbrev old (r : Option It) : Value := vv (r.getD emp).2
theorem snoc_enc (l : List It) (e : It) : l.flatMap enc ++ enc e = (l ++ [e]).flatMap enc := by rw [List.flatMap_append, List.flatMap_singleton]
theorem Gd.leaf {iso : Int} {d : Nd It} (w : Own 1 d.iv d.its.length d.ib d.io (d.its.flatMap enc) d.isp) (ho : d.own = true) (hi : d.iso = iso) (hc : d.cnt = d.its.length) : Gd iso (k := 0) d := ⟨⟨w, by simp [ho, hi]⟩, hc, ho⟩
theorem Gd.inner {iso : Int} {k : Nat} {d : Nd It} {ts : List (GT It k)} (w : Own 1 d.iv d.its.length d.ib d.io (d.its.flatMap enc) d.isp) (ho : d.own = true) (hi : d.iso = iso) (wK : Own 1 d.kv ts.length d.krb d.kro ((ts.map GT.id).flatMap fp) d.ksp)
    (hl : ts.length = d.its.length + 1) (hk : ∀ c ∈ ts, Gd iso c) (hc : d.cnt = (GT.pt (h := k + 1) (d, ts)).items.length) : Gd iso (k := k + 1) (d, ts) :=
  ⟨⟨⟨w, by simp [ho, hi]⟩, by rw [mfp]; exact wK, hl, fun c hc => ⟨(hk c hc).wf, fun e => by rw [ho] at e; cases e⟩⟩, ⟨hc, fun c hc => (hk c hc).cn⟩, ⟨ho, fun c hc => (hk c hc).mine⟩⟩
theorem set_head {n ib io pb po tb : Nat} {iso cnt : Int} {ctr : Option Addr} {iv kp : Value} {its : List It} {isp : List Value} {x : It} (hT0 : (tb, 0, hd0 iso ctr) ∈ Z) (ha : Asc lt its) (hb : its.length ≤ 1024)
    (w : Own 1 iv its.length ib io (its.flatMap enc) isp) (s : St h0 Z ((pb, po, [ptr n 0]) :: (n, 0, [.int .u64 iso, .int .i64 cnt, iv, kp]) :: (ib, io, its.flatMap enc ++ isp) :: E) h)
    (H1 : ∀ y h', lget lt its x = some y → St h0 Z ((pb, po, [ptr n 0]) :: (n, 0, [.int .u64 iso, .int .i64 cnt, iv, kp]) :: (ib, io, (lput lt its x).flatMap enc ++ isp) :: E) h' → Q (.tuple #[vv y.2, .bool true, .bool false]) h')
    (H2 : ∀ t5 t6 t9 h', lget lt its x = none → St h0 Z ((t9, 0, [ptr n 0]) :: (t5, 0, enc x) :: (pb, po, [ptr n 0]) :: (n, 0, [.int .u64 iso, .int .i64 cnt, iv, kp]) :: (ib, io, its.flatMap enc ++ isp) :: E) h' → Map_iu_nodeSet.j1 (ptr tb 0) (ptr t5 0) (ptr t6 0) (ptr t9 0) (.int .i64 (pos lt its x)) h' Q) :
    Map_iu_nodeSet.call #[ptr tb 0, ptr pb po, .agg (enc x).toArray] h Q := by
  refine Map_iu_nodeSet.body _ _ _ _ _ ?_; unfold Map_iu_nodeSet.sh; refine St.r_box (cs := enc x) s fun t5 h s => ?_; refine s.r_alloc fun t6 h s => ?_
  have s := s.drop 1
  refine isoLoad_ok (n := n) (iso := iso) (by have := s.getZ hT0 (j := 0) (by simp); simpa using this) (by have := s.get (k := 1) (j := 0) rfl (by simp); simpa using this) (fun _ => by have := s.get (k := 2) (j := 0) rfl (by simp); simpa using this) ?_; refine s.r_alloc fun t9 h s => ?_; refine St.r_store0 s 0 rfl (by simp) rfl ?_; intro h s
  try simp only [List.set_cons_zero, List.set_cons_succ] at s
  refine St.r_load0 s 0 rfl rfl ?_; refine r_fld ?_; refine St.r_load0 s 1 rfl rfl ?_; refine search_ok (x := x) ha (by omega) (by have := s.get (k := 3) (j := 2) rfl (by simp); simpa using this) (w.rdl s 4 rfl) ?_; refine r_ext rfl ?_; refine r_ext rfl ?_; refine r_if (fun hf => ?_) (fun hn => ?_)
  · obtain ⟨y, hy⟩ := Option.isSome_iff_exists.1 hf
    obtain ⟨hp, hyy, _⟩ := lget_some hy
    have hy2 : its[pos lt its x]? = some y := by rw [List.getElem?_eq_getElem hp, hyy]
    refine St.r_load0 s 0 rfl rfl ?_; refine r_nil ?_; refine r_fld ?_; refine St.r_load0 s 3 rfl rfl ?_; refine w.idx (n := pos lt its x) rfl hp ?_; refine r_fldZE zall s 4 rfl (by rw [List.length_append, flat_len encl]; omega) ?_; refine r_ld00 ?_; refine r_st00 ?_; refine St.r_load0 s 0 rfl rfl ?_; refine r_nil ?_; refine r_fld ?_; refine St.r_load0 s 3 rfl rfl ?_; refine St.r_loadN0 s 1 rfl (by simp) ?_; refine w.idx (n := pos lt its x) rfl hp ?_; refine s.r_storeF (x := x) encl 4 rfl hp (enc1 _) fun h s => ?_; rw [← lput_found hy] at s; refine r_ld00 ?_; refine r_st00 ?_; refine r_ld00 ?_; exact H1 y h hy (s.drop 2)
  · have hn : lget lt its x = none := by cases e : lget lt its x with
      | none => rfl
      | some y => rw [e] at hn; cases hn
    exact H2 t5 t6 t9 h hn s
theorem set_leaf {n ib io i t5 t6 t9 tb : Nat} {cnt mn mx : Int} {c1 iv kp : Value} {its : List It} {isp : List Value} {x : It} (htb : h0.size ≤ tb) (hT4 : (tb, 4, hd4 mn mx) ∈ Z) (hl : its.length ≤ 1024) (hi : i ≤ its.length) (hc0 : 0 ≤ cnt) (hc : cnt ≤ 4611686018427387904)
    (w : Own 1 iv its.length ib io (its.flatMap enc) isp) (s : St h0 Z ((t9, 0, [ptr n 0]) :: (t5, 0, enc x) :: (n, 0, [c1, .int .i64 cnt, iv, kp]) :: (ib, io, its.flatMap enc ++ isp) :: E) h)
    (H : ∀ iv' ib' io' isp' h', Own 1 iv' (ins its i x).length ib' io' ((ins its i x).flatMap enc) isp' → St h0 Z ((n, 0, [c1, .int .i64 (cnt + 1), iv', kp]) :: (ib', io', (ins its i x).flatMap enc ++ isp') :: E) h' → Q (.tuple #[vv emp.2, .bool false, .bool false]) h') :
    Map_iu_nodeSet.j6 (ptr tb 0) (ptr t5 0) (ptr t6 0) (ptr t9 0) (.int .i64 i) h Q := by
  unfold Map_iu_nodeSet.j6; refine St.r_load0 s 0 rfl rfl ?_; refine St.r_load0 s 0 rfl rfl ?_; refine r_nil ?_; refine r_fld ?_; refine St.r_load0 s 2 rfl rfl ?_; refine r_nil ?_; refine r_fld ?_; refine s.r_lzE hT4 0 (enc emp) rfl (by simp) rfl ?_; refine St.r_mkSl (sz := 1) (cs := enc emp) s (by ((simp only [fillV, fill1, Value.cells, zeros_succ, zeros_zero, size_toArray, length_cons, length_nil, length_append, take_succ_cons, take_zero, take_nil, drop_succ_cons, drop_zero, drop_nil, cons_append, nil_append, append_nil, Nat.reduceAdd, Nat.reduceMul, Nat.reduceLeDiff, Nat.reduceEqDiff, and_self, and_true, true_and, if_true, Nat.le_refl, Nat.zero_add, Nat.add_zero, Nat.zero_mul, reduceIte, if_false] <;> rfl))) rfl fun q h s w1 => ?_; refine And.intro (by exact St.r_still0 s 1 rfl rfl) ?_; refine And.intro (by exact St.r_still0 s 1 rfl rfl) ?_; refine And.intro (by exact St.r_still0 s 3 rfl rfl) ?_; refine St.r_app s 4 (sz := 1) (n := 1) (new := enc emp) rfl w rfl (w1.rdl s 0 rfl) (enc1 _) (by omega) (by omega) fun v' b' o' sp' h s w' => ?_; rw [snoc_enc] at s w'
  have w' : Own 1 v' (its ++ [emp]).length b' o' ((its ++ [emp]).flatMap enc) sp' := by rw [List.length_append]; exact w'
  refine And.intro (by exact St.r_still0 s 1 rfl rfl) ?_; refine r_nil ?_; refine r_fld ?_; refine St.r_store0 s 3 rfl (by simp) w'.one ?_; intro h s
  refine St.r_load0 s 1 rfl rfl ?_; refine r_nil ?_; refine r_fld ?_; refine St.r_load0 s 3 rfl rfl ?_; refine r_add (z := ((i + 1 : Nat) : Int)) (by rw [i64w (by omega) (by omega)]; omega) ?_; refine w'.slcLo encl (i := i + 1) rfl (by simp; omega) fun d wd => ?_; refine St.r_load0 s 1 rfl rfl ?_; refine r_nil ?_; refine r_fld ?_; refine St.r_load0 s 3 rfl rfl ?_; refine (w'.rdl s 4 rfl).slcLo encl (i := i) rfl (by simp; omega) fun src rs => ?_; refine s.r_cpyF encl 4 (L := its ++ [emp]) (M := (its ++ [emp]).drop i) rfl wd (by simp; omega) rs rfl (fun y _ => enc1 y) fun h s => ?_; refine St.r_load0 s 1 rfl rfl ?_; refine r_nil ?_; refine r_fld ?_; refine St.r_load0 s 3 rfl rfl ?_; refine St.r_loadN0 s 2 rfl (by simp) ?_; refine w'.idx (n := i) rfl (by simp; omega) ?_; refine s.r_storeF (x := x) encl 4 rfl (by simp; omega) (enc1 _) fun h s => ?_; rw [List.set_set, ins_steps its emp x hi] at s; refine St.r_load0 s 1 rfl rfl ?_; refine r_nil ?_; refine r_fld ?_; refine St.r_load0 s 3 rfl rfl ?_; refine r_add (z := cnt + 1) (by rw [i64w (by omega) (by omega)]) ?_; refine r_nil ?_; refine r_fld ?_; refine St.r_store0 s 3 rfl (by simp) rfl ?_; intro h s
  refine r_nil ?_; refine r_fld ?_; refine r_fldZT zall s htb hT4 (by simp) ?_; refine r_ld00 ?_; refine r_st00 ?_; refine r_ld00 ?_; refine H v' b' o' sp' h ?_ (s.drop 3)
  have e := ins_length (x := x) hi
  rw [show (ins its i x).length = (its ++ [emp]).length by rw [e]; simp]; exact w'.cong (by rw [flat_len encl, flat_len encl, e]; simp)
def SetOk (h0 : Heap) (Z : List Rg) (tb m : Nat) (iso : Int) (x : It) (k : Nat) : Prop :=
  ∀ (t : GT It k) {h : Heap} {E : List Rg} {Q : Value → Heap → Prop} {pb po lo : Nat}, t.pt.Fl m lo → Asc lt t.pt.items → t.pt.items.length ≤ 4611686018427387903 → Gd iso t → St h0 Z ((pb, po, [ptr t.id 0]) :: (t.all enc ++ E)) h →
    (∀ (t' : GT It k) h', t'.pt = (if t.pt.splits lt m x then t.pt else t.pt.set lt m x) → t'.id = t.id → Gd iso t' → St h0 Z ((pb, po, [ptr t.id 0]) :: (t'.all enc ++ E)) h' →
      Q (.tuple #[old (t.pt.get lt x), .bool (t.pt.get lt x).isSome, .bool (t.pt.splits lt m x)]) h') → Map_iu_nodeSet.call #[ptr tb 0, ptr pb po, .agg (enc x).toArray] h Q
theorem SetOk.zero {tb m : Nat} {iso mn : Int} {ctr : Option Addr} {x : It} (htb : h0.size ≤ tb) (hT0 : (tb, 0, hd0 iso ctr) ∈ Z) (hT4 : (tb, 4, hd4 mn m) ∈ Z) (hm1 : m ≤ 1024) : SetOk h0 Z tb m iso x 0 := by
  intro d h E Q pb po lo fl ha hsz g s H; obtain ⟨own, n, is', cnt, its, iv, ib, io, isp, kb, kv, krb, kro, ksp⟩ := d
  have w : Own 1 iv its.length ib io (its.flatMap enc) isp := g.wf.1
  have hlen : its.length ≤ m := fl.2
  have hcn : cnt = its.length := g.cn
  have ho : own = true := g.mine
  have hiso : is' = iso := g.wf.2.1 ho
  subst hiso; subst ho
  have s : St h0 Z ((pb, po, [ptr n 0]) :: (n, 0, [.int .u64 is', .int .i64 cnt, iv, .pointer none]) :: (ib, io, its.flatMap enc ++ isp) :: E) h := s
  have ha : Asc lt its := ha
  refine set_head hT0 ha (by omega) w s (fun y h' hy s => ?_) fun t5 t6 t9 h' hn s => ?_
  · have hns : PT.splits lt m (h := 0) its x = false := by rw [PT.splits_leaf, hy]; rfl
    have hg : PT.get lt (h := 0) its x = some y := hy
    have hln : (lput lt its x).length = its.length := by rw [lput_length, hy]; rfl
    have := H (⟨true, n, is', cnt, lput lt its x, iv, ib, io, isp, kb, kv, krb, kro, ksp⟩ : Nd It) h' (by show _ = if PT.splits lt m (h := 0) its x = true then _ else _; rw [hns]; rfl) rfl
      (Gd.leaf (by show Own 1 iv (lput lt its x).length ib io ((lput lt its x).flatMap enc) isp; rw [hln]; exact w.cong (by rw [flat_len encl, flat_len encl, hln])) rfl rfl (by show cnt = (lput lt its x).length; rw [hln]; exact hcn)) s
    change Q (.tuple #[old (PT.get lt (h := 0) its x), .bool (PT.get lt (h := 0) its x).isSome, .bool (PT.splits lt m (h := 0) its x)]) h' at this
    rw [hns, hg] at this; exact this
  · unfold Map_iu_nodeSet.j1
    have hg : PT.get lt (h := 0) its x = none := hn
    refine St.r_load0 s 0 rfl rfl ?_; refine leaf_ok (a := none) (s.get (k := 3) (j := 3) rfl (by simp)) ?_; refine r_if (fun _ => ?_) (fun e => absurd e (by simp))
    refine St.r_load0 s 0 rfl rfl ?_; refine r_nil ?_; refine r_fld ?_; refine St.r_load0 s 3 rfl rfl ?_; refine w.lenV ?_; refine r_nil ?_; refine r_fld ?_; refine s.r_lz hT4 2 rfl rfl ?_; refine r_cmpI ?_; refine r_if (fun hfull => ?_) (fun hroom => ?_)
    · have hfull : its.length = m := Int.ofNat_inj.1 (by simpa using hfull)
      have hsp : PT.splits lt m (h := 0) its x = true := by rw [PT.splits_leaf, hn]; simpa using hfull
      refine r_nil ?_; refine r_fld ?_; refine r_fldZT zall s htb hT4 (by simp) ?_; refine r_ld00 ?_; refine r_st00 ?_; refine r_ld00 ?_
      have := H (⟨true, n, is', cnt, its, iv, ib, io, isp, kb, kv, krb, kro, ksp⟩ : Nd It) h' (by show _ = if PT.splits lt m (h := 0) its x = true then _ else _; rw [hsp]; rfl) rfl g (s.drop 2)
      change Q (.tuple #[old (PT.get lt (h := 0) its x), .bool (PT.get lt (h := 0) its x).isSome, .bool (PT.splits lt m (h := 0) its x)]) h' at this
      rw [hsp, hg] at this; exact this
    · have hroom : its.length ≠ m := fun e => by rw [e] at hroom; simp at hroom
      have hsp : PT.splits lt m (h := 0) its x = false := by rw [PT.splits_leaf, hn]; simpa using hroom
      have hp := pos_le (lt := lt) its x
      refine set_leaf (n := n) (t6 := t6) (t5 := t5) (t9 := t9) (x := x) (c1 := .int .u64 is') (kp := .pointer none) (cnt := cnt) (its := its) (E := (pb, po, [ptr n 0]) :: E) htb hT4 (by omega) hp (by omega) (by omega) w (s.perm (by ((apply perm_rg; intro f; simp only [set_cons_zero, set_cons_succ, eraseIdx_cons_zero, eraseIdx_cons_succ, cons_append, nil_append, map_append, map_cons, map_nil, List.sum_append, List.sum_cons, List.sum_nil, map_flatMap, Nat.add_zero, Nat.zero_add]; ac_rfl)))) fun iv' ib' io' isp' h' w' s => ?_; rw [← lput_ins hn] at w' s
      have hln : (lput lt its x).length = its.length + 1 := by rw [lput_length, hn]; rfl
      have := H (⟨true, n, is', cnt + 1, lput lt its x, iv', ib', io', isp', kb, kv, krb, kro, ksp⟩ : Nd It) h' (by show _ = if PT.splits lt m (h := 0) its x = true then _ else _; rw [hsp]; rfl) rfl
        (Gd.leaf w' rfl rfl (by show cnt + 1 = (lput lt its x).length; omega)) (s.front 2 rfl)
      change Q (.tuple #[old (PT.get lt (h := 0) its x), .bool (PT.get lt (h := 0) its x).isSome, .bool (PT.splits lt m (h := 0) its x)]) h' at this
      rw [hsp, hg] at this; exact this
end Go.Proofs.Ytdpkpcmoabfofaa.Iu
end
section
namespace Go.Proofs.Ytdpkpcmoabfofaa.Iu
open Go.Hp Go.Proofs.Ytdpkpcmoabfofaa
variable {h0 h : Heap} {Z E : List Rg} {Q : Value → Heap → Prop}
theorem flat_at3 {β : Type} (f : β → List Rg) {ts : List β} {i : Nat} {c : β} (hc : ts[i]? = some c) : ts.flatMap f = (ts.take i).flatMap f ++ (f c ++ (ts.drop (i + 1)).flatMap f) := by
  conv => lhs; rw [take_at hc, List.flatMap_append, List.flatMap_cons]
theorem set_ids {k : Nat} {ts : List (GT It k)} {i : Nat} {c c' : GT It k} (hc : ts[i]? = some c) (he : c'.id = c.id) : (ts.set i c').map GT.id = ts.map GT.id := by
  obtain ⟨hi, rfl⟩ := List.getElem?_eq_some_iff.1 hc; rw [List.map_set, he]
  apply List.ext_getElem?
  intro j; rw [List.getElem?_set]
  split
  · rename_i e; subst e
    simp [hi]
  · rfl
theorem lend_kid {k : Nat} {ts : List (GT It k)} {i kb krb kro : Nat} {kv : Value} {ksp : List Value} {A : List Rg} {c : GT It k} (hc : ts[i]? = some c)
    (s : St h0 Z (A ++ ((krb, kro, (ts.map GT.id).flatMap fp ++ ksp) :: (ts.flatMap (GT.all enc) ++ E))) h) :
    ∃ E', St h0 Z ((krb, kro + i * 1, [ptr c.id 0]) :: (c.all enc ++ E')) h ∧ ∀ (c' : GT It k) h', c'.id = c.id → St h0 Z ((krb, kro + i * 1, [ptr c.id 0]) :: (c'.all enc ++ E')) h' →
      St h0 Z (A ++ ((krb, kro, ((ts.set i c').map GT.id).flatMap fp ++ ksp) :: ((ts.set i c').flatMap (GT.all enc) ++ E))) h' := by
  have hid : (ts.map GT.id)[i]? = some c.id := by rw [List.getElem?_map, hc]; rfl
  have s1 : St h0 Z ((krb, kro, (ts.map GT.id).flatMap fp ++ ksp) :: (A ++ (ts.flatMap (GT.all enc) ++ E))) h := s.perm (by ((apply perm_rg; intro f; simp only [set_cons_zero, set_cons_succ, eraseIdx_cons_zero, eraseIdx_cons_succ, cons_append, nil_append, map_append, map_cons, map_nil, List.sum_append, List.sum_cons, List.sum_nil, map_flatMap, Nat.add_zero, Nat.zero_add]; ac_rfl)))
  have s2 := St.cut3 fpl s1 hid
  refine ⟨(krb, kro, ((ts.map GT.id).take i).flatMap fp) :: (krb, kro + (i + 1) * 1, ((ts.map GT.id).drop (i + 1)).flatMap fp ++ ksp) :: (A ++ ((ts.take i).flatMap (GT.all enc) ++ ((ts.drop (i + 1)).flatMap (GT.all enc) ++ E))), s2.perm ?_, fun c' h' he s' => ?_⟩
  · rw [flat_at3 (GT.all enc) hc]; ((apply perm_rg; intro f; simp only [set_cons_zero, set_cons_succ, eraseIdx_cons_zero, eraseIdx_cons_succ, cons_append, nil_append, map_append, map_cons, map_nil, List.sum_append, List.sum_cons, List.sum_nil, map_flatMap, Nat.add_zero, Nat.zero_add]; ac_rfl))
  · have hi := (List.getElem?_eq_some_iff.1 hc).1
    have hc' : (ts.set i c')[i]? = some c' := by rw [List.getElem?_set_self hi]
    rw [set_ids hc he, flat_at3 (GT.all enc) hc', List.take_set_of_le (Nat.le_refl _), List.drop_set_of_lt (by omega)]
    have s3 : St h0 Z ((krb, kro, ((ts.map GT.id).take i).flatMap fp) :: (krb, kro + (i + 1) * 1, ((ts.map GT.id).drop (i + 1)).flatMap fp ++ ksp) :: (krb, kro + i * 1, fp c.id) :: (A ++ ((ts.take i).flatMap (GT.all enc) ++ (c'.all enc ++ ((ts.drop (i + 1)).flatMap (GT.all enc) ++ E))))) h' := s'.perm (by ((apply perm_rg; intro f; simp only [set_cons_zero, set_cons_succ, eraseIdx_cons_zero, eraseIdx_cons_succ, cons_append, nil_append, map_append, map_cons, map_nil, List.sum_append, List.sum_cons, List.sum_nil, map_flatMap, Nat.add_zero, Nat.zero_add]; ac_rfl)))
    have s4 := St.glue3 fpl hid s3
    exact s4.perm (by ((apply perm_rg; intro f; simp only [set_cons_zero, set_cons_succ, eraseIdx_cons_zero, eraseIdx_cons_succ, cons_append, nil_append, map_append, map_cons, map_nil, List.sum_append, List.sum_cons, List.sum_nil, map_flatMap, Nat.add_zero, Nat.zero_add]; ac_rfl)))
theorem r_loadM1 {k : Nat} {ts : List (GT It k)} {K : Value → Prop} (s : St h0 Z E h) (j : Nat) {b o i : Nat} {sp : List Value} {c : GT It k} (hk : E[j]? = some (b, o, (ts.map GT.id).flatMap fp ++ sp)) (hc : ts[i]? = some c) (H : K (ptr c.id 0)) : load1 (ptr b (o + i * 1)) h K := by
  have := s.r_load1F (K := K) (r := 0) fpl j hk (show (ts.map GT.id)[i]? = some c.id by rw [List.getElem?_map, hc]; rfl) (v := ptr c.id 0) rfl H
  exact this
theorem Gd.setKid {iso : Int} {k : Nat} {d : Nd It} {ts : List (GT It k)} (g : Gd iso (k := k + 1) (d, ts)) {i : Nat} {c c' : GT It k} (hc : ts[i]? = some c) (he : c'.id = c.id) (g' : Gd iso c') {cnt : Int}
    (hcnt : cnt = (GT.pt (h := k + 1) (d, ts.set i c')).items.length) : Gd iso (k := k + 1) ({ d with cnt := cnt }, ts.set i c') := by
  have wK := g.wf.2.1
  refine Gd.inner g.wf.1.1 g.mine.1 (g.wf.1.2.1 g.mine.1) ?_ (by rw [List.length_set]; exact g.wf.2.2.1) (fun q hq => ?_) hcnt
  · rw [set_ids hc he, List.length_set, ← mfp]; exact wK
  · rcases List.mem_or_eq_of_mem_set hq with e | e
    · exact g.kid e
    · rw [e]; exact g'
theorem set_noSplit {tb m : Nat} {iso mn : Int} {ctr : Option Addr} {x : It} (htb : h0.size ≤ tb) (hT0 : (tb, 0, hd0 iso ctr) ∈ Z) (hT4 : (tb, 4, hd4 mn m) ∈ Z) (hm1 : m ≤ 1024) (ho : m % 2 = 1) {k : Nat} (ih : SetOk h0 Z tb m iso x k)
    (t : GT It (k + 1)) {pb po lo : Nat} (fl : t.pt.Fl m lo) (ha : Asc lt t.pt.items) (hsz : t.pt.items.length ≤ 4611686018427387903) (g : Gd iso t) (s : St h0 Z ((pb, po, [ptr t.id 0]) :: (t.all enc ++ E)) h)
    (hns : ∀ c, t.pt.2[pos lt t.pt.1 x]? = some c → lget lt t.pt.1 x = none → c.splits lt m x = false)
    (H : ∀ (t' : GT It (k + 1)) h', t'.pt = t.pt.set lt m x → t'.id = t.id → Gd iso t' → St h0 Z ((pb, po, [ptr t.id 0]) :: (t'.all enc ++ E)) h' → Q (.tuple #[old (t.pt.get lt x), .bool (t.pt.get lt x).isSome, .bool false]) h') :
    Map_iu_nodeSet.call #[ptr tb 0, ptr pb po, .agg (enc x).toArray] h Q := by
  have hsp : t.pt.splits lt m x = false := by
    cases e : t.pt.splits lt m x with
    | false => rfl
    | true =>
      obtain ⟨_, e2⟩ := PT.splits_len e
      have e2 : lget lt t.pt.1 x = none := e2
      obtain ⟨c, hc, _⟩ := PT.step swo fl ha e2; rw [PT.splits_kid e2 hc, hns c hc e2] at e
      simp at e
  have hset := PT.set_items swo ho fl ha hsp
  have hgi := PT.get_items swo fl ha (x := x)
  obtain ⟨d, ts⟩ := t; obtain ⟨own, n, is', cnt, its, iv, ib, io, isp, kb, kv, krb, kro, ksp⟩ := d
  have w : Own 1 iv its.length ib io (its.flatMap enc) isp := g.wf.1.1
  have wK : Own 1 kv ts.length krb kro ((ts.map GT.id).map fun m => ptr m 0) ksp := g.wf.2.1
  have hkl : ts.length = its.length + 1 := g.wf.2.2.1
  have hidl : (ts.map GT.id).length = ts.length := List.length_map ..
  have hom : own = true := g.mine.1
  have hiso : is' = iso := g.wf.1.2.1 hom
  subst hiso; subst hom
  have hlen : its.length ≤ m := fl.2.1
  have ha1 : Asc lt its := asc_of_sub ha (PT.its_sub1 (its, ts.map GT.pt))
  rw [← hidl, mfp] at wK
  have hcn : cnt = (PT.items (h := k + 1) (its, ts.map GT.pt)).length := g.cn.1
  have s : St h0 Z ((pb, po, [ptr n 0]) :: (n, 0, [.int .u64 is', .int .i64 cnt, iv, ptr kb 0]) :: (ib, io, its.flatMap enc ++ isp) :: (kb, 0, [kv]) :: (krb, kro, ((ts.map GT.id).map fun m => ptr m 0) ++ ksp) :: (ts.flatMap (GT.all enc) ++ E)) h := s
  rw [mfp] at s; refine set_head hT0 ha1 (by omega) w s (fun y h' hy s => ?_) fun t5 t6 t9 h' hn s => ?_
  · have hln : (lput lt its x).length = its.length := by rw [lput_length, hy]; rfl
    have e1 : PT.set lt m (h := k + 1) (its, ts.map GT.pt) x = (lput lt its x, ts.map GT.pt) := PT.set_found (t := (its, ts.map GT.pt)) hy
    have e2 : PT.get lt (h := k + 1) (its, ts.map GT.pt) x = some y := PT.get_found (t := (its, ts.map GT.pt)) hy
    have e3 : (PT.items (h := k + 1) (lput lt its x, ts.map GT.pt)).length = (PT.items (h := k + 1) (its, ts.map GT.pt)).length := by
      have h1 : (PT.set lt m (h := k + 1) (its, ts.map GT.pt) x).items = lput lt (PT.items (h := k + 1) (its, ts.map GT.pt)) x := hset.1
      have h2 : PT.get lt (h := k + 1) (its, ts.map GT.pt) x = lget lt (PT.items (h := k + 1) (its, ts.map GT.pt)) x := hgi
      rw [e1] at h1; rw [h1, lput_length, ← h2, e2]; rfl
    have := H ((⟨true, n, is', cnt, lput lt its x, iv, ib, io, isp, kb, kv, krb, kro, ksp⟩ : Nd It), ts) h' e1.symm rfl
      (Gd.inner (by show Own 1 iv (lput lt its x).length ib io ((lput lt its x).flatMap enc) isp; rw [hln]; exact w.cong (by rw [flat_len encl, flat_len encl, hln])) rfl rfl (by rw [← hidl]; exact wK) (by show ts.length = (lput lt its x).length + 1; rw [hln]; exact hkl) (fun c hc => g.kid hc) (by
        show cnt = ((PT.items (h := k + 1) (lput lt its x, ts.map GT.pt)).length : Int); rw [e3]; exact hcn)) (by rw [← mfp] at s; exact s)
    change Q (.tuple #[old (PT.get lt (h := k + 1) (its, ts.map GT.pt) x), .bool (PT.get lt (h := k + 1) (its, ts.map GT.pt) x).isSome, .bool false]) h' at this
    rw [e2] at this; exact this
  · have hp := pos_le (lt := lt) its x
    obtain ⟨c, hc⟩ : ∃ c, ts[pos lt its x]? = some c := ⟨ts[pos lt its x]'(by omega), List.getElem?_eq_getElem (by omega)⟩
    have hcp : (ts.map GT.pt)[pos lt its x]? = some c.pt := by rw [List.getElem?_map, hc]; rfl
    have hcs : c.pt.splits lt m x = false := hns c.pt hcp hn
    obtain ⟨c0, hc0, hcm, hac, hg0, _⟩ := PT.step (h := k) (t := (its, ts.map GT.pt)) swo fl ha hn
    have : c0 = c.pt := Option.some.inj (hc0.symm.trans hcp)
    subst this
    have hcmem := List.mem_of_getElem? hc
    have e1 : PT.set lt m (h := k + 1) (its, ts.map GT.pt) x = (its, (ts.map GT.pt).set (pos lt its x) (c.pt.set lt m x)) := PT.set_kid (t := (its, ts.map GT.pt)) hn hcp hcs
    have e2 : PT.get lt (h := k + 1) (its, ts.map GT.pt) x = c.pt.get lt x := PT.get_kid (t := (its, ts.map GT.pt)) hn hcp
    have hcsz : c.pt.items.length ≤ 4611686018427387903 := by
      have h1 : (inter its ((ts.map GT.pt).map PT.items)).length = _ := inter_length _ _
      have h2 : (inter its ((ts.map GT.pt).map PT.items)).length ≤ 4611686018427387903 := hsz
      have h3 : c.pt.items.length ≤ (((ts.map GT.pt).map PT.items).map List.length).sum := mem_le_sum (by
        rw [List.map_map, List.map_map]; exact List.mem_map.2 ⟨c, hcmem, rfl⟩)
      omega
    unfold Map_iu_nodeSet.j1; refine St.r_load0 s 0 rfl rfl ?_; refine leaf_ok (a := some ⟨kb, 0, none⟩) (s.get (k := 3) (j := 3) rfl (by simp)) ?_; refine r_if (fun e => absurd e (by simp)) (fun _ => ?_)
    unfold Map_iu_nodeSet.j2; refine St.r_load0 s 0 rfl rfl ?_; refine r_nil ?_; refine r_fld ?_; refine St.r_load0 s 3 rfl rfl ?_; refine r_nil ?_; refine St.r_load0 s 5 rfl rfl ?_; refine wK.idx (n := pos lt its x) rfl (by omega) ?_; refine St.r_loadN0 s 1 rfl (by simp) ?_; obtain ⟨E', sk, back⟩ := lend_kid (A := (t9, 0, [ptr n 0]) :: (t5, 0, enc x) :: (pb, po, [ptr n 0]) :: (n, 0, [.int .u64 is', .int .i64 cnt, iv, ptr kb 0]) :: (ib, io, its.flatMap enc ++ isp) :: (kb, 0, [kv]) :: []) (E := E) (kb := kb) (kv := kv) hc s; refine ih c (fl.2.2.2 _ hcm) hac hcsz (g.kid hcmem) sk fun c' h' hc1 hc2 hc3 s => ?_; rw [hcs] at hc1 ⊢
    simp only [Bool.false_eq_true, ↓reduceIte] at hc1
    have s := back c' h' hc2 s
    have s : St h0 Z ((t9, 0, [ptr n 0]) :: (t5, 0, enc x) :: (pb, po, [ptr n 0]) :: (n, 0, [.int .u64 is', .int .i64 cnt, iv, ptr kb 0]) :: (ib, io, its.flatMap enc ++ isp) :: (kb, 0, [kv]) :: (krb, kro, ((ts.set (pos lt its x) c').map GT.id).flatMap fp ++ ksp) :: ((ts.set (pos lt its x) c').flatMap (GT.all enc) ++ E)) h' := s
    have ept : (ts.set (pos lt its x) c').map GT.pt = (ts.map GT.pt).set (pos lt its x) (c.pt.set lt m x) := by rw [List.map_set, hc1]
    have hlenI : (PT.items (h := k + 1) (its, (ts.set (pos lt its x) c').map GT.pt)).length = (PT.items (h := k + 1) (its, ts.map GT.pt)).length + if (c.pt.get lt x).isSome then 0 else 1 := by
      have h1 : (PT.set lt m (h := k + 1) (its, ts.map GT.pt) x).items = lput lt (PT.items (h := k + 1) (its, ts.map GT.pt)) x := hset.1
      have h2 : PT.get lt (h := k + 1) (its, ts.map GT.pt) x = lget lt (PT.items (h := k + 1) (its, ts.map GT.pt)) x := hgi
      rw [e1, ← ept] at h1; rw [h1, lput_length, ← h2, e2]
    have fin : ∀ cnt' h', cnt' = (((PT.items (h := k + 1) (its, (ts.set (pos lt its x) c').map GT.pt)).length : Nat) : Int) →
        St h0 Z ((t9, 0, [ptr n 0]) :: (t5, 0, enc x) :: (pb, po, [ptr n 0]) :: (n, 0, [.int .u64 is', .int .i64 cnt', iv, ptr kb 0]) :: (ib, io, its.flatMap enc ++ isp) :: (kb, 0, [kv]) :: (krb, kro, ((ts.set (pos lt its x) c').map GT.id).flatMap fp ++ ksp) :: ((ts.set (pos lt its x) c').flatMap (GT.all enc) ++ E)) h' →
        Q (.tuple #[old (c.pt.get lt x), .bool (c.pt.get lt x).isSome, .bool false]) h' := by
      intro cnt' h' hcnt' s
      have := H ((⟨true, n, is', cnt', its, iv, ib, io, isp, kb, kv, krb, kro, ksp⟩ : Nd It), ts.set (pos lt its x) c') h' (by show (its, (ts.set (pos lt its x) c').map GT.pt) = _; rw [ept]; exact e1.symm) rfl
        (Gd.setKid (d := ⟨true, n, is', cnt, its, iv, ib, io, isp, kb, kv, krb, kro, ksp⟩) g hc hc2 hc3 hcnt') (by rw [← mfp] at s; exact s.drop 2)
      change Q (.tuple #[old (PT.get lt (h := k + 1) (its, ts.map GT.pt) x), .bool (PT.get lt (h := k + 1) (its, ts.map GT.pt) x).isSome, .bool false]) h' at this
      rw [e2] at this; exact this
    refine r_ext rfl ?_; refine r_ext rfl ?_; refine r_ext rfl ?_; refine r_st00 ?_; refine r_if (fun e => absurd e (by simp)) (fun _ => ?_)
    unfold Map_iu_nodeSet.j3; refine r_not ?_; refine r_if (fun hr => ?_) (fun hr => ?_)
    · have hr : (c.pt.get lt x).isSome = false := by simpa using hr
      rw [hr] at hlenI; refine St.r_load0 s 0 rfl rfl ?_; refine r_nil ?_; refine r_fld ?_; refine St.r_load0 s 3 rfl rfl ?_; refine r_add (z := cnt + 1) (by have : (PT.items (h := k + 1) (its, ts.map GT.pt)).length ≤ 4611686018427387903 := hsz; rw [i64w (by omega) (by omega)]) ?_; refine r_nil ?_; refine r_fld ?_; refine St.r_store0 s 3 rfl (by simp) rfl ?_; intro h s
      unfold Map_iu_nodeSet.j4; refine r_ld00 ?_; refine r_st00 ?_; refine r_ld00 ?_; exact fin (cnt + 1) h (by rw [hlenI, hcn]; simp) s
    · have hr : (c.pt.get lt x).isSome = true := by simpa using hr
      rw [hr] at hlenI; unfold Map_iu_nodeSet.j4; refine r_ld00 ?_; refine r_st00 ?_; refine r_ld00 ?_; exact fin cnt h' (by rw [hlenI, hcn]; simp) s
end Go.Proofs.Ytdpkpcmoabfofaa.Iu
end
section
namespace Go.Proofs.Ytdpkpcmoabfofaa.Iu
open Go.Hp Go.Proofs.Ytdpkpcmoabfofaa
variable {h0 h : Heap} {Z E : List Rg} {Q : Value → Heap → Prop}
abbrev pp (m : Nat) : Value := ptr m 0
theorem fpv (l : List Nat) : l.flatMap fp = (l.map pp).flatMap fv := by rw [flat_fv]; exact List.map_eq_flatMap.symm
theorem SetOk.succ {tb m : Nat} {iso mn : Int} {ctr : Option Addr} {x : It} (htb : h0.size ≤ tb) (hT0 : (tb, 0, hd0 iso ctr) ∈ Z) (hT4 : (tb, 4, hd4 mn m) ∈ Z) (hm1 : m ≤ 1024) (ho : m % 2 = 1) {k : Nat} (ih : SetOk h0 Z tb m iso x k) : SetOk h0 Z tb m iso x (k + 1) := by
  intro t h E Q pb po lo fl ha hsz g s H
  by_cases hns : ∀ c, t.pt.2[pos lt t.pt.1 x]? = some c → lget lt t.pt.1 x = none → c.splits lt m x = false
  · have hsp : t.pt.splits lt m x = false := by
      cases e : t.pt.splits lt m x with
      | false => rfl
      | true =>
        obtain ⟨_, e2⟩ := PT.splits_len e
        have e2 : lget lt t.pt.1 x = none := e2
        obtain ⟨c, hc, _⟩ := PT.step swo fl ha e2; rw [PT.splits_kid e2 hc, hns c hc e2] at e
        simp at e
    refine set_noSplit htb hT0 hT4 hm1 ho ih t fl ha hsz g s hns fun t' h' h1 h2 h3 s => ?_
    have := H t' h' (by rw [hsp]; exact h1) h2 h3 s
    rw [hsp] at this; exact this
  have hex : ∃ cp, t.pt.2[pos lt t.pt.1 x]? = some cp ∧ lget lt t.pt.1 x = none ∧ cp.splits lt m x = true := by
    apply Classical.byContradiction
    intro hno; refine hns fun c h1 h2 => ?_
    cases e : c.splits lt m x with
    | false => rfl
    | true => exact absurd ⟨c, h1, h2, e⟩ hno
  clear hns; obtain ⟨cp, hcp, hn, hcs⟩ := hex; obtain ⟨c0, hc0, hcm, hac, hg0, _⟩ := PT.step swo fl ha hn
  have : c0 = cp := Option.some.inj (hc0.symm.trans hcp)
  subst this
  have hgn := PT.splits_get swo (fl.2.2.2 _ hcm) hac hcs
  have hgt : t.pt.get lt x = none := by rw [PT.get_items swo fl ha, hg0, hgn]
  have hgc : c0.get lt x = none := by rw [PT.get_items swo (fl.2.2.2 _ hcm) hac, hgn]
  obtain ⟨md, hmd, _⟩ := PT.halves swo ho (fl.2.2.2 _ hcm) hac hcs; obtain ⟨d, ts⟩ := t; obtain ⟨own, n, is', cnt, its, iv, ib, io, isp, kb, kv, krb, kro, ksp⟩ := d
  have w : Own 1 iv its.length ib io (its.flatMap enc) isp := g.wf.1.1
  have wK : Own 1 kv ts.length krb kro ((ts.map GT.id).map fun m => ptr m 0) ksp := g.wf.2.1
  have hkl : ts.length = its.length + 1 := g.wf.2.2.1
  have hidl : (ts.map GT.id).length = ts.length := List.length_map ..
  have hom : own = true := g.mine.1
  have hiso : is' = iso := g.wf.1.2.1 hom
  subst hiso; subst hom
  have hlen : its.length ≤ m := fl.2.1
  have hn : lget lt its x = none := hn
  have hcp : (ts.map GT.pt)[pos lt its x]? = some c0 := hcp
  have ha1 : Asc lt its := asc_of_sub ha (PT.its_sub1 (its, ts.map GT.pt))
  rw [← hidl, mfp] at wK
  have hcn : cnt = (PT.items (h := k + 1) (its, ts.map GT.pt)).length := g.cn.1
  have s : St h0 Z ((pb, po, [ptr n 0]) :: (n, 0, [.int .u64 is', .int .i64 cnt, iv, ptr kb 0]) :: (ib, io, its.flatMap enc ++ isp) :: (kb, 0, [kv]) :: (krb, kro, ((ts.map GT.id).map fun m => ptr m 0) ++ ksp) :: (ts.flatMap (GT.all enc) ++ E)) h := s
  rw [mfp] at s; refine set_head hT0 ha1 (by omega) w s (fun y h' hy s => by rw [hn] at hy; cases hy) fun t5 t6 t9 h' _ s => ?_
  have hp := pos_le (lt := lt) its x
  obtain ⟨c, hc⟩ : ∃ c, ts[pos lt its x]? = some c := ⟨ts[pos lt its x]'(by omega), List.getElem?_eq_getElem (by omega)⟩
  have : c0 = c.pt := by
    rw [List.getElem?_map, hc] at hcp; exact (Option.some.inj hcp).symm
  subst this
  have hcmem := List.mem_of_getElem? hc
  have hcsz : c.pt.items.length ≤ 4611686018427387903 := by
    have h1 : (inter its ((ts.map GT.pt).map PT.items)).length = _ := inter_length _ _
    have h2 : (inter its ((ts.map GT.pt).map PT.items)).length ≤ 4611686018427387903 := hsz
    have h3 : c.pt.items.length ≤ (((ts.map GT.pt).map PT.items).map List.length).sum := mem_le_sum (by
      rw [List.map_map, List.map_map]; exact List.mem_map.2 ⟨c, hcmem, rfl⟩)
    omega
  unfold Map_iu_nodeSet.j1; refine St.r_load0 s 0 rfl rfl ?_; refine leaf_ok (a := some ⟨kb, 0, none⟩) (s.get (k := 3) (j := 3) rfl (by simp)) ?_; refine r_if (fun e => absurd e (by simp)) (fun _ => ?_)
  unfold Map_iu_nodeSet.j2; refine St.r_load0 s 0 rfl rfl ?_; refine r_nil ?_; refine r_fld ?_; refine St.r_load0 s 3 rfl rfl ?_; refine r_nil ?_; refine St.r_load0 s 5 rfl rfl ?_; refine wK.idx (n := pos lt its x) rfl (by omega) ?_; refine St.r_loadN0 s 1 rfl (by simp) ?_; obtain ⟨E', sk, back⟩ := lend_kid (A := (t9, 0, [ptr n 0]) :: (t5, 0, enc x) :: (pb, po, [ptr n 0]) :: (n, 0, [.int .u64 is', .int .i64 cnt, iv, ptr kb 0]) :: (ib, io, its.flatMap enc ++ isp) :: (kb, 0, [kv]) :: []) (E := E) (kb := kb) (kv := kv) hc s; refine ih c (fl.2.2.2 _ hcm) hac hcsz (g.kid hcmem) sk fun c' h' hc1 hc2 hc3 s => ?_; rw [hcs, hgc]; rw [hcs] at hc1
  simp only [↓reduceIte] at hc1
  have s := back c' h' hc2 s
  have s : St h0 Z ((t9, 0, [ptr n 0]) :: (t5, 0, enc x) :: (pb, po, [ptr n 0]) :: (n, 0, [.int .u64 is', .int .i64 cnt, iv, ptr kb 0]) :: (ib, io, its.flatMap enc ++ isp) :: (kb, 0, [kv]) :: (krb, kro, ((ts.set (pos lt its x) c').map GT.id).flatMap fp ++ ksp) :: ((ts.set (pos lt its x) c').flatMap (GT.all enc) ++ E)) h' := s
  have hi := (List.getElem?_eq_some_iff.1 hc).1
  have hc' : (ts.set (pos lt its x) c')[pos lt its x]? = some c' := List.getElem?_set_self hi
  have ept : (ts.set (pos lt its x) c').map GT.pt = ts.map GT.pt := by
    apply List.ext_getElem?
    intro j; rw [List.map_set, List.getElem?_set]
    split
    · rename_i e; subst e
      simp only [List.length_map, hi, if_true]
      rw [hc1]; exact hcp.symm
    · rfl
  have g1 : Gd is' (k := k + 1) ((⟨true, n, is', cnt, its, iv, ib, io, isp, kb, kv, krb, kro, ksp⟩ : Nd It), ts.set (pos lt its x) c') :=
    Gd.setKid g hc hc2 hc3 (by show cnt = ((PT.items (h := k + 1) (its, (ts.set (pos lt its x) c').map GT.pt)).length : Int); rw [ept]; exact hcn)
  refine r_ext rfl ?_; refine r_ext rfl ?_; refine r_ext rfl ?_; refine r_st00 ?_; refine r_if (fun _ => ?_) (fun e => absurd e (by simp))
  refine St.r_load0 s 0 rfl rfl ?_; refine r_nil ?_; refine r_fld ?_; refine St.r_load0 s 3 rfl rfl ?_; refine w.lenV ?_; refine r_nil ?_; refine r_fld ?_; refine s.r_lz hT4 2 rfl rfl ?_; refine r_cmpI ?_; refine r_if (fun hfull => ?_) (fun hroom => ?_)
  · have hfull : its.length = m := Int.ofNat_inj.1 (by simpa using hfull)
    have hsp : PT.splits lt m (h := k + 1) (its, ts.map GT.pt) x = true := by rw [PT.splits_kid (t := (its, ts.map GT.pt)) hn hcp, hcs]; simpa using hfull
    refine r_nil ?_; refine r_fld ?_; refine r_fldZT zall s htb hT4 (by simp) ?_; refine r_ld00 ?_; refine r_st00 ?_; refine r_ld00 ?_
    have := H ((⟨true, n, is', cnt, its, iv, ib, io, isp, kb, kv, krb, kro, ksp⟩ : Nd It), ts.set (pos lt its x) c') h' (by
      show (its, (ts.set (pos lt its x) c').map GT.pt) = if PT.splits lt m (h := k + 1) (its, ts.map GT.pt) x = true then _ else _
      rw [hsp, ept]; rfl) rfl g1 (by rw [← mfp] at s; exact s.drop 2)
    change Q (.tuple #[old (PT.get lt (h := k + 1) (its, ts.map GT.pt) x), .bool (PT.get lt (h := k + 1) (its, ts.map GT.pt) x).isSome, .bool (PT.splits lt m (h := k + 1) (its, ts.map GT.pt) x)]) h' at this
    have hgt : PT.get lt (h := k + 1) (its, ts.map GT.pt) x = none := hgt
    rw [hsp, hgt] at this; exact this
  · have hroom : its.length ≠ m := fun e => by rw [e] at hroom; simp at hroom
    have hsp : PT.splits lt m (h := k + 1) (its, ts.map GT.pt) x = false := by rw [PT.splits_kid (t := (its, ts.map GT.pt)) hn hcp]; simp [hroom]
    obtain ⟨q1, q2, q3, q4, q5⟩ := PT.set_split (t := (its, ts.map GT.pt)) swo ho fl ha hn hcp hcs hmd hroom; unfold Map_iu_nodeSet.j5; refine St.r_load0 s 0 rfl rfl ?_; refine r_nil ?_; refine r_fld ?_; refine St.r_load0 s 3 rfl rfl ?_; refine r_nil ?_; refine St.r_load0 s 5 rfl rfl ?_
    have wk1 : Own 1 kv ((ts.set (pos lt its x) c').map GT.id).length krb kro (((ts.set (pos lt its x) c').map GT.id).flatMap fp) ksp := by rw [set_ids hc hc2]; exact wK
    refine wk1.idx (n := pos lt its x) rfl (by rw [List.length_map, List.length_set]; omega) ?_; refine r_loadM1 s 6 rfl hc' ?_
    have hcl : c'.pt.its.length = m := by rw [hc1]; exact (PT.splits_len hcs).1
    have etake : (ts.set (pos lt its x) c').take (pos lt its x) = ts.take (pos lt its x) := List.take_set_of_le (Nat.le_refl _)
    have edrop : (ts.set (pos lt its x) c').drop (pos lt its x + 1) = ts.drop (pos lt its x + 1) := List.drop_set_of_lt (by omega)
    refine nodeSplit_ok c' (m := m) (E := (t9, 0, [ptr n 0]) :: (t5, 0, enc x) :: (pb, po, [ptr n 0]) :: (n, 0, [.int .u64 is', .int .i64 cnt, iv, ptr kb 0]) :: (ib, io, its.flatMap enc ++ isp) :: (kb, 0, [kv]) :: (krb, kro, (ts.map GT.id).flatMap fp ++ ksp) :: ((ts.take (pos lt its x)).flatMap (GT.all enc) ++ ((ts.drop (pos lt its x + 1)).flatMap (GT.all enc) ++ E)))
      hT0 hT4 (by omega) (by omega) (by rw [hc1]; exact fl.2.2.2 _ hcm) hcl (by rw [hc1]; omega) hc3 (s.perm ?_) fun l r md' h hmd' hl hr hlid gl gr s => ?_
    · rw [set_ids hc hc2, flat_at3 (GT.all enc) hc', etake, edrop]; ((apply perm_rg; intro f; simp only [set_cons_zero, set_cons_succ, eraseIdx_cons_zero, eraseIdx_cons_succ, cons_append, nil_append, map_append, map_cons, map_nil, List.sum_append, List.sum_cons, List.sum_nil, map_flatMap, Nat.add_zero, Nat.zero_add]; ac_rfl))
    have : md' = md := by rw [hc1] at hmd'; exact Option.some.inj (hmd'.symm.trans hmd)
    subst this; rw [hc1] at hl hr
    have s : St h0 Z ((t9, 0, [ptr n 0]) :: (t5, 0, enc x) :: (pb, po, [ptr n 0]) :: (n, 0, [.int .u64 is', .int .i64 cnt, iv, ptr kb 0]) :: (ib, io, its.flatMap enc ++ isp) :: (kb, 0, [kv]) :: (krb, kro, ((ts.map GT.id).map pp).flatMap fv ++ ksp) :: ((ts.take (pos lt its x) ++ l :: r :: ts.drop (pos lt its x + 1)).flatMap (GT.all enc) ++ E)) h :=
      s.perm (by rw [← fpv, List.flatMap_append, List.flatMap_cons, List.flatMap_cons]; ((apply perm_rg; intro f; simp only [set_cons_zero, set_cons_succ, eraseIdx_cons_zero, eraseIdx_cons_succ, cons_append, nil_append, map_append, map_cons, map_nil, List.sum_append, List.sum_cons, List.sum_nil, map_flatMap, Nat.add_zero, Nat.zero_add]; ac_rfl)))
    rw [fpv] at wK
    have hpl : ((ts.map GT.id).map pp).length = ts.length := by rw [List.length_map, List.length_map]
    have elp : (ts.map GT.id).length = ((ts.map GT.id).map pp).length := List.length_map .. |>.symm
    rw [elp] at wK
    generalize hL : (ts.map GT.id).map pp = L at s wK hpl
    refine r_ext rfl ?_; refine r_ext rfl ?_; refine s.r_alloc fun t13 h s => ?_; refine St.r_storeN0 s 0 rfl rfl (by simp) (enc1 _) ?_; intro h s
    refine St.r_load0 s 1 rfl rfl ?_; refine r_nil ?_; refine r_fld ?_; refine St.r_load0 s 4 rfl rfl ?_; refine St.r_load0 s 1 rfl rfl ?_; refine r_nil ?_; refine r_fld ?_; refine St.r_load0 s 4 rfl rfl ?_; refine r_nil ?_; refine St.r_load0 s 6 rfl rfl ?_; refine St.r_mkSl (sz := 1) (cs := [.pointer none]) s (by ((simp only [fillV, fill1, Value.cells, zeros_succ, zeros_zero, size_toArray, length_cons, length_nil, length_append, take_succ_cons, take_zero, take_nil, drop_succ_cons, drop_zero, drop_nil, cons_append, nil_append, append_nil, Nat.reduceAdd, Nat.reduceMul, Nat.reduceLeDiff, Nat.reduceEqDiff, and_self, and_true, true_and, if_true, Nat.le_refl, Nat.zero_add, Nat.add_zero, Nat.zero_mul, reduceIte, if_false] <;> rfl))) rfl fun q h s w1 => ?_; refine And.intro (by exact St.r_still0 s 2 rfl rfl) ?_; refine And.intro (by exact St.r_still0 s 5 rfl rfl) ?_; refine And.intro (by exact St.r_still0 s 2 rfl rfl) ?_; refine And.intro (by exact St.r_still0 s 5 rfl rfl) ?_; refine ⟨by refine St.r_still0 s 7 rfl rfl, ?_⟩
    refine St.r_app s 8 (sz := 1) (n := 1) (new := [.pointer none]) rfl wK rfl (w1.rdl s 0 rfl) (by simp [one1]) (by omega) (by omega) fun kv' krb' kro' ksp' h s wk' => ?_; rw [snoc_fv] at s wk'
    have wk' : Own 1 kv' (L ++ [Value.pointer none]).length krb' kro' ((L ++ [Value.pointer none]).flatMap fv) ksp' := by rw [List.length_append]; exact wk'
    refine And.intro (by exact St.r_still0 s 2 rfl rfl) ?_; refine And.intro (by exact St.r_still0 s 5 rfl rfl) ?_; refine r_nil ?_; refine St.r_store0 s 7 rfl (by simp) wk'.one ?_; intro h s
    refine St.r_load0 s 2 rfl rfl ?_; refine r_nil ?_; refine r_fld ?_; refine St.r_load0 s 5 rfl rfl ?_; refine r_nil ?_; refine St.r_load0 s 7 rfl rfl ?_; refine r_add (z := ((pos lt its x + 1 : Nat) : Int)) (by rw [i64w (by omega) (by omega)]; omega) ?_; refine wk'.slcLo fvl (i := pos lt its x + 1) rfl (by simp; omega) fun dd wd => ?_; refine St.r_load0 s 2 rfl rfl ?_; refine r_nil ?_; refine r_fld ?_; refine St.r_load0 s 5 rfl rfl ?_; refine r_nil ?_; refine St.r_load0 s 7 rfl rfl ?_; refine (wk'.rdl s 8 rfl).slcLo fvl (i := pos lt its x) rfl (by simp; omega) fun src rs => ?_; refine s.r_cpyF fvl 8 (L := L ++ [Value.pointer none]) (M := (L ++ [Value.pointer none]).drop (pos lt its x)) rfl wd (by simp; omega) rs rfl (fun y hy => ?_) fun h s => ?_
    · have hy := List.mem_of_mem_drop hy
      intro z hz; rw [List.mem_singleton.1 hz]
      rcases List.mem_append.1 hy with e | e
      · rw [← hL] at e; obtain ⟨a, _, rfl⟩ := List.mem_map.1 e; rfl
      · rw [List.mem_singleton.1 e]; rfl
    refine St.r_load0 s 2 rfl rfl ?_; refine r_nil ?_; refine r_fld ?_; refine St.r_load0 s 5 rfl rfl ?_; refine r_nil ?_; refine St.r_load0 s 7 rfl rfl ?_; refine r_add (z := ((pos lt its x + 1 : Nat) : Int)) (by rw [i64w (by omega) (by omega)]; omega) ?_; refine wk'.idx (n := pos lt its x + 1) rfl (by simp; omega) ?_; refine s.r_storeV (v := ptr r.id 0) 8 rfl (by simp; omega) rfl fun h s => ?_; rw [List.set_set, ins_steps2 L (.pointer none) (ptr r.id 0) (by omega)] at s; refine St.r_load0 s 2 rfl rfl ?_; refine St.r_load0 s 2 rfl rfl ?_; refine r_nil ?_; refine r_fld ?_; refine St.r_load0 s 5 rfl rfl ?_; refine r_nil ?_; refine r_fld ?_; refine s.r_lzE hT4 0 (enc emp) rfl (by simp) rfl ?_; refine St.r_mkSl (sz := 1) (cs := enc emp) s (by ((simp only [fillV, fill1, Value.cells, zeros_succ, zeros_zero, size_toArray, length_cons, length_nil, length_append, take_succ_cons, take_zero, take_nil, drop_succ_cons, drop_zero, drop_nil, cons_append, nil_append, append_nil, Nat.reduceAdd, Nat.reduceMul, Nat.reduceLeDiff, Nat.reduceEqDiff, and_self, and_true, true_and, if_true, Nat.le_refl, Nat.zero_add, Nat.add_zero, Nat.zero_mul, reduceIte, if_false] <;> rfl))) rfl fun qq h s w2 => ?_; refine And.intro (by exact St.r_still0 s 3 rfl rfl) ?_; refine And.intro (by exact St.r_still0 s 3 rfl rfl) ?_; refine And.intro (by exact St.r_still0 s 6 rfl rfl) ?_; refine St.r_app s 7 (sz := 1) (n := 1) (new := enc emp) rfl w rfl (w2.rdl s 0 rfl) (enc1 _) (by omega) (by omega) fun iv' ib' io' isp' h s w' => ?_; rw [snoc_enc] at s w'
    have w' : Own 1 iv' (its ++ [emp]).length ib' io' ((its ++ [emp]).flatMap enc) isp' := by rw [List.length_append]; exact w'
    refine And.intro (by exact St.r_still0 s 3 rfl rfl) ?_; refine r_nil ?_; refine r_fld ?_; refine St.r_store0 s 6 rfl (by simp) w'.one ?_; intro h s
    refine St.r_load0 s 3 rfl rfl ?_; refine r_nil ?_; refine r_fld ?_; refine St.r_load0 s 6 rfl rfl ?_; refine r_add (z := ((pos lt its x + 1 : Nat) : Int)) (by rw [i64w (by omega) (by omega)]; omega) ?_; refine w'.slcLo encl (i := pos lt its x + 1) rfl (by simp; omega) fun dd2 wd2 => ?_; refine St.r_load0 s 3 rfl rfl ?_; refine r_nil ?_; refine r_fld ?_; refine St.r_load0 s 6 rfl rfl ?_; refine (w'.rdl s 7 rfl).slcLo encl (i := pos lt its x) rfl (by simp; omega) fun src2 rs2 => ?_; refine s.r_cpyF encl 7 (L := its ++ [emp]) (M := (its ++ [emp]).drop (pos lt its x)) rfl wd2 (by simp; omega) rs2 rfl (fun y _ => enc1 y) fun h s => ?_; refine St.r_load0 s 3 rfl rfl ?_; refine r_nil ?_; refine r_fld ?_; refine St.r_load0 s 6 rfl rfl ?_; refine St.r_loadN0 s 2 rfl (by simp) ?_; refine w'.idx (n := pos lt its x) rfl (by simp; omega) ?_; refine s.r_storeF (x := md') encl 7 rfl (by simp; omega) (enc1 _) fun h s => ?_; rw [List.set_set, ins_steps its emp md' hp] at s; refine St.r_loadN0 s 4 rfl (by simp) ?_
    have hil := ins_length (x := md') hp
    have e8 : ins L (pos lt its x + 1) (ptr r.id 0) = ((ts.take (pos lt its x) ++ l :: r :: ts.drop (pos lt its x + 1)).map GT.id).map pp := by
      have e9 : ts.take (pos lt its x + 1) = ts.take (pos lt its x) ++ [c] := by rw [List.take_add_one, hc]; rfl
      unfold ins; rw [← hL, ← List.map_take, ← List.map_take, ← List.map_drop, ← List.map_drop, e9]
      simp only [map_append, map_cons, map_nil, append_assoc, cons_append, nil_append, hlid, hc2]
    rw [e8, ← fpv] at s
    have hl2 : ((ts.take (pos lt its x) ++ l :: r :: ts.drop (pos lt its x + 1)).map GT.id).length = (L ++ [Value.pointer none]).length := by simp; omega
    have wk2 : Own 1 kv' (ts.take (pos lt its x) ++ l :: r :: ts.drop (pos lt its x + 1)).length krb' kro' (((ts.take (pos lt its x) ++ l :: r :: ts.drop (pos lt its x + 1)).map GT.id).flatMap fp) ksp' := by
      rw [← hl2, List.length_map] at wk'; exact wk'.cong (by rw [flat_len fpl, flat_len fvl, hl2])
    have w2' : Own 1 iv' (ins its (pos lt its x) md').length ib' io' ((ins its (pos lt its x) md').flatMap enc) isp' := by
      rw [show (ins its (pos lt its x) md').length = (its ++ [emp]).length by rw [hil]; simp]; exact w'.cong (by rw [flat_len encl, flat_len encl, hil]; simp)
    have ept2 : (ts.take (pos lt its x) ++ l :: r :: ts.drop (pos lt its x + 1)).map GT.pt = (ts.map GT.pt).take (pos lt its x) ++ c.pt.lo (m / 2) :: c.pt.hi (m / 2) :: (ts.map GT.pt).drop (pos lt its x + 1) := by
      rw [List.map_append, List.map_cons, List.map_cons, List.map_take, List.map_drop, hl, hr]
    have g2 : Gd is' (k := k + 1) ((⟨true, n, is', cnt, ins its (pos lt its x) md', iv', ib', io', isp', kb, kv', krb', kro', ksp'⟩ : Nd It), ts.take (pos lt its x) ++ l :: r :: ts.drop (pos lt its x + 1)) := by
      refine Gd.inner w2' rfl rfl wk2 (by show _ = (ins its (pos lt its x) md').length + 1; rw [hil]; simp; omega) (fun q hq => ?_) ?_
      · rcases List.mem_append.1 hq with e | e
        · exact g.kid (List.mem_of_mem_take e)
        · rcases List.mem_cons.1 e with e | e
          · rw [e]; exact gl
          · rcases List.mem_cons.1 e with e | e
            · rw [e]; exact gr
            · exact g.kid (List.mem_of_mem_drop e)
      · show cnt = ((PT.items (h := k + 1) (ins its (pos lt its x) md', (ts.take (pos lt its x) ++ l :: r :: ts.drop (pos lt its x + 1)).map GT.pt)).length : Int)
        rw [ept2, q1]; exact hcn
    have hpt2 : GT.pt (h := k + 1) ((⟨true, n, is', cnt, ins its (pos lt its x) md', iv', ib', io', isp', kb, kv', krb', kro', ksp'⟩ : Nd It), ts.take (pos lt its x) ++ l :: r :: ts.drop (pos lt its x + 1)) = (ins its (pos lt its x) md', (ts.map GT.pt).take (pos lt its x) ++ c.pt.lo (m / 2) :: c.pt.hi (m / 2) :: (ts.map GT.pt).drop (pos lt its x + 1)) := by
      show (_, _) = _; rw [ept2]
    have s : St h0 Z ((t9, 0, [ptr n 0]) :: ((GT.all enc (h := k + 1) ((⟨true, n, is', cnt, ins its (pos lt its x) md', iv', ib', io', isp', kb, kv', krb', kro', ksp'⟩ : Nd It), ts.take (pos lt its x) ++ l :: r :: ts.drop (pos lt its x + 1))) ++ ((pb, po, [ptr n 0]) :: E))) h := by
      have s1 : St h0 Z ((t9, 0, [ptr n 0]) :: (n, 0, [.int .u64 is', .int .i64 cnt, iv', ptr kb 0]) :: (ib', io', (ins its (pos lt its x) md').flatMap enc ++ isp') :: (kb, 0, [kv']) :: (krb', kro', ((ts.take (pos lt its x) ++ l :: r :: ts.drop (pos lt its x + 1)).map GT.id).flatMap fp ++ ksp') :: ((ts.take (pos lt its x) ++ l :: r :: ts.drop (pos lt its x + 1)).flatMap (GT.all enc) ++ ((pb, po, [ptr n 0]) :: E))) h :=
        (s.perm (E' := (qq, 0, _) :: (q, 0, _) :: (t13, 0, _) :: (t5, 0, _) :: _) (by ((apply perm_rg; intro f; simp only [set_cons_zero, set_cons_succ, eraseIdx_cons_zero, eraseIdx_cons_succ, cons_append, nil_append, map_append, map_cons, map_nil, List.sum_append, List.sum_cons, List.sum_nil, map_flatMap, Nat.add_zero, Nat.zero_add]; ac_rfl)))).drop 4
      rw [← mfp] at s1; exact s1
    refine set_noSplit htb hT0 hT4 hm1 ho ih _ (by rw [hpt2]; exact q2) (by rw [hpt2, q1]; exact ha) (by rw [hpt2, q1]; exact hsz) g2 s (fun c2 h1 h2 => ?_) fun t' h' h1 h2 h3 s => ?_
    · rw [hpt2] at h1
      obtain ⟨c3, h3, h4⟩ := q4
      have : c2 = c3 := Option.some.inj (h1.symm.trans h3)
      rw [this]; exact h4
    · have hgt2 : PT.get lt (GT.pt (h := k + 1) ((⟨true, n, is', cnt, ins its (pos lt its x) md', iv', ib', io', isp', kb, kv', krb', kro', ksp'⟩ : Nd It), ts.take (pos lt its x) ++ l :: r :: ts.drop (pos lt its x + 1))) x = none := by
        rw [hpt2, PT.get_items swo q2 (by rw [q1]; exact ha), q1, ← PT.get_items (h := k + 1) (t := (its, ts.map GT.pt)) swo fl ha]; exact hgt
      rw [hgt2]; refine r_ext rfl ?_; refine r_ext rfl ?_; refine r_ext rfl ?_; refine r_st00 ?_; refine r_ld00 ?_
      have := H t' h' (by
        show _ = if PT.splits lt m (h := k + 1) (its, ts.map GT.pt) x = true then _ else _
        rw [hsp, h1, hpt2, q5]; rfl) h2 h3 ((s.drop 1).perm List.perm_middle.symm)
      change Q (.tuple #[old (PT.get lt (h := k + 1) (its, ts.map GT.pt) x), .bool (PT.get lt (h := k + 1) (its, ts.map GT.pt) x).isSome, .bool (PT.splits lt m (h := k + 1) (its, ts.map GT.pt) x)]) h' at this
      have hgt : PT.get lt (h := k + 1) (its, ts.map GT.pt) x = none := hgt
      rw [hsp, hgt] at this; exact this
theorem SetOk.all {tb m : Nat} {iso mn : Int} {ctr : Option Addr} {x : It} (htb : h0.size ≤ tb) (hT0 : (tb, 0, hd0 iso ctr) ∈ Z) (hT4 : (tb, 4, hd4 mn m) ∈ Z) (hm1 : m ≤ 1024) (ho : m % 2 = 1) : ∀ k, SetOk h0 Z tb m iso x k
  | 0 => SetOk.zero htb hT0 hT4 hm1
  | k + 1 => SetOk.succ htb hT0 hT4 hm1 ho (SetOk.all htb hT0 hT4 hm1 ho k)
end Go.Proofs.Ytdpkpcmoabfofaa.Iu
end
section
namespace Go.Proofs.Ytdpkpcmoabfofaa.Iu
open Go.Hp Go.Proofs.Ytdpkpcmoabfofaa
variable {h0 h : Heap} {Z E : List Rg} {Q : Value → Heap → Prop}
abbrev Rt := Option ((k : Nat) × GT It k)
def rA : Rt → Option Addr
  | none => none
  | some t => some ⟨t.2.id, 0, none⟩
def rAll : Rt → List Rg
  | none => []
  | some t => t.2.all enc
def rPt : Rt → MT It
  | none => none
  | some t => some ⟨t.1, t.2.pt⟩
def rGd (iso : Int) : Rt → Prop
  | none => True
  | some t => Gd iso t.2
theorem Set_noSplit {tb m : Nat} {iso mn cnt : Int} {ctr : Option Addr} {x : It} (htb : h0.size ≤ tb) (hT0 : (tb, 0, hd0 iso ctr) ∈ Z) (hT4 : (tb, 4, hd4 mn m) ∈ Z) (hm1 : m ≤ 1024) (ho : m % 2 = 1) {k : Nat} (t : GT It k)
    (fl : t.pt.Fl m 1) (ha : Asc lt t.pt.items) (hsz : t.pt.items.length ≤ 4611686018427387903) (g : Gd iso t) (hcnt : cnt = t.pt.items.length) (hsp : t.pt.splits lt m x = false)
    (s : St h0 Z ((tb, 2, [ptr t.id 0]) :: (tb, 3, [.int .i64 cnt]) :: (t.all enc ++ E)) h)
    (H : ∀ (t' : GT It k) h', t'.pt = t.pt.set lt m x → Gd iso t' → St h0 Z ((tb, 2, [ptr t'.id 0]) :: (tb, 3, [.int .i64 t'.pt.items.length]) :: (t'.all enc ++ E)) h' → Q (.tuple #[old (lget lt t.pt.items x), .bool (lget lt t.pt.items x).isSome]) h') :
    Map_iu_Set.call #[ptr tb 0, kv x.1, vv x.2] h Q := by
  refine Map_iu_Set.body _ _ _ _ _ ?_; unfold Map_iu_Set.sh
  have hset := (PT.set_items swo ho fl ha hsp).1
  have hgi := PT.get_items swo fl ha (x := x)
  refine St.r_box (cs := []) s fun t5 h s => ?_
  have s := s.tail rfl
  refine s.r_alloc fun t6 h s => ?_
  have s := s.tail rfl
  refine r_ld00 ?_
  (apply r_build; (simp only [fillV, fill1, Value.cells, zeros_succ, zeros_zero, size_toArray, length_cons, length_nil, length_append, take_succ_cons, take_zero, take_nil, drop_succ_cons, drop_zero, drop_nil, cons_append, nil_append, append_nil, Nat.reduceAdd, Nat.reduceMul, Nat.reduceLeDiff, Nat.reduceEqDiff, and_self, and_true, true_and, if_true, Nat.le_refl, Nat.zero_add, Nat.add_zero, Nat.zero_mul, reduceIte, if_false] <;> rfl))
  refine s.r_alloc fun t8 h s => ?_; refine St.r_storeN0 s 0 rfl rfl (by simp) (enc1 x) ?_; intro h s
  refine r_nil ?_; refine r_fld ?_; refine s.r_load1 1 (o := 2) (j := 0) rfl rfl ?_; refine r_eqNilP ?_; refine r_if (fun e => absurd e (by simp)) (fun _ => ?_)
  unfold Map_iu_Set.j1; refine r_nil ?_; refine r_fld ?_; refine St.r_loadN0 s 0 rfl (by simp) ?_
  constructor
  · refine SetOk.all htb hT0 hT4 hm1 ho k t (E := (t8, 0, enc x) :: (tb, 3, [.int .i64 cnt]) :: E) (pb := tb) (po := 2) fl ha hsz g (s.perm (by ((apply perm_rg; intro f; simp only [set_cons_zero, set_cons_succ, eraseIdx_cons_zero, eraseIdx_cons_succ, cons_append, nil_append, map_append, map_cons, map_nil, List.sum_append, List.sum_cons, List.sum_nil, map_flatMap, Nat.add_zero, Nat.zero_add]; ac_rfl)))) fun t' h' h1 h2 h3 s => ?_
    rw [hsp] at h1 ⊢
    simp only [Bool.false_eq_true, ↓reduceIte] at h1
    rw [hgi]; refine r_ext rfl ?_; refine r_ext rfl ?_; refine r_ext rfl ?_; refine s.r_alloc fun t9 h' s => ?_
    have s := s.tail rfl
    refine r_st00 ?_; refine r_if (fun e => absurd e (by simp)) (fun _ => ?_)
    unfold Map_iu_Set.j2
    have hl : t'.pt.items.length = t.pt.items.length + if (lget lt t.pt.items x).isSome then 0 else 1 := by rw [h1, hset, lput_length]
    refine r_if (fun hr => ?_) (fun hr => ?_)
    · refine r_ld00 ?_
      refine r_st00 ?_; refine r_ld00 ?_; rw [hr] at hl
      have s : St h0 Z ((tb, 2, [ptr t'.id 0]) :: (tb, 3, [.int .i64 t'.pt.items.length]) :: (t'.all enc ++ E)) h' := by
        have e : ((t.pt.items.length + if true = true then 0 else 1 : Nat) : Int) = cnt := by rw [hcnt]; simp
        rw [h2, hl, e]; exact (s.perm (E' := (t8, 0, enc x) :: (tb, 2, [ptr t.id 0]) :: (tb, 3, [.int .i64 cnt]) :: (t'.all enc ++ E)) (by ((apply perm_rg; intro f; simp only [set_cons_zero, set_cons_succ, eraseIdx_cons_zero, eraseIdx_cons_succ, cons_append, nil_append, map_append, map_cons, map_nil, List.sum_append, List.sum_cons, List.sum_nil, map_flatMap, Nat.add_zero, Nat.zero_add]; ac_rfl)))).drop 1
      have := H t' h' h1 h3 s
      rw [hr] at this; exact this
    · rw [hr] at hl
      have hn : lget lt t.pt.items x = none := by cases e : lget lt t.pt.items x with
        | none => rfl
        | some y => rw [e] at hr; cases hr
      unfold Map_iu_Set.j3
      have s : St h0 Z ((tb, 3, [.int .i64 cnt]) :: (tb, 2, [ptr t.id 0]) :: (t8, 0, enc x) :: (t'.all enc ++ E)) h' := s.perm (by ((apply perm_rg; intro f; simp only [set_cons_zero, set_cons_succ, eraseIdx_cons_zero, eraseIdx_cons_succ, cons_append, nil_append, map_append, map_cons, map_nil, List.sum_append, List.sum_cons, List.sum_nil, map_flatMap, Nat.add_zero, Nat.zero_add]; ac_rfl)))
      refine r_nil ?_; refine r_fld ?_; refine s.r_load1 0 (o := 3) (j := 0) rfl rfl ?_; refine r_add (z := cnt + 1) (by rw [i64w (by omega) (by omega)]) ?_; refine r_nil ?_; refine r_fld ?_; refine St.r_store1 s 0 (o := 3) (j := 0) rfl (by simp) rfl ?_; intro h s
      refine r_nil ?_; refine r_fld ?_; refine r_fldZT zall s htb hT4 (by simp) ?_; refine r_ld00 ?_; refine r_st00 ?_; refine r_ld00 ?_
      have := H t' h h1 h3 (by
        rw [h2, hl]
        have e : ((t.pt.items.length + if false = true then 0 else 1 : Nat) : Int) = cnt + 1 := by rw [hcnt]; simp
        rw [e]; exact (s.perm (E' := (t8, 0, enc x) :: (tb, 2, [ptr t.id 0]) :: (tb, 3, [.int .i64 (cnt + 1)]) :: (t'.all enc ++ E)) (by ((apply perm_rg; intro f; simp only [set_cons_zero, set_cons_succ, eraseIdx_cons_zero, eraseIdx_cons_succ, cons_append, nil_append, map_append, map_cons, map_nil, List.sum_append, List.sum_cons, List.sum_nil, map_flatMap, Nat.add_zero, Nat.zero_add]; ac_rfl)))).drop 1)
      rw [hn] at this; exact this
  · refine s.r_alloc fun t9 h s => ?_
    have s := s.tail rfl
    refine ⟨St.r_stillN0 s 0 rfl (by simp) rfl, ?_⟩
    refine SetOk.all htb hT0 hT4 hm1 ho k t (E := (t8, 0, enc x) :: (tb, 3, [.int .i64 cnt]) :: E) (pb := tb) (po := 2) fl ha hsz g (s.perm (by ((apply perm_rg; intro f; simp only [set_cons_zero, set_cons_succ, eraseIdx_cons_zero, eraseIdx_cons_succ, cons_append, nil_append, map_append, map_cons, map_nil, List.sum_append, List.sum_cons, List.sum_nil, map_flatMap, Nat.add_zero, Nat.zero_add]; ac_rfl)))) fun t' h' h1 h2 h3 s => ?_; rw [hsp] at h1 ⊢
    simp only [Bool.false_eq_true, ↓reduceIte] at h1
    rw [hgi]; refine r_ext rfl ?_; refine r_ext rfl ?_; refine r_ext rfl ?_; refine r_st00 ?_; refine r_if (fun e => absurd e (by simp)) (fun _ => ?_)
    unfold Map_iu_Set.j4
    have hl : t'.pt.items.length = t.pt.items.length + if (lget lt t.pt.items x).isSome then 0 else 1 := by rw [h1, hset, lput_length]
    refine r_if (fun hr => ?_) (fun hr => ?_)
    · refine r_ld00 ?_
      refine r_st00 ?_; refine r_ld00 ?_; rw [hr] at hl
      have s : St h0 Z ((tb, 2, [ptr t'.id 0]) :: (tb, 3, [.int .i64 t'.pt.items.length]) :: (t'.all enc ++ E)) h' := by
        have e : ((t.pt.items.length + if true = true then 0 else 1 : Nat) : Int) = cnt := by rw [hcnt]; simp
        rw [h2, hl, e]; exact (s.perm (E' := (t8, 0, enc x) :: (tb, 2, [ptr t.id 0]) :: (tb, 3, [.int .i64 cnt]) :: (t'.all enc ++ E)) (by ((apply perm_rg; intro f; simp only [set_cons_zero, set_cons_succ, eraseIdx_cons_zero, eraseIdx_cons_succ, cons_append, nil_append, map_append, map_cons, map_nil, List.sum_append, List.sum_cons, List.sum_nil, map_flatMap, Nat.add_zero, Nat.zero_add]; ac_rfl)))).drop 1
      have := H t' h' h1 h3 s
      rw [hr] at this; exact this
    · rw [hr] at hl
      have hn : lget lt t.pt.items x = none := by cases e : lget lt t.pt.items x with
        | none => rfl
        | some y => rw [e] at hr; cases hr
      unfold Map_iu_Set.j5
      have s : St h0 Z ((tb, 3, [.int .i64 cnt]) :: (tb, 2, [ptr t.id 0]) :: (t8, 0, enc x) :: (t'.all enc ++ E)) h' := s.perm (by ((apply perm_rg; intro f; simp only [set_cons_zero, set_cons_succ, eraseIdx_cons_zero, eraseIdx_cons_succ, cons_append, nil_append, map_append, map_cons, map_nil, List.sum_append, List.sum_cons, List.sum_nil, map_flatMap, Nat.add_zero, Nat.zero_add]; ac_rfl)))
      refine r_nil ?_; refine r_fld ?_; refine s.r_load1 0 (o := 3) (j := 0) rfl rfl ?_; refine r_add (z := cnt + 1) (by rw [i64w (by omega) (by omega)]) ?_; refine r_nil ?_; refine r_fld ?_; refine St.r_store1 s 0 (o := 3) (j := 0) rfl (by simp) rfl ?_; intro h s
      refine r_nil ?_; refine r_fld ?_; refine r_fldZT zall s htb hT4 (by simp) ?_; refine r_ld00 ?_; refine r_st00 ?_; refine r_ld00 ?_
      have := H t' h h1 h3 (by
        rw [h2, hl]
        have e : ((t.pt.items.length + if false = true then 0 else 1 : Nat) : Int) = cnt + 1 := by rw [hcnt]; simp
        rw [e]; exact (s.perm (E' := (t8, 0, enc x) :: (tb, 2, [ptr t.id 0]) :: (tb, 3, [.int .i64 (cnt + 1)]) :: (t'.all enc ++ E)) (by ((apply perm_rg; intro f; simp only [set_cons_zero, set_cons_succ, eraseIdx_cons_zero, eraseIdx_cons_succ, cons_append, nil_append, map_append, map_cons, map_nil, List.sum_append, List.sum_cons, List.sum_nil, map_flatMap, Nat.add_zero, Nat.zero_add]; ac_rfl)))).drop 1)
      rw [hn] at this; exact this
theorem Set_cut {tb m : Nat} {iso mn cnt : Int} {ctr : Option Addr} {x : It} (htb : h0.size ≤ tb) (hT0 : (tb, 0, hd0 iso ctr) ∈ Z) (hT4 : (tb, 4, hd4 mn m) ∈ Z) (hm1 : m ≤ 1024) (hm3 : 3 ≤ m) (ho : m % 2 = 1) {k : Nat} (t : GT It k)
    (fl : t.pt.Fl m 1) (ha : Asc lt t.pt.items) (hsz : t.pt.items.length ≤ 4611686018427387903) (g : Gd iso t) (hcnt : cnt = t.pt.items.length)
    (s : St h0 Z ((tb, 2, [ptr t.id 0]) :: (tb, 3, [.int .i64 cnt]) :: (t.all enc ++ E)) h)
    (H : ∀ (g' : (j : Nat) × GT It j) h', rPt (some g') = MT.set lt m (some ⟨k, t.pt⟩) x → Gd iso g'.2 → St h0 Z ((tb, 2, [ptr g'.2.id 0]) :: (tb, 3, [.int .i64 g'.2.pt.items.length]) :: (g'.2.all enc ++ E)) h' → Q (.tuple #[old (lget lt t.pt.items x), .bool (lget lt t.pt.items x).isSome]) h') :
    Map_iu_Set.call #[ptr tb 0, kv x.1, vv x.2] h Q := by
  have hi : ∀ {E h}, St h0 Z E h → cl h tb 0 = some (.int .u64 iso) := fun s => by have := s.getZ hT0 (j := 0) (by simp); simpa using this
  cases hsp : t.pt.splits lt m x with
  | false =>
    refine Set_noSplit htb hT0 hT4 hm1 ho t fl ha hsz g hcnt hsp s fun t' h' h1 h3 s => H ⟨k, t'⟩ h' ?_ h3 s
    show some (⟨k, t'.pt⟩ : (j : Nat) × PT It j) = _
    unfold MT.set
    simp only [hsp, Bool.false_eq_true, ↓reduceIte, h1]
  | true =>
    obtain ⟨md, hmd, _, fll', fh, _, _, _, _, _⟩ := PT.halves swo ho fl ha hsp; obtain ⟨g1, g2, g3, g4⟩ := PT.grow_ok swo ho hm3 fl ha hsp
    have hgn : lget lt t.pt.items x = none := PT.splits_get swo fl ha hsp
    have egrow : t.pt.grow m = (([md], [t.pt.lo (m / 2), t.pt.hi (m / 2)]) : List It × List (PT It k)) := by unfold PT.grow; rw [hmd]; rfl
    refine Map_iu_Set.body _ _ _ _ _ ?_; unfold Map_iu_Set.sh; refine St.r_box (cs := []) s fun t5 h s => ?_
    have s := s.tail rfl
    refine s.r_alloc fun t6 h s => ?_
    have s := s.tail rfl
    refine r_ld00 ?_
    (apply r_build; (simp only [fillV, fill1, Value.cells, zeros_succ, zeros_zero, size_toArray, length_cons, length_nil, length_append, take_succ_cons, take_zero, take_nil, drop_succ_cons, drop_zero, drop_nil, cons_append, nil_append, append_nil, Nat.reduceAdd, Nat.reduceMul, Nat.reduceLeDiff, Nat.reduceEqDiff, and_self, and_true, true_and, if_true, Nat.le_refl, Nat.zero_add, Nat.add_zero, Nat.zero_mul, reduceIte, if_false] <;> rfl))
    refine s.r_alloc fun t8 h s => ?_; refine St.r_storeN0 s 0 rfl rfl (by simp) (enc1 x) ?_; intro h s
    refine r_nil ?_; refine r_fld ?_; refine s.r_load1 1 (o := 2) (j := 0) rfl rfl ?_; refine r_eqNilP ?_; refine r_if (fun e => absurd e (by simp)) (fun _ => ?_)
    unfold Map_iu_Set.j1; refine r_nil ?_; refine r_fld ?_; refine St.r_loadN0 s 0 rfl (by simp) ?_
    constructor
    · refine SetOk.all htb hT0 hT4 hm1 ho k t (E := (t8, 0, enc x) :: (tb, 3, [.int .i64 cnt]) :: E) (pb := tb) (po := 2) fl ha hsz g (s.perm (by ((apply perm_rg; intro f; simp only [set_cons_zero, set_cons_succ, eraseIdx_cons_zero, eraseIdx_cons_succ, cons_append, nil_append, map_append, map_cons, map_nil, List.sum_append, List.sum_cons, List.sum_nil, map_flatMap, Nat.add_zero, Nat.zero_add]; ac_rfl)))) fun t' h' h1 h2 h3 s => ?_
      rw [hsp] at h1 ⊢
      simp only [↓reduceIte] at h1
      refine r_ext rfl ?_; refine r_ext rfl ?_; refine r_ext rfl ?_; refine s.r_alloc fun t9 h' s => ?_
      have s := s.tail rfl
      refine r_st00 ?_; refine r_if (fun _ => ?_) (fun e => absurd e (by simp))
      refine r_nil ?_; refine r_fld ?_; refine s.r_load1 0 (o := 2) (j := 0) rfl rfl ?_; rw [← h2]; refine nodeSplit_ok t' (m := m) (E := (tb, 2, [ptr t.id 0]) :: (t8, 0, enc x) :: (tb, 3, [.int .i64 cnt]) :: E) hT0 hT4 (by omega) (by omega) (by rw [h1]; exact fl) (by rw [h1]; exact (PT.splits_len hsp).1) (by rw [h1]; omega) h3 (s.perm (by ((apply perm_rg; intro f; simp only [set_cons_zero, set_cons_succ, eraseIdx_cons_zero, eraseIdx_cons_succ, cons_append, nil_append, map_append, map_cons, map_nil, List.sum_append, List.sum_cons, List.sum_nil, map_flatMap, Nat.add_zero, Nat.zero_add]; ac_rfl)))) fun l r md' h hmd' hl hr hlid gl gr s => ?_
      have : md' = md := by rw [h1] at hmd'; exact Option.some.inj (hmd'.symm.trans hmd)
      subst this; rw [h1] at hl hr
      have s : St h0 Z ((tb, 2, [ptr t.id 0]) :: (t8, 0, enc x) :: (tb, 3, [.int .i64 cnt]) :: (l.all enc ++ (r.all enc ++ E))) h := s.perm (by ((apply perm_rg; intro f; simp only [set_cons_zero, set_cons_succ, eraseIdx_cons_zero, eraseIdx_cons_succ, cons_append, nil_append, map_append, map_cons, map_nil, List.sum_append, List.sum_cons, List.sum_nil, map_flatMap, Nat.add_zero, Nat.zero_add]; ac_rfl)))
      refine r_ext rfl ?_; refine r_ext rfl ?_; refine s.r_alloc fun t14 h s => ?_; refine St.r_storeN0 s 0 rfl rfl (by simp) (enc1 _) ?_; intro h s
      refine newNode_inner (hi s) fun n' kb' h s1 => ?_
      have s := s.join s1
      have s : St h0 Z ((n', 0, [.int .u64 iso, .int .i64 0, .slice none 0 0, ptr kb' 0]) :: (kb', 0, [.slice none 0 0]) :: (t14, 0, enc md') :: (tb, 2, [ptr t.id 0]) :: (t8, 0, enc x) :: (tb, 3, [.int .i64 cnt]) :: (l.all enc ++ (r.all enc ++ E))) h := s
      refine r_nil ?_; refine r_fld ?_; refine St.r_store1 s 3 (o := 2) (j := 0) rfl (by simp) rfl ?_; intro h s
      refine r_nil ?_; refine r_fld ?_; refine s.r_load1 3 (o := 2) (j := 0) rfl rfl ?_; refine r_nil ?_; refine r_fld ?_; refine St.r_load0 s 0 rfl rfl ?_; refine r_nil ?_; refine r_fld ?_; refine s.r_lz hT4 2 rfl rfl ?_; refine r_add (z := ((m + 1 : Nat) : Int)) (by rw [i64w (by omega) (by omega)]; omega) ?_; refine s.r_mks (n := 0) rfl (by omega) (by omega) (by omega) fun v b h s w0 => ?_; refine ⟨s.r_still1 4 (o := 2) (j := 0) rfl rfl, by (first | exact St.r_still0 s 0 rfl rfl | exact St.r_still0 s 1 rfl rfl | exact St.r_still0 s 2 rfl rfl | exact St.r_still0 s 3 rfl rfl | exact St.r_still0 s 4 rfl rfl | exact St.r_still0 s 5 rfl rfl | exact St.r_still0 s 6 rfl rfl), ?_⟩
      refine r_nil ?_; refine St.r_store0 s 2 rfl (by simp) w0.one ?_; intro h s
      refine r_nil ?_; refine r_fld ?_; refine s.r_load1 4 (o := 2) (j := 0) rfl rfl ?_; refine r_nil ?_; refine r_fld ?_; refine St.r_load0 s 1 rfl rfl ?_
      have s : St h0 Z ((n', 0, [.int .u64 iso, .int .i64 0, .slice none 0 0, ptr kb' 0]) :: (kb', 0, [v]) :: (t14, 0, enc md') :: (tb, 2, [ptr n' 0]) :: (t8, 0, enc x) :: (tb, 3, [.int .i64 cnt]) :: (l.all enc ++ (r.all enc ++ E))) h := s.drop 1
      -- what follows the items
      have fin : ∀ {iv kv : Value} {ib io rb ro : Nat} {isp ksp : List Value} {h : Heap}, Own 1 iv 1 ib io (enc md') isp → Own 1 kv 2 rb ro (fp l.id ++ fp r.id) ksp →
          St h0 Z ((n', 0, [.int .u64 iso, .int .i64 0, iv, ptr kb' 0]) :: (ib, io, enc md' ++ isp) :: (kb', 0, [kv]) :: (rb, ro, (fp l.id ++ fp r.id) ++ ksp) :: (tb, 2, [ptr n' 0]) :: (t8, 0, enc x) :: (tb, 3, [.int .i64 cnt]) :: (l.all enc ++ (r.all enc ++ E))) h →
          (nilck (ptr tb 0) fun t118 => fld 2 t118 fun t119 => load1 t119 h fun t120 => mapNode_iu_updateCount.call #[t120] h fun t121 h => fld 0 (ptr t8 0) fun t123 => load1 t123 h fun t124 =>
            fldZ Try.prog 0 (ptr t8 0) h fun t125 => loadN 0 t125 h fun t126 => Map_iu_Set.call #[ptr tb 0, t124, t126] h fun t127 h => extr 0 t127 fun t128 => extr 1 t127 fun t129 => storeN 0 (ptr t6 0) t128 h fun h => loadN 0 (ptr t6 0) h fun r6 => Q (.tuple #[r6, t129]) h) := by
        intro iv kv ib io rb ro isp ksp h wi wkk s
        have s : St h0 Z ((n', 0, [.int .u64 iso, .int .i64 0, iv, ptr kb' 0]) :: (kb', 0, [kv]) :: (rb, ro, ([l, r].map GT.id).flatMap fp ++ ksp) :: (tb, 2, [ptr n' 0]) :: (ib, io, enc md' ++ isp) :: (t8, 0, enc x) :: (tb, 3, [.int .i64 cnt]) :: (l.all enc ++ (r.all enc ++ E))) h := s.perm (by
          show ((n', 0, [.int .u64 iso, .int .i64 0, iv, ptr kb' 0]) :: (kb', 0, [kv]) :: (rb, ro, (fp l.id ++ fp r.id) ++ ksp) :: _ :: _ :: _ :: _ :: _).Perm _
          ((apply perm_rg; intro f; simp only [set_cons_zero, set_cons_succ, eraseIdx_cons_zero, eraseIdx_cons_succ, cons_append, nil_append, map_append, map_cons, map_nil, List.sum_append, List.sum_cons, List.sum_nil, map_flatMap, Nat.add_zero, Nat.zero_add]; ac_rfl)))
        have wkk : Own 1 kv ([l, r].map GT.id).length rb ro (([l, r].map GT.id).flatMap fp) ksp := wkk
        refine r_nil ?_; refine r_fld ?_; refine s.r_load1 3 (o := 2) (j := 0) rfl rfl ?_
        have hlr : l.pt.items.length + r.pt.items.length + 1 = t.pt.items.length := by
          rw [hl, hr, PT.cut_items fl hmd, List.length_append, List.length_cons]; omega
        refine updateCount_kids (ts := [l, r]) (len := 1) s wi wkk (fun q hq => ?_) (fun q hq z hz => ?_) (by simp) (by simp; omega) fun h s => ?_
        · simp at hq; rcases hq with e | e <;> subst e
          · exact gl.cn
          · exact gr.cn
        · simp at hq
          simp only [List.mem_cons, List.mem_append]
          rcases hq with e | e <;> subst e
          · exact .inr (.inr (.inr (.inr (.inl hz))))
          · exact .inr (.inr (.inr (.inr (.inr (.inl hz)))))
        · have hcc : 1 + ([l, r].map fun t => t.pt.items.length).sum = t.pt.items.length := by simp; omega
          rw [hcc] at s; refine r_fld ?_; refine St.r_load0 s 5 rfl rfl ?_; refine r_fldZE zall s 5 rfl (by simp) ?_; refine r_ld00 ?_
          let tn : GT It (k + 1) := ((⟨true, n', iso, (t.pt.items.length : Int), [md'], iv, ib, io, isp, kb', kv, rb, ro, ksp⟩ : Nd It), [l, r])
          have hpn : tn.pt = t.pt.grow m := by
            rw [egrow]
            show ([md'], [l, r].map GT.pt) = _
            rw [List.map_cons, List.map_cons, List.map_nil, hl, hr]
          have gn : Gd iso tn := Gd.inner (by show Own 1 iv [md'].length ib io ([md'].flatMap enc) isp; simpa using wi) rfl rfl (by simpa using wkk) rfl (fun c hc => by
            have hc : c ∈ [l, r] := hc
            simp at hc; rcases hc with e | e <;> subst e
            · exact gl
            · exact gr) (by show (t.pt.items.length : Int) = (tn.pt.items.length : Int); rw [hpn, g1])
          have s : St h0 Z ((tb, 2, [ptr tn.id 0]) :: (tb, 3, [.int .i64 cnt]) :: (tn.all enc ++ ((t8, 0, enc x) :: E))) h := by
            have s1 : St h0 Z ((tb, 2, [ptr n' 0]) :: (tb, 3, [.int .i64 cnt]) :: (n', 0, [.int .u64 iso, .int .i64 t.pt.items.length, iv, ptr kb' 0]) :: (ib, io, [md'].flatMap enc ++ isp) :: (kb', 0, [kv]) :: (rb, ro, (([l, r].map GT.id).map fun m => ptr m 0) ++ ksp) :: ([l, r].flatMap (GT.all enc) ++ ((t8, 0, enc x) :: E))) h := by
              rw [mfp]
              exact s.perm (by
                rw [List.flatMap_singleton, List.flatMap_cons, List.flatMap_cons, List.flatMap_nil, List.append_nil]; ((apply perm_rg; intro f; simp only [set_cons_zero, set_cons_succ, eraseIdx_cons_zero, eraseIdx_cons_succ, cons_append, nil_append, map_append, map_cons, map_nil, List.sum_append, List.sum_cons, List.sum_nil, map_flatMap, Nat.add_zero, Nat.zero_add]; ac_rfl)))
            exact s1
          refine Set_noSplit htb hT0 hT4 hm1 ho tn (by rw [hpn]; exact g2) (by rw [hpn, g1]; exact ha) (by rw [hpn, g1]; exact hsz) gn (by rw [hpn, g1]; exact hcnt) (by rw [hpn]; exact g3) s fun t2 h' e1 e2 s => ?_; rw [hpn, g1, hgn]; refine r_ext rfl ?_; refine r_ext rfl ?_; refine r_st00 ?_; refine r_ld00 ?_
          have := H ⟨k + 1, t2⟩ h' (by
            show some (⟨k + 1, t2.pt⟩ : (j : Nat) × PT It j) = _
            unfold MT.set
            simp only [hsp, ↓reduceIte, e1, hpn]) e2 ((s.perm (E' := (t8, 0, enc x) :: (tb, 2, [ptr t2.id 0]) :: (tb, 3, [.int .i64 t2.pt.items.length]) :: (t2.all enc ++ E)) (by ((apply perm_rg; intro f; simp only [set_cons_zero, set_cons_succ, eraseIdx_cons_zero, eraseIdx_cons_succ, cons_append, nil_append, map_append, map_cons, map_nil, List.sum_append, List.sum_cons, List.sum_nil, map_flatMap, Nat.add_zero, Nat.zero_add]; ac_rfl)))).drop 1)
          rw [hgn] at this; exact this
      -- what follows the children
      have tail : ∀ {kv : Value} {rb ro : Nat} {ksp : List Value} {h : Heap}, Own 1 kv 2 rb ro (fp l.id ++ fp r.id) ksp →
          St h0 Z ((n', 0, [.int .u64 iso, .int .i64 0, .slice none 0 0, ptr kb' 0]) :: (kb', 0, [kv]) :: (rb, ro, (fp l.id ++ fp r.id) ++ ksp) :: (t14, 0, enc md') :: (tb, 2, [ptr n' 0]) :: (t8, 0, enc x) :: (tb, 3, [.int .i64 cnt]) :: (l.all enc ++ (r.all enc ++ E))) h →
          (nilck (ptr tb 0) fun t108 => fld 2 t108 fun t109 => load1 t109 h fun t110 => loadN 1 (ptr t14 0) h fun t112 =>
            (mkSl (if 0 * 1 = 0 then [] else zeros (enc emp) 0) 0 [] 147 h fun t111 h => still1 t109 t110 h ∧ stillN 1 (ptr t14 0) t112 h ∧ mkSl (if 1 * 1 = 0 then [] else zeros (enc emp) 1) 1 [(0 * 1, 1, t112)] 147 h fun t113 h =>
              still1 t109 t110 h ∧ app 147 1 8 (enc emp) t111 t113 h fun t114 h => still1 t109 t110 h ∧ nilck t110 fun t115 => fld 2 t115 fun t116 => store1 t116 t114 h fun h =>
              nilck (ptr tb 0) fun t118 => fld 2 t118 fun t119 => load1 t119 h fun t120 => mapNode_iu_updateCount.call #[t120] h fun t121 h => fld 0 (ptr t8 0) fun t123 => load1 t123 h fun t124 =>
              fldZ Try.prog 0 (ptr t8 0) h fun t125 => loadN 0 t125 h fun t126 => Map_iu_Set.call #[ptr tb 0, t124, t126] h fun t127 h => extr 0 t127 fun t128 => extr 1 t127 fun t129 => storeN 0 (ptr t6 0) t128 h fun h => loadN 0 (ptr t6 0) h fun r6 => Q (.tuple #[r6, t129]) h) ∧
            (mkSl (if 1 * 1 = 0 then [] else zeros (enc emp) 1) 1 [(0 * 1, 1, t112)] 147 h fun t113 h => still1 t109 t110 h ∧ mkSl (if 0 * 1 = 0 then [] else zeros (enc emp) 0) 0 [] 147 h fun t111 h =>
              still1 t109 t110 h ∧ app 147 1 8 (enc emp) t111 t113 h fun t114 h => still1 t109 t110 h ∧ nilck t110 fun t115 => fld 2 t115 fun t116 => store1 t116 t114 h fun h =>
              nilck (ptr tb 0) fun t118 => fld 2 t118 fun t119 => load1 t119 h fun t120 => mapNode_iu_updateCount.call #[t120] h fun t121 h => fld 0 (ptr t8 0) fun t123 => load1 t123 h fun t124 =>
              fldZ Try.prog 0 (ptr t8 0) h fun t125 => loadN 0 t125 h fun t126 => Map_iu_Set.call #[ptr tb 0, t124, t126] h fun t127 h => extr 0 t127 fun t128 => extr 1 t127 fun t129 => storeN 0 (ptr t6 0) t128 h fun h => loadN 0 (ptr t6 0) h fun r6 => Q (.tuple #[r6, t129]) h)) := by
        intro kv rb ro ksp h wkk s; refine r_nil ?_; refine r_fld ?_; refine s.r_load1 4 (o := 2) (j := 0) rfl rfl ?_; refine St.r_loadN0 s 3 rfl (by simp) ?_
        constructor
        · refine St.r_mkSl (sz := 1) (cs := []) s (by ((simp only [fillV, fill1, Value.cells, zeros_succ, zeros_zero, size_toArray, length_cons, length_nil, length_append, take_succ_cons, take_zero, take_nil, drop_succ_cons, drop_zero, drop_nil, cons_append, nil_append, append_nil, Nat.reduceAdd, Nat.reduceMul, Nat.reduceLeDiff, Nat.reduceEqDiff, and_self, and_true, true_and, if_true, Nat.le_refl, Nat.zero_add, Nat.add_zero, Nat.zero_mul, reduceIte, if_false] <;> rfl))) rfl fun q1 h s w1 => ?_
          refine ⟨s.r_still1 5 (o := 2) (j := 0) rfl rfl, St.r_stillN0 s 4 rfl (by simp) rfl, ?_⟩
          refine St.r_mkSl (sz := 1) (cs := enc md') s (by ((simp only [fillV, fill1, Value.cells, zeros_succ, zeros_zero, size_toArray, length_cons, length_nil, length_append, take_succ_cons, take_zero, take_nil, drop_succ_cons, drop_zero, drop_nil, cons_append, nil_append, append_nil, Nat.reduceAdd, Nat.reduceMul, Nat.reduceLeDiff, Nat.reduceEqDiff, and_self, and_true, true_and, if_true, Nat.le_refl, Nat.zero_add, Nat.add_zero, Nat.zero_mul, reduceIte, if_false] <;> rfl))) rfl fun q2 h s w2 => ?_; refine ⟨s.r_still1 6 (o := 2) (j := 0) rfl rfl, ?_⟩
          refine St.r_app s 1 (sz := 1) (n := 1) (new := enc md') rfl w1 rfl (w2.rdl s 0 rfl) (enc1 _) (by omega) (by omega) fun iv ib io isp h s wi => ?_; refine ⟨s.r_still1 6 (o := 2) (j := 0) rfl rfl, ?_⟩
          refine r_nil ?_; refine r_fld ?_; refine St.r_store0 s 2 rfl (by simp) wi.one ?_; intro h s
          exact fin wi wkk ((s.perm (E' := (q2, 0, enc md' ++ []) :: (t14, 0, enc md') :: _) (by simp; ((apply perm_rg; intro f; simp only [set_cons_zero, set_cons_succ, eraseIdx_cons_zero, eraseIdx_cons_succ, cons_append, nil_append, map_append, map_cons, map_nil, List.sum_append, List.sum_cons, List.sum_nil, map_flatMap, Nat.add_zero, Nat.zero_add]; ac_rfl)))).drop 2)
        · refine St.r_mkSl (sz := 1) (cs := enc md') s (by ((simp only [fillV, fill1, Value.cells, zeros_succ, zeros_zero, size_toArray, length_cons, length_nil, length_append, take_succ_cons, take_zero, take_nil, drop_succ_cons, drop_zero, drop_nil, cons_append, nil_append, append_nil, Nat.reduceAdd, Nat.reduceMul, Nat.reduceLeDiff, Nat.reduceEqDiff, and_self, and_true, true_and, if_true, Nat.le_refl, Nat.zero_add, Nat.add_zero, Nat.zero_mul, reduceIte, if_false] <;> rfl))) rfl fun q2 h s w2 => ?_
          refine ⟨s.r_still1 5 (o := 2) (j := 0) rfl rfl, ?_⟩
          refine St.r_mkSl (sz := 1) (cs := []) s (by ((simp only [fillV, fill1, Value.cells, zeros_succ, zeros_zero, size_toArray, length_cons, length_nil, length_append, take_succ_cons, take_zero, take_nil, drop_succ_cons, drop_zero, drop_nil, cons_append, nil_append, append_nil, Nat.reduceAdd, Nat.reduceMul, Nat.reduceLeDiff, Nat.reduceEqDiff, and_self, and_true, true_and, if_true, Nat.le_refl, Nat.zero_add, Nat.add_zero, Nat.zero_mul, reduceIte, if_false] <;> rfl))) rfl fun q1 h s w1 => ?_; refine ⟨s.r_still1 6 (o := 2) (j := 0) rfl rfl, ?_⟩
          refine St.r_app s 0 (sz := 1) (n := 1) (new := enc md') rfl w1 rfl (w2.rdl s 1 rfl) (enc1 _) (by omega) (by omega) fun iv ib io isp h s wi => ?_; refine ⟨s.r_still1 6 (o := 2) (j := 0) rfl rfl, ?_⟩
          refine r_nil ?_; refine r_fld ?_; refine St.r_store0 s 2 rfl (by simp) wi.one ?_; intro h s
          exact fin wi wkk ((s.perm (E' := (q2, 0, enc md' ++ []) :: (t14, 0, enc md') :: _) (by simp; ((apply perm_rg; intro f; simp only [set_cons_zero, set_cons_succ, eraseIdx_cons_zero, eraseIdx_cons_succ, cons_append, nil_append, map_append, map_cons, map_nil, List.sum_append, List.sum_cons, List.sum_nil, map_flatMap, Nat.add_zero, Nat.zero_add]; ac_rfl)))).drop 2)
      constructor
      · refine St.r_mkSl (sz := 1) (cs := []) s (by ((simp only [fillV, fill1, Value.cells, zeros_succ, zeros_zero, size_toArray, length_cons, length_nil, length_append, take_succ_cons, take_zero, take_nil, drop_succ_cons, drop_zero, drop_nil, cons_append, nil_append, append_nil, Nat.reduceAdd, Nat.reduceMul, Nat.reduceLeDiff, Nat.reduceEqDiff, and_self, and_true, true_and, if_true, Nat.le_refl, Nat.zero_add, Nat.add_zero, Nat.zero_mul, reduceIte, if_false] <;> rfl))) rfl fun q1 h s w1 => ?_
        refine ⟨s.r_still1 4 (o := 2) (j := 0) rfl rfl, by (first | exact St.r_still0 s 0 rfl rfl | exact St.r_still0 s 1 rfl rfl | exact St.r_still0 s 2 rfl rfl | exact St.r_still0 s 3 rfl rfl | exact St.r_still0 s 4 rfl rfl | exact St.r_still0 s 5 rfl rfl | exact St.r_still0 s 6 rfl rfl), ?_⟩
        refine St.r_mkSl (sz := 1) (cs := fp l.id ++ fp r.id) s (by rw [hlid]; ((simp only [fillV, fill1, Value.cells, zeros_succ, zeros_zero, size_toArray, length_cons, length_nil, length_append, take_succ_cons, take_zero, take_nil, drop_succ_cons, drop_zero, drop_nil, cons_append, nil_append, append_nil, Nat.reduceAdd, Nat.reduceMul, Nat.reduceLeDiff, Nat.reduceEqDiff, and_self, and_true, true_and, if_true, Nat.le_refl, Nat.zero_add, Nat.add_zero, Nat.zero_mul, reduceIte, if_false] <;> rfl))) rfl fun q2 h s w2 => ?_; refine ⟨s.r_still1 5 (o := 2) (j := 0) rfl rfl, by (first | exact St.r_still0 s 0 rfl rfl | exact St.r_still0 s 1 rfl rfl | exact St.r_still0 s 2 rfl rfl | exact St.r_still0 s 3 rfl rfl | exact St.r_still0 s 4 rfl rfl | exact St.r_still0 s 5 rfl rfl | exact St.r_still0 s 6 rfl rfl), ?_⟩
        refine St.r_app s 1 (sz := 1) (n := 2) (new := fp l.id ++ fp r.id) rfl w1 rfl (w2.rdl s 0 rfl) (by simp [one1]) (by omega) (by omega) fun kv rb ro ksp h s wkk => ?_; refine ⟨s.r_still1 5 (o := 2) (j := 0) rfl rfl, by (first | exact St.r_still0 s 0 rfl rfl | exact St.r_still0 s 1 rfl rfl | exact St.r_still0 s 2 rfl rfl | exact St.r_still0 s 3 rfl rfl | exact St.r_still0 s 4 rfl rfl | exact St.r_still0 s 5 rfl rfl | exact St.r_still0 s 6 rfl rfl), ?_⟩
        refine r_nil ?_; refine St.r_store0 s 3 rfl (by simp) wkk.one ?_; intro h s
        exact tail wkk ((s.perm (E' := (q2, 0, fp l.id ++ fp r.id ++ []) :: _) (by simp; ((apply perm_rg; intro f; simp only [set_cons_zero, set_cons_succ, eraseIdx_cons_zero, eraseIdx_cons_succ, cons_append, nil_append, map_append, map_cons, map_nil, List.sum_append, List.sum_cons, List.sum_nil, map_flatMap, Nat.add_zero, Nat.zero_add]; ac_rfl)))).drop 1)
      · refine St.r_mkSl (sz := 1) (cs := fp l.id ++ fp r.id) s (by rw [hlid]; ((simp only [fillV, fill1, Value.cells, zeros_succ, zeros_zero, size_toArray, length_cons, length_nil, length_append, take_succ_cons, take_zero, take_nil, drop_succ_cons, drop_zero, drop_nil, cons_append, nil_append, append_nil, Nat.reduceAdd, Nat.reduceMul, Nat.reduceLeDiff, Nat.reduceEqDiff, and_self, and_true, true_and, if_true, Nat.le_refl, Nat.zero_add, Nat.add_zero, Nat.zero_mul, reduceIte, if_false] <;> rfl))) rfl fun q2 h s w2 => ?_
        refine ⟨s.r_still1 4 (o := 2) (j := 0) rfl rfl, by (first | exact St.r_still0 s 0 rfl rfl | exact St.r_still0 s 1 rfl rfl | exact St.r_still0 s 2 rfl rfl | exact St.r_still0 s 3 rfl rfl | exact St.r_still0 s 4 rfl rfl | exact St.r_still0 s 5 rfl rfl | exact St.r_still0 s 6 rfl rfl), ?_⟩
        refine St.r_mkSl (sz := 1) (cs := []) s (by ((simp only [fillV, fill1, Value.cells, zeros_succ, zeros_zero, size_toArray, length_cons, length_nil, length_append, take_succ_cons, take_zero, take_nil, drop_succ_cons, drop_zero, drop_nil, cons_append, nil_append, append_nil, Nat.reduceAdd, Nat.reduceMul, Nat.reduceLeDiff, Nat.reduceEqDiff, and_self, and_true, true_and, if_true, Nat.le_refl, Nat.zero_add, Nat.add_zero, Nat.zero_mul, reduceIte, if_false] <;> rfl))) rfl fun q1 h s w1 => ?_; refine ⟨s.r_still1 5 (o := 2) (j := 0) rfl rfl, by (first | exact St.r_still0 s 0 rfl rfl | exact St.r_still0 s 1 rfl rfl | exact St.r_still0 s 2 rfl rfl | exact St.r_still0 s 3 rfl rfl | exact St.r_still0 s 4 rfl rfl | exact St.r_still0 s 5 rfl rfl | exact St.r_still0 s 6 rfl rfl), ?_⟩
        refine St.r_app s 0 (sz := 1) (n := 2) (new := fp l.id ++ fp r.id) rfl w1 rfl (w2.rdl s 1 rfl) (by simp [one1]) (by omega) (by omega) fun kv rb ro ksp h s wkk => ?_; refine ⟨s.r_still1 5 (o := 2) (j := 0) rfl rfl, by (first | exact St.r_still0 s 0 rfl rfl | exact St.r_still0 s 1 rfl rfl | exact St.r_still0 s 2 rfl rfl | exact St.r_still0 s 3 rfl rfl | exact St.r_still0 s 4 rfl rfl | exact St.r_still0 s 5 rfl rfl | exact St.r_still0 s 6 rfl rfl), ?_⟩
        refine r_nil ?_; refine St.r_store0 s 3 rfl (by simp) wkk.one ?_; intro h s
        exact tail wkk ((s.perm (E' := (q2, 0, fp l.id ++ fp r.id ++ []) :: _) (by simp; ((apply perm_rg; intro f; simp only [set_cons_zero, set_cons_succ, eraseIdx_cons_zero, eraseIdx_cons_succ, cons_append, nil_append, map_append, map_cons, map_nil, List.sum_append, List.sum_cons, List.sum_nil, map_flatMap, Nat.add_zero, Nat.zero_add]; ac_rfl)))).drop 1)
    · refine s.r_alloc fun t9 h s => ?_
      have s := s.tail rfl
      refine ⟨St.r_stillN0 s 0 rfl (by simp) rfl, ?_⟩
      refine SetOk.all htb hT0 hT4 hm1 ho k t (E := (t8, 0, enc x) :: (tb, 3, [.int .i64 cnt]) :: E) (pb := tb) (po := 2) fl ha hsz g (s.perm (by ((apply perm_rg; intro f; simp only [set_cons_zero, set_cons_succ, eraseIdx_cons_zero, eraseIdx_cons_succ, cons_append, nil_append, map_append, map_cons, map_nil, List.sum_append, List.sum_cons, List.sum_nil, map_flatMap, Nat.add_zero, Nat.zero_add]; ac_rfl)))) fun t' h' h1 h2 h3 s => ?_; rw [hsp] at h1 ⊢
      simp only [↓reduceIte] at h1
      refine r_ext rfl ?_; refine r_ext rfl ?_; refine r_ext rfl ?_; refine r_st00 ?_; refine r_if (fun _ => ?_) (fun e => absurd e (by simp))
      refine r_nil ?_; refine r_fld ?_; refine s.r_load1 0 (o := 2) (j := 0) rfl rfl ?_; rw [← h2]; refine nodeSplit_ok t' (m := m) (E := (tb, 2, [ptr t.id 0]) :: (t8, 0, enc x) :: (tb, 3, [.int .i64 cnt]) :: E) hT0 hT4 (by omega) (by omega) (by rw [h1]; exact fl) (by rw [h1]; exact (PT.splits_len hsp).1) (by rw [h1]; omega) h3 (s.perm (by ((apply perm_rg; intro f; simp only [set_cons_zero, set_cons_succ, eraseIdx_cons_zero, eraseIdx_cons_succ, cons_append, nil_append, map_append, map_cons, map_nil, List.sum_append, List.sum_cons, List.sum_nil, map_flatMap, Nat.add_zero, Nat.zero_add]; ac_rfl)))) fun l r md' h hmd' hl hr hlid gl gr s => ?_
      have : md' = md := by rw [h1] at hmd'; exact Option.some.inj (hmd'.symm.trans hmd)
      subst this; rw [h1] at hl hr
      have s : St h0 Z ((tb, 2, [ptr t.id 0]) :: (t8, 0, enc x) :: (tb, 3, [.int .i64 cnt]) :: (l.all enc ++ (r.all enc ++ E))) h := s.perm (by ((apply perm_rg; intro f; simp only [set_cons_zero, set_cons_succ, eraseIdx_cons_zero, eraseIdx_cons_succ, cons_append, nil_append, map_append, map_cons, map_nil, List.sum_append, List.sum_cons, List.sum_nil, map_flatMap, Nat.add_zero, Nat.zero_add]; ac_rfl)))
      refine r_ext rfl ?_; refine r_ext rfl ?_; refine s.r_alloc fun t14 h s => ?_; refine St.r_storeN0 s 0 rfl rfl (by simp) (enc1 _) ?_; intro h s
      refine newNode_inner (hi s) fun n' kb' h s1 => ?_
      have s := s.join s1
      have s : St h0 Z ((n', 0, [.int .u64 iso, .int .i64 0, .slice none 0 0, ptr kb' 0]) :: (kb', 0, [.slice none 0 0]) :: (t14, 0, enc md') :: (tb, 2, [ptr t.id 0]) :: (t8, 0, enc x) :: (tb, 3, [.int .i64 cnt]) :: (l.all enc ++ (r.all enc ++ E))) h := s
      refine r_nil ?_; refine r_fld ?_; refine St.r_store1 s 3 (o := 2) (j := 0) rfl (by simp) rfl ?_; intro h s
      refine r_nil ?_; refine r_fld ?_; refine s.r_load1 3 (o := 2) (j := 0) rfl rfl ?_; refine r_nil ?_; refine r_fld ?_; refine St.r_load0 s 0 rfl rfl ?_; refine r_nil ?_; refine r_fld ?_; refine s.r_lz hT4 2 rfl rfl ?_; refine r_add (z := ((m + 1 : Nat) : Int)) (by rw [i64w (by omega) (by omega)]; omega) ?_; refine s.r_mks (n := 0) rfl (by omega) (by omega) (by omega) fun v b h s w0 => ?_; refine ⟨s.r_still1 4 (o := 2) (j := 0) rfl rfl, by (first | exact St.r_still0 s 0 rfl rfl | exact St.r_still0 s 1 rfl rfl | exact St.r_still0 s 2 rfl rfl | exact St.r_still0 s 3 rfl rfl | exact St.r_still0 s 4 rfl rfl | exact St.r_still0 s 5 rfl rfl | exact St.r_still0 s 6 rfl rfl), ?_⟩
      refine r_nil ?_; refine St.r_store0 s 2 rfl (by simp) w0.one ?_; intro h s
      refine r_nil ?_; refine r_fld ?_; refine s.r_load1 4 (o := 2) (j := 0) rfl rfl ?_; refine r_nil ?_; refine r_fld ?_; refine St.r_load0 s 1 rfl rfl ?_
      have s : St h0 Z ((n', 0, [.int .u64 iso, .int .i64 0, .slice none 0 0, ptr kb' 0]) :: (kb', 0, [v]) :: (t14, 0, enc md') :: (tb, 2, [ptr n' 0]) :: (t8, 0, enc x) :: (tb, 3, [.int .i64 cnt]) :: (l.all enc ++ (r.all enc ++ E))) h := s.drop 1
      -- what follows the items
      have fin : ∀ {iv kv : Value} {ib io rb ro : Nat} {isp ksp : List Value} {h : Heap}, Own 1 iv 1 ib io (enc md') isp → Own 1 kv 2 rb ro (fp l.id ++ fp r.id) ksp →
          St h0 Z ((n', 0, [.int .u64 iso, .int .i64 0, iv, ptr kb' 0]) :: (ib, io, enc md' ++ isp) :: (kb', 0, [kv]) :: (rb, ro, (fp l.id ++ fp r.id) ++ ksp) :: (tb, 2, [ptr n' 0]) :: (t8, 0, enc x) :: (tb, 3, [.int .i64 cnt]) :: (l.all enc ++ (r.all enc ++ E))) h →
          (nilck (ptr tb 0) fun t118 => fld 2 t118 fun t119 => load1 t119 h fun t120 => mapNode_iu_updateCount.call #[t120] h fun t121 h => fld 0 (ptr t8 0) fun t123 => load1 t123 h fun t124 =>
            fldZ Try.prog 0 (ptr t8 0) h fun t125 => loadN 0 t125 h fun t126 => Map_iu_Set.call #[ptr tb 0, t124, t126] h fun t127 h => extr 0 t127 fun t128 => extr 1 t127 fun t129 => storeN 0 (ptr t6 0) t128 h fun h => loadN 0 (ptr t6 0) h fun r6 => Q (.tuple #[r6, t129]) h) := by
        intro iv kv ib io rb ro isp ksp h wi wkk s
        have s : St h0 Z ((n', 0, [.int .u64 iso, .int .i64 0, iv, ptr kb' 0]) :: (kb', 0, [kv]) :: (rb, ro, ([l, r].map GT.id).flatMap fp ++ ksp) :: (tb, 2, [ptr n' 0]) :: (ib, io, enc md' ++ isp) :: (t8, 0, enc x) :: (tb, 3, [.int .i64 cnt]) :: (l.all enc ++ (r.all enc ++ E))) h := s.perm (by
          show ((n', 0, [.int .u64 iso, .int .i64 0, iv, ptr kb' 0]) :: (kb', 0, [kv]) :: (rb, ro, (fp l.id ++ fp r.id) ++ ksp) :: _ :: _ :: _ :: _ :: _).Perm _
          ((apply perm_rg; intro f; simp only [set_cons_zero, set_cons_succ, eraseIdx_cons_zero, eraseIdx_cons_succ, cons_append, nil_append, map_append, map_cons, map_nil, List.sum_append, List.sum_cons, List.sum_nil, map_flatMap, Nat.add_zero, Nat.zero_add]; ac_rfl)))
        have wkk : Own 1 kv ([l, r].map GT.id).length rb ro (([l, r].map GT.id).flatMap fp) ksp := wkk
        refine r_nil ?_; refine r_fld ?_; refine s.r_load1 3 (o := 2) (j := 0) rfl rfl ?_
        have hlr : l.pt.items.length + r.pt.items.length + 1 = t.pt.items.length := by
          rw [hl, hr, PT.cut_items fl hmd, List.length_append, List.length_cons]; omega
        refine updateCount_kids (ts := [l, r]) (len := 1) s wi wkk (fun q hq => ?_) (fun q hq z hz => ?_) (by simp) (by simp; omega) fun h s => ?_
        · simp at hq; rcases hq with e | e <;> subst e
          · exact gl.cn
          · exact gr.cn
        · simp at hq
          simp only [List.mem_cons, List.mem_append]
          rcases hq with e | e <;> subst e
          · exact .inr (.inr (.inr (.inr (.inl hz))))
          · exact .inr (.inr (.inr (.inr (.inr (.inl hz)))))
        · have hcc : 1 + ([l, r].map fun t => t.pt.items.length).sum = t.pt.items.length := by simp; omega
          rw [hcc] at s; refine r_fld ?_; refine St.r_load0 s 5 rfl rfl ?_; refine r_fldZE zall s 5 rfl (by simp) ?_; refine r_ld00 ?_
          let tn : GT It (k + 1) := ((⟨true, n', iso, (t.pt.items.length : Int), [md'], iv, ib, io, isp, kb', kv, rb, ro, ksp⟩ : Nd It), [l, r])
          have hpn : tn.pt = t.pt.grow m := by
            rw [egrow]
            show ([md'], [l, r].map GT.pt) = _
            rw [List.map_cons, List.map_cons, List.map_nil, hl, hr]
          have gn : Gd iso tn := Gd.inner (by show Own 1 iv [md'].length ib io ([md'].flatMap enc) isp; simpa using wi) rfl rfl (by simpa using wkk) rfl (fun c hc => by
            have hc : c ∈ [l, r] := hc
            simp at hc; rcases hc with e | e <;> subst e
            · exact gl
            · exact gr) (by show (t.pt.items.length : Int) = (tn.pt.items.length : Int); rw [hpn, g1])
          have s : St h0 Z ((tb, 2, [ptr tn.id 0]) :: (tb, 3, [.int .i64 cnt]) :: (tn.all enc ++ ((t8, 0, enc x) :: E))) h := by
            have s1 : St h0 Z ((tb, 2, [ptr n' 0]) :: (tb, 3, [.int .i64 cnt]) :: (n', 0, [.int .u64 iso, .int .i64 t.pt.items.length, iv, ptr kb' 0]) :: (ib, io, [md'].flatMap enc ++ isp) :: (kb', 0, [kv]) :: (rb, ro, (([l, r].map GT.id).map fun m => ptr m 0) ++ ksp) :: ([l, r].flatMap (GT.all enc) ++ ((t8, 0, enc x) :: E))) h := by
              rw [mfp]
              exact s.perm (by
                rw [List.flatMap_singleton, List.flatMap_cons, List.flatMap_cons, List.flatMap_nil, List.append_nil]; ((apply perm_rg; intro f; simp only [set_cons_zero, set_cons_succ, eraseIdx_cons_zero, eraseIdx_cons_succ, cons_append, nil_append, map_append, map_cons, map_nil, List.sum_append, List.sum_cons, List.sum_nil, map_flatMap, Nat.add_zero, Nat.zero_add]; ac_rfl)))
            exact s1
          refine Set_noSplit htb hT0 hT4 hm1 ho tn (by rw [hpn]; exact g2) (by rw [hpn, g1]; exact ha) (by rw [hpn, g1]; exact hsz) gn (by rw [hpn, g1]; exact hcnt) (by rw [hpn]; exact g3) s fun t2 h' e1 e2 s => ?_; rw [hpn, g1, hgn]; refine r_ext rfl ?_; refine r_ext rfl ?_; refine r_st00 ?_; refine r_ld00 ?_
          have := H ⟨k + 1, t2⟩ h' (by
            show some (⟨k + 1, t2.pt⟩ : (j : Nat) × PT It j) = _
            unfold MT.set
            simp only [hsp, ↓reduceIte, e1, hpn]) e2 ((s.perm (E' := (t8, 0, enc x) :: (tb, 2, [ptr t2.id 0]) :: (tb, 3, [.int .i64 t2.pt.items.length]) :: (t2.all enc ++ E)) (by ((apply perm_rg; intro f; simp only [set_cons_zero, set_cons_succ, eraseIdx_cons_zero, eraseIdx_cons_succ, cons_append, nil_append, map_append, map_cons, map_nil, List.sum_append, List.sum_cons, List.sum_nil, map_flatMap, Nat.add_zero, Nat.zero_add]; ac_rfl)))).drop 1)
          rw [hgn] at this; exact this
      -- what follows the children
      have tail : ∀ {kv : Value} {rb ro : Nat} {ksp : List Value} {h : Heap}, Own 1 kv 2 rb ro (fp l.id ++ fp r.id) ksp →
          St h0 Z ((n', 0, [.int .u64 iso, .int .i64 0, .slice none 0 0, ptr kb' 0]) :: (kb', 0, [kv]) :: (rb, ro, (fp l.id ++ fp r.id) ++ ksp) :: (t14, 0, enc md') :: (tb, 2, [ptr n' 0]) :: (t8, 0, enc x) :: (tb, 3, [.int .i64 cnt]) :: (l.all enc ++ (r.all enc ++ E))) h →
          (nilck (ptr tb 0) fun t108 => fld 2 t108 fun t109 => load1 t109 h fun t110 => loadN 1 (ptr t14 0) h fun t112 =>
            (mkSl (if 0 * 1 = 0 then [] else zeros (enc emp) 0) 0 [] 147 h fun t111 h => still1 t109 t110 h ∧ stillN 1 (ptr t14 0) t112 h ∧ mkSl (if 1 * 1 = 0 then [] else zeros (enc emp) 1) 1 [(0 * 1, 1, t112)] 147 h fun t113 h =>
              still1 t109 t110 h ∧ app 147 1 8 (enc emp) t111 t113 h fun t114 h => still1 t109 t110 h ∧ nilck t110 fun t115 => fld 2 t115 fun t116 => store1 t116 t114 h fun h =>
              nilck (ptr tb 0) fun t118 => fld 2 t118 fun t119 => load1 t119 h fun t120 => mapNode_iu_updateCount.call #[t120] h fun t121 h => fld 0 (ptr t8 0) fun t123 => load1 t123 h fun t124 =>
              fldZ Try.prog 0 (ptr t8 0) h fun t125 => loadN 0 t125 h fun t126 => Map_iu_Set.call #[ptr tb 0, t124, t126] h fun t127 h => extr 0 t127 fun t128 => extr 1 t127 fun t129 => storeN 0 (ptr t6 0) t128 h fun h => loadN 0 (ptr t6 0) h fun r6 => Q (.tuple #[r6, t129]) h) ∧
            (mkSl (if 1 * 1 = 0 then [] else zeros (enc emp) 1) 1 [(0 * 1, 1, t112)] 147 h fun t113 h => still1 t109 t110 h ∧ mkSl (if 0 * 1 = 0 then [] else zeros (enc emp) 0) 0 [] 147 h fun t111 h =>
              still1 t109 t110 h ∧ app 147 1 8 (enc emp) t111 t113 h fun t114 h => still1 t109 t110 h ∧ nilck t110 fun t115 => fld 2 t115 fun t116 => store1 t116 t114 h fun h =>
              nilck (ptr tb 0) fun t118 => fld 2 t118 fun t119 => load1 t119 h fun t120 => mapNode_iu_updateCount.call #[t120] h fun t121 h => fld 0 (ptr t8 0) fun t123 => load1 t123 h fun t124 =>
              fldZ Try.prog 0 (ptr t8 0) h fun t125 => loadN 0 t125 h fun t126 => Map_iu_Set.call #[ptr tb 0, t124, t126] h fun t127 h => extr 0 t127 fun t128 => extr 1 t127 fun t129 => storeN 0 (ptr t6 0) t128 h fun h => loadN 0 (ptr t6 0) h fun r6 => Q (.tuple #[r6, t129]) h)) := by
        intro kv rb ro ksp h wkk s; refine r_nil ?_; refine r_fld ?_; refine s.r_load1 4 (o := 2) (j := 0) rfl rfl ?_; refine St.r_loadN0 s 3 rfl (by simp) ?_
        constructor
        · refine St.r_mkSl (sz := 1) (cs := []) s (by ((simp only [fillV, fill1, Value.cells, zeros_succ, zeros_zero, size_toArray, length_cons, length_nil, length_append, take_succ_cons, take_zero, take_nil, drop_succ_cons, drop_zero, drop_nil, cons_append, nil_append, append_nil, Nat.reduceAdd, Nat.reduceMul, Nat.reduceLeDiff, Nat.reduceEqDiff, and_self, and_true, true_and, if_true, Nat.le_refl, Nat.zero_add, Nat.add_zero, Nat.zero_mul, reduceIte, if_false] <;> rfl))) rfl fun q1 h s w1 => ?_
          refine ⟨s.r_still1 5 (o := 2) (j := 0) rfl rfl, St.r_stillN0 s 4 rfl (by simp) rfl, ?_⟩
          refine St.r_mkSl (sz := 1) (cs := enc md') s (by ((simp only [fillV, fill1, Value.cells, zeros_succ, zeros_zero, size_toArray, length_cons, length_nil, length_append, take_succ_cons, take_zero, take_nil, drop_succ_cons, drop_zero, drop_nil, cons_append, nil_append, append_nil, Nat.reduceAdd, Nat.reduceMul, Nat.reduceLeDiff, Nat.reduceEqDiff, and_self, and_true, true_and, if_true, Nat.le_refl, Nat.zero_add, Nat.add_zero, Nat.zero_mul, reduceIte, if_false] <;> rfl))) rfl fun q2 h s w2 => ?_; refine ⟨s.r_still1 6 (o := 2) (j := 0) rfl rfl, ?_⟩
          refine St.r_app s 1 (sz := 1) (n := 1) (new := enc md') rfl w1 rfl (w2.rdl s 0 rfl) (enc1 _) (by omega) (by omega) fun iv ib io isp h s wi => ?_; refine ⟨s.r_still1 6 (o := 2) (j := 0) rfl rfl, ?_⟩
          refine r_nil ?_; refine r_fld ?_; refine St.r_store0 s 2 rfl (by simp) wi.one ?_; intro h s
          exact fin wi wkk ((s.perm (E' := (q2, 0, enc md' ++ []) :: (t14, 0, enc md') :: _) (by simp; ((apply perm_rg; intro f; simp only [set_cons_zero, set_cons_succ, eraseIdx_cons_zero, eraseIdx_cons_succ, cons_append, nil_append, map_append, map_cons, map_nil, List.sum_append, List.sum_cons, List.sum_nil, map_flatMap, Nat.add_zero, Nat.zero_add]; ac_rfl)))).drop 2)
        · refine St.r_mkSl (sz := 1) (cs := enc md') s (by ((simp only [fillV, fill1, Value.cells, zeros_succ, zeros_zero, size_toArray, length_cons, length_nil, length_append, take_succ_cons, take_zero, take_nil, drop_succ_cons, drop_zero, drop_nil, cons_append, nil_append, append_nil, Nat.reduceAdd, Nat.reduceMul, Nat.reduceLeDiff, Nat.reduceEqDiff, and_self, and_true, true_and, if_true, Nat.le_refl, Nat.zero_add, Nat.add_zero, Nat.zero_mul, reduceIte, if_false] <;> rfl))) rfl fun q2 h s w2 => ?_
          refine ⟨s.r_still1 5 (o := 2) (j := 0) rfl rfl, ?_⟩
          refine St.r_mkSl (sz := 1) (cs := []) s (by ((simp only [fillV, fill1, Value.cells, zeros_succ, zeros_zero, size_toArray, length_cons, length_nil, length_append, take_succ_cons, take_zero, take_nil, drop_succ_cons, drop_zero, drop_nil, cons_append, nil_append, append_nil, Nat.reduceAdd, Nat.reduceMul, Nat.reduceLeDiff, Nat.reduceEqDiff, and_self, and_true, true_and, if_true, Nat.le_refl, Nat.zero_add, Nat.add_zero, Nat.zero_mul, reduceIte, if_false] <;> rfl))) rfl fun q1 h s w1 => ?_; refine ⟨s.r_still1 6 (o := 2) (j := 0) rfl rfl, ?_⟩
          refine St.r_app s 0 (sz := 1) (n := 1) (new := enc md') rfl w1 rfl (w2.rdl s 1 rfl) (enc1 _) (by omega) (by omega) fun iv ib io isp h s wi => ?_; refine ⟨s.r_still1 6 (o := 2) (j := 0) rfl rfl, ?_⟩
          refine r_nil ?_; refine r_fld ?_; refine St.r_store0 s 2 rfl (by simp) wi.one ?_; intro h s
          exact fin wi wkk ((s.perm (E' := (q2, 0, enc md' ++ []) :: (t14, 0, enc md') :: _) (by simp; ((apply perm_rg; intro f; simp only [set_cons_zero, set_cons_succ, eraseIdx_cons_zero, eraseIdx_cons_succ, cons_append, nil_append, map_append, map_cons, map_nil, List.sum_append, List.sum_cons, List.sum_nil, map_flatMap, Nat.add_zero, Nat.zero_add]; ac_rfl)))).drop 2)
      constructor
      · refine St.r_mkSl (sz := 1) (cs := []) s (by ((simp only [fillV, fill1, Value.cells, zeros_succ, zeros_zero, size_toArray, length_cons, length_nil, length_append, take_succ_cons, take_zero, take_nil, drop_succ_cons, drop_zero, drop_nil, cons_append, nil_append, append_nil, Nat.reduceAdd, Nat.reduceMul, Nat.reduceLeDiff, Nat.reduceEqDiff, and_self, and_true, true_and, if_true, Nat.le_refl, Nat.zero_add, Nat.add_zero, Nat.zero_mul, reduceIte, if_false] <;> rfl))) rfl fun q1 h s w1 => ?_
        refine ⟨s.r_still1 4 (o := 2) (j := 0) rfl rfl, by (first | exact St.r_still0 s 0 rfl rfl | exact St.r_still0 s 1 rfl rfl | exact St.r_still0 s 2 rfl rfl | exact St.r_still0 s 3 rfl rfl | exact St.r_still0 s 4 rfl rfl | exact St.r_still0 s 5 rfl rfl | exact St.r_still0 s 6 rfl rfl), ?_⟩
        refine St.r_mkSl (sz := 1) (cs := fp l.id ++ fp r.id) s (by rw [hlid]; ((simp only [fillV, fill1, Value.cells, zeros_succ, zeros_zero, size_toArray, length_cons, length_nil, length_append, take_succ_cons, take_zero, take_nil, drop_succ_cons, drop_zero, drop_nil, cons_append, nil_append, append_nil, Nat.reduceAdd, Nat.reduceMul, Nat.reduceLeDiff, Nat.reduceEqDiff, and_self, and_true, true_and, if_true, Nat.le_refl, Nat.zero_add, Nat.add_zero, Nat.zero_mul, reduceIte, if_false] <;> rfl))) rfl fun q2 h s w2 => ?_; refine ⟨s.r_still1 5 (o := 2) (j := 0) rfl rfl, by (first | exact St.r_still0 s 0 rfl rfl | exact St.r_still0 s 1 rfl rfl | exact St.r_still0 s 2 rfl rfl | exact St.r_still0 s 3 rfl rfl | exact St.r_still0 s 4 rfl rfl | exact St.r_still0 s 5 rfl rfl | exact St.r_still0 s 6 rfl rfl), ?_⟩
        refine St.r_app s 1 (sz := 1) (n := 2) (new := fp l.id ++ fp r.id) rfl w1 rfl (w2.rdl s 0 rfl) (by simp [one1]) (by omega) (by omega) fun kv rb ro ksp h s wkk => ?_; refine ⟨s.r_still1 5 (o := 2) (j := 0) rfl rfl, by (first | exact St.r_still0 s 0 rfl rfl | exact St.r_still0 s 1 rfl rfl | exact St.r_still0 s 2 rfl rfl | exact St.r_still0 s 3 rfl rfl | exact St.r_still0 s 4 rfl rfl | exact St.r_still0 s 5 rfl rfl | exact St.r_still0 s 6 rfl rfl), ?_⟩
        refine r_nil ?_; refine St.r_store0 s 3 rfl (by simp) wkk.one ?_; intro h s
        exact tail wkk ((s.perm (E' := (q2, 0, fp l.id ++ fp r.id ++ []) :: _) (by simp; ((apply perm_rg; intro f; simp only [set_cons_zero, set_cons_succ, eraseIdx_cons_zero, eraseIdx_cons_succ, cons_append, nil_append, map_append, map_cons, map_nil, List.sum_append, List.sum_cons, List.sum_nil, map_flatMap, Nat.add_zero, Nat.zero_add]; ac_rfl)))).drop 1)
      · refine St.r_mkSl (sz := 1) (cs := fp l.id ++ fp r.id) s (by rw [hlid]; ((simp only [fillV, fill1, Value.cells, zeros_succ, zeros_zero, size_toArray, length_cons, length_nil, length_append, take_succ_cons, take_zero, take_nil, drop_succ_cons, drop_zero, drop_nil, cons_append, nil_append, append_nil, Nat.reduceAdd, Nat.reduceMul, Nat.reduceLeDiff, Nat.reduceEqDiff, and_self, and_true, true_and, if_true, Nat.le_refl, Nat.zero_add, Nat.add_zero, Nat.zero_mul, reduceIte, if_false] <;> rfl))) rfl fun q2 h s w2 => ?_
        refine ⟨s.r_still1 4 (o := 2) (j := 0) rfl rfl, by (first | exact St.r_still0 s 0 rfl rfl | exact St.r_still0 s 1 rfl rfl | exact St.r_still0 s 2 rfl rfl | exact St.r_still0 s 3 rfl rfl | exact St.r_still0 s 4 rfl rfl | exact St.r_still0 s 5 rfl rfl | exact St.r_still0 s 6 rfl rfl), ?_⟩
        refine St.r_mkSl (sz := 1) (cs := []) s (by ((simp only [fillV, fill1, Value.cells, zeros_succ, zeros_zero, size_toArray, length_cons, length_nil, length_append, take_succ_cons, take_zero, take_nil, drop_succ_cons, drop_zero, drop_nil, cons_append, nil_append, append_nil, Nat.reduceAdd, Nat.reduceMul, Nat.reduceLeDiff, Nat.reduceEqDiff, and_self, and_true, true_and, if_true, Nat.le_refl, Nat.zero_add, Nat.add_zero, Nat.zero_mul, reduceIte, if_false] <;> rfl))) rfl fun q1 h s w1 => ?_; refine ⟨s.r_still1 5 (o := 2) (j := 0) rfl rfl, by (first | exact St.r_still0 s 0 rfl rfl | exact St.r_still0 s 1 rfl rfl | exact St.r_still0 s 2 rfl rfl | exact St.r_still0 s 3 rfl rfl | exact St.r_still0 s 4 rfl rfl | exact St.r_still0 s 5 rfl rfl | exact St.r_still0 s 6 rfl rfl), ?_⟩
        refine St.r_app s 0 (sz := 1) (n := 2) (new := fp l.id ++ fp r.id) rfl w1 rfl (w2.rdl s 1 rfl) (by simp [one1]) (by omega) (by omega) fun kv rb ro ksp h s wkk => ?_; refine ⟨s.r_still1 5 (o := 2) (j := 0) rfl rfl, by (first | exact St.r_still0 s 0 rfl rfl | exact St.r_still0 s 1 rfl rfl | exact St.r_still0 s 2 rfl rfl | exact St.r_still0 s 3 rfl rfl | exact St.r_still0 s 4 rfl rfl | exact St.r_still0 s 5 rfl rfl | exact St.r_still0 s 6 rfl rfl), ?_⟩
        refine r_nil ?_; refine St.r_store0 s 3 rfl (by simp) wkk.one ?_; intro h s
        exact tail wkk ((s.perm (E' := (q2, 0, fp l.id ++ fp r.id ++ []) :: _) (by simp; ((apply perm_rg; intro f; simp only [set_cons_zero, set_cons_succ, eraseIdx_cons_zero, eraseIdx_cons_succ, cons_append, nil_append, map_append, map_cons, map_nil, List.sum_append, List.sum_cons, List.sum_nil, map_flatMap, Nat.add_zero, Nat.zero_add]; ac_rfl)))).drop 1)
end Go.Proofs.Ytdpkpcmoabfofaa.Iu
end
section
namespace Go.Proofs.Ytdpkpcmoabfofaa.Iu
open Go.Hp Go.Proofs.Ytdpkpcmoabfofaa
set_option maxHeartbeats 4000000
variable {h0 h : Heap} {Z E : List Rg} {Q : Value → Heap → Prop}
def GT.kp : {k : Nat} → GT It k → Value
  | 0, _ => .pointer none
  | _ + 1, t => ptr t.1.kb 0
def GT.rest : {k : Nat} → GT It k → List Rg
  | 0, _ => []
  | _ + 1, t => (t.1.kb, 0, [t.1.kv]) :: (t.1.krb, t.1.kro, ((t.2.map GT.id).map pp).flatMap fv ++ t.1.ksp) :: t.2.flatMap (GT.all enc)
theorem all_eq : ∀ {k : Nat} (t : GT It k), t.all enc = (t.id, 0, [.int .u64 t.nd.iso, .int .i64 t.nd.cnt, t.nd.iv, GT.kp t]) :: (t.nd.ib, t.nd.io, t.nd.its.flatMap enc ++ t.nd.isp) :: GT.rest t
  | 0, _ => rfl
  | _ + 1, t => by
    have e : GT.rest (k := _ + 1) t = (t.1.kb, 0, [t.1.kv]) :: (t.1.krb, t.1.kro, ((t.2.map GT.id).map pp).flatMap fv ++ t.1.ksp) :: t.2.flatMap (GT.all enc) := rfl
    rw [e, flat_fv]; rfl
theorem Gd.own {iso : Int} : ∀ {k : Nat} {t : GT It k}, Gd iso t → Own 1 t.nd.iv t.nd.its.length t.nd.ib t.nd.io (t.nd.its.flatMap enc) t.nd.isp
  | 0, _, g => g.wf.1
  | _ + 1, _, g => g.wf.1.1
theorem Gd.iso {iso : Int} : ∀ {k : Nat} {t : GT It k}, Gd iso t → t.nd.iso = iso
  | 0, _, g => g.wf.2.1 g.mine
  | _ + 1, _, g => g.wf.1.2.1 g.mine.1
theorem Gd.ownK {iso : Int} {k : Nat} {t : GT It (k + 1)} (g : Gd iso t) : Own 1 t.1.kv ((t.2.map GT.id).map pp).length t.1.krb t.1.kro (((t.2.map GT.id).map pp).flatMap fv) t.1.ksp := by
  have := g.wf.2.1
  rw [flat_fv, List.length_map, List.length_map]; exact this
theorem Gd.cntEq {iso : Int} {k : Nat} {t : GT It k} (g : Gd iso t) : t.nd.cnt = t.pt.items.length := g.cn.cnt
theorem fl_its {m lo : Nat} : ∀ {k : Nat} {t : GT It k}, t.pt.Fl m lo → lo ≤ t.nd.its.length ∧ t.nd.its.length ≤ m
  | 0, _, f => f
  | _ + 1, _, f => ⟨f.1, f.2.1⟩
theorem mk_inner {iso : Int} {k n ib io kb krb kro : Nat} {its : List It} {iv kv : Value} {isp ksp : List Value} {ts : List (GT It k)} (w : Own 1 iv its.length ib io (its.flatMap enc) isp) (wK : Own 1 kv ((ts.map GT.id).map pp).length krb kro (((ts.map GT.id).map pp).flatMap fv) ksp)
    (hl : ts.length = its.length + 1) (hk : ∀ c ∈ ts, Gd iso c) : ∃ t : GT It (k + 1), t.id = n ∧ Gd iso t ∧ t.pt = (its, ts.map GT.pt) ∧ t.nd.its = its ∧
      t.all enc = (n, 0, [.int .u64 iso, .int .i64 (PT.items (h := k + 1) (its, ts.map GT.pt)).length, iv, ptr kb 0]) :: (ib, io, its.flatMap enc ++ isp) :: (kb, 0, [kv]) :: (krb, kro, ((ts.map GT.id).map pp).flatMap fv ++ ksp) :: ts.flatMap (GT.all enc) := by
  refine ⟨((⟨true, n, iso, (PT.items (h := k + 1) (its, ts.map GT.pt)).length, its, iv, ib, io, isp, kb, kv, krb, kro, ksp⟩ : Nd It), ts), rfl, Gd.inner w rfl rfl ?_ hl hk rfl, rfl, rfl, ?_⟩
  · rw [flat_fv, List.length_map, List.length_map] at wK
    rw [← mfp]; exact wK
  · show Nd.inner enc _ (ts.map GT.id) ++ ts.flatMap (GT.all enc) = _
    unfold Nd.inner; rw [flat_fv]; rfl
theorem mk_leaf {iso : Int} {n ib io : Nat} {its : List It} {iv : Value} {isp : List Value} (w : Own 1 iv its.length ib io (its.flatMap enc) isp) : ∃ t : GT It 0, t.id = n ∧ Gd iso t ∧ t.pt = its ∧ t.nd.its = its ∧
      t.all enc = [(n, 0, [.int .u64 iso, .int .i64 its.length, iv, .pointer none]), (ib, io, its.flatMap enc ++ isp)] :=
  ⟨(⟨true, n, iso, its.length, its, iv, ib, io, isp, 0, .pointer none, 0, 0, []⟩ : Nd It), rfl, Gd.leaf w rfl rfl rfl, rfl, rfl, rfl⟩
theorem ids_pp {k : Nat} (A B : List (GT It k)) (l r : GT It k) : (((A ++ l :: r :: B).map GT.id).map pp) = (A.map GT.id).map pp ++ pp l.id :: pp r.id :: (B.map GT.id).map pp := by simp
theorem ids_one {k : Nat} (A B : List (GT It k)) (l : GT It k) : (((A ++ l :: B).map GT.id).map pp) = (A.map GT.id).map pp ++ pp l.id :: (B.map GT.id).map pp := by simp
theorem two_of {β : Type} {ts : List β} {j : Nat} (h : j + 1 < ts.length) : ∃ A l r B, ts = A ++ l :: r :: B ∧ A.length = j :=
  ⟨ts.take j, ts[j], ts[j + 1], ts.drop (j + 2), by
    rw [← List.drop_eq_getElem_cons h, ← List.drop_eq_getElem_cons (by omega), List.take_append_drop], by rw [List.length_take]; omega⟩
theorem one_of {β : Type} {ts : List β} {j : Nat} (h : j < ts.length) : ∃ A l B, ts = A ++ l :: B ∧ A.length = j :=
  ⟨ts.take j, ts[j], ts.drop (j + 1), by rw [← List.drop_eq_getElem_cons h, List.take_append_drop], by rw [List.length_take]; omega⟩
def Mended (iso : Int) (m j : Nat) {k : Nat} (t t' : GT It (k + 1)) : Prop := t'.id = t.id ∧ t'.pt.items = t.pt.items ∧ t'.pt.Fl m (t.pt.1.length - 1) ∧ Gd iso t' ∧ t'.pt = PT.mendAt m t.pt j
theorem mended_two {iso : Int} {m j k : Nat} {A B : List (GT It k)} {l r l' r' : GT It k} {P S : List It} {y z : It} {t t' : GT It (k + 1)} (e : t.pt = (P ++ y :: S, (A ++ l :: r :: B).map GT.pt)) (e' : t'.pt = (P ++ z :: S, (A ++ l' :: r' :: B).map GT.pt)) (hA : A.length = P.length) (hB : B.length = S.length)
    (hi : t'.id = t.id) (g' : Gd iso t') (hab : ∀ c ∈ A ++ B, PT.Fl m (m / 2) c.pt) (hlm : t.pt.1.length ≤ m) (fl : l'.pt.Fl m (m / 2)) (fr : r'.pt.Fl m (m / 2)) (hx : l.pt.items ++ y :: r.pt.items = l'.pt.items ++ z :: r'.pt.items) (hPj : P.length = j)
    (hs : ¬ l.nd.its.length + r.nd.its.length < m ∧ ((r.nd.its.length < l.nd.its.length ∧ PT.shR y l.pt r.pt = (l'.pt, z, r'.pt)) ∨ (¬ r.nd.its.length < l.nd.its.length ∧ PT.shL y l.pt r.pt = (l'.pt, z, r'.pt)))) : Mended iso m j t t' := by
  refine ⟨hi, ?_, ?_, g', ?_⟩
  rotate_right
  · have e1 : t.pt = (P ++ y :: S, A.map GT.pt ++ l.pt :: r.pt :: B.map GT.pt) := e.trans (congrArg (Prod.mk (P ++ y :: S)) (by rw [List.map_append, List.map_cons, List.map_cons]))
    have e2 : t'.pt = (P ++ z :: S, A.map GT.pt ++ l'.pt :: r'.pt :: B.map GT.pt) := e'.trans (congrArg (Prod.mk (P ++ z :: S)) (by rw [List.map_append, List.map_cons, List.map_cons]))
    have key := PT.mendAt_eq (m := m) (S := S) (A := A.map GT.pt) (B := B.map GT.pt) (y := y) (l := l.pt) (r := r.pt) hPj (by rw [List.length_map]; omega)
    rw [GT.pt_its, GT.pt_its, if_neg hs.1] at key; rw [e1, e2]; refine Eq.trans ?_ key.symm
    rcases hs.2 with ⟨h1, h2⟩ | ⟨h1, h2⟩
    · (rw [if_pos h1, h2]) <;> rfl
    · (rw [if_neg h1, h2]) <;> rfl
  · have e1 : t.pt = (P ++ y :: S, A.map GT.pt ++ l.pt :: r.pt :: B.map GT.pt) := e.trans (congrArg (Prod.mk (P ++ y :: S)) (by rw [List.map_append, List.map_cons, List.map_cons]))
    have e2 : t'.pt = (P ++ z :: S, A.map GT.pt ++ l'.pt :: r'.pt :: B.map GT.pt) := e'.trans (congrArg (Prod.mk (P ++ z :: S)) (by rw [List.map_append, List.map_cons, List.map_cons]))
    rw [e1, e2, PT.items_two _ _ _ _ _ _ _ (by rw [List.length_map]; exact hA) (by rw [List.length_map]; exact hB), PT.items_two _ _ _ _ _ _ _ (by rw [List.length_map]; exact hA) (by rw [List.length_map]; exact hB)]
    have h2 := congrArg (fun q => lz P ((A.map GT.pt).map PT.items) ++ (q ++ rz S ((B.map GT.pt).map PT.items))) hx
    simp only [List.append_assoc, List.cons_append] at h2 ⊢
    exact h2.symm
  · rw [e] at hlm ⊢
    rw [e']
    have hl : (P ++ y :: S).length ≤ m := hlm
    simp only [List.length_append, List.length_cons] at hl
    refine ⟨by show (P ++ y :: S).length - 1 ≤ (P ++ z :: S).length; simp, by show (P ++ z :: S).length ≤ m; simp; omega, by show ((A ++ l' :: r' :: B).map GT.pt).length = (P ++ z :: S).length + 1; simp; omega, fun c hc => ?_⟩
    obtain ⟨q, hq, rfl⟩ := List.mem_map.1 hc
    rcases List.mem_append.1 hq with h | h
    · exact hab q (List.mem_append.2 (.inl h))
    · rcases List.mem_cons.1 h with h | h
      · subst h; exact fl
      · rcases List.mem_cons.1 h with h | h
        · subst h; exact fr
        · exact hab q (List.mem_append.2 (.inr h))
theorem mended_one {iso : Int} {m j k : Nat} {A B : List (GT It k)} {l r l' : GT It k} {P S : List It} {y : It} {t t' : GT It (k + 1)} (e : t.pt = (P ++ y :: S, (A ++ l :: r :: B).map GT.pt)) (e' : t'.pt = (P ++ S, (A ++ l' :: B).map GT.pt)) (hA : A.length = P.length) (hB : B.length = S.length)
    (hi : t'.id = t.id) (g' : Gd iso t') (hab : ∀ c ∈ A ++ B, PT.Fl m (m / 2) c.pt) (hlm : t.pt.1.length ≤ m) (fl : l'.pt.Fl m (m / 2)) (hx : l.pt.items ++ y :: r.pt.items = l'.pt.items) (hPj : P.length = j) (hs : l.nd.its.length + r.nd.its.length < m ∧ PT.join2 y l.pt r.pt = l'.pt) : Mended iso m j t t' := by
  refine ⟨hi, ?_, ?_, g', ?_⟩
  rotate_right
  · have e1 : t.pt = (P ++ y :: S, A.map GT.pt ++ l.pt :: r.pt :: B.map GT.pt) := e.trans (congrArg (Prod.mk (P ++ y :: S)) (by rw [List.map_append, List.map_cons, List.map_cons]))
    have e2 : t'.pt = (P ++ S, A.map GT.pt ++ l'.pt :: B.map GT.pt) := e'.trans (congrArg (Prod.mk (P ++ S)) (by rw [List.map_append, List.map_cons]))
    have key := PT.mendAt_eq (m := m) (S := S) (A := A.map GT.pt) (B := B.map GT.pt) (y := y) (l := l.pt) (r := r.pt) hPj (by rw [List.length_map]; omega)
    rw [GT.pt_its, GT.pt_its, if_pos hs.1, hs.2] at key; rw [e1, e2]; exact key.symm
  · have e1 : t.pt = (P ++ y :: S, A.map GT.pt ++ l.pt :: r.pt :: B.map GT.pt) := e.trans (congrArg (Prod.mk (P ++ y :: S)) (by rw [List.map_append, List.map_cons, List.map_cons]))
    have e2 : t'.pt = (P ++ S, A.map GT.pt ++ l'.pt :: B.map GT.pt) := e'.trans (congrArg (Prod.mk (P ++ S)) (by rw [List.map_append, List.map_cons]))
    rw [e1, e2, PT.items_two _ _ _ _ _ _ _ (by rw [List.length_map]; exact hA) (by rw [List.length_map]; exact hB), PT.items_one _ _ _ _ _ (by rw [List.length_map]; exact hA) (by rw [List.length_map]; exact hB), ← hx]
    simp only [List.append_assoc, List.cons_append]
  · rw [e] at hlm ⊢
    rw [e']
    have hl : (P ++ y :: S).length ≤ m := hlm
    simp only [List.length_append, List.length_cons] at hl
    refine ⟨by show (P ++ y :: S).length - 1 ≤ (P ++ S).length; simp, by show (P ++ S).length ≤ m; simp; omega, by show ((A ++ l' :: B).map GT.pt).length = (P ++ S).length + 1; simp; omega, fun c hc => ?_⟩
    obtain ⟨q, hq, rfl⟩ := List.mem_map.1 hc
    rcases List.mem_append.1 hq with h | h
    · exact hab q (List.mem_append.2 (.inl h))
    · rcases List.mem_cons.1 h with h | h
      · subst h; exact fl
      · exact hab q (List.mem_append.2 (.inr h))
end Go.Proofs.Ytdpkpcmoabfofaa.Iu
end
