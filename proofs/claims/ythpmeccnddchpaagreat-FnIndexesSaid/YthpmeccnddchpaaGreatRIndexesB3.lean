/-
  Texts of this claim, laid together: S14 S15 S16 S2 S3 S4 S5 S6 S7 S8.
  Conditions: as each of them tells.
-/
import Derived.Test.YthpmeccnddchpaaGreatRIndexesB2
set_option linter.unusedVariables false
set_option linter.unusedSimpArgs false
open List (set_cons_zero set_cons_succ eraseIdx_cons_zero eraseIdx_cons_succ cons_append nil_append map_append map_cons map_flatMap map_nil flatMap_cons flatMap_append flatMap_nil append_nil append_assoc length_cons length_nil length_append take_succ_cons drop_succ_cons take_zero drop_zero take_nil drop_nil size_toArray length_map)
set_option maxRecDepth 100000
set_option maxHeartbeats 8000000
section
namespace Go.Proofs.YthpmeccnddchpaaGreat
open Go.Hp
def z1e_.j1 (s0 s1 s2 : Value) (h : Heap) (Q : Value → Heap → Prop) : Prop := nilck s0 fun b=>fld 2 b fun d=>z0o_.call #[s0, d, s1, s2] h fun g h=>Q (.tuple #[]) h
def z1e_.sh (a0 a1 a2 : Value) (h : Heap) (Q : Value → Heap → Prop) : Prop := nilck a0 fun b=>fld 2 b fun d=>load1 d h fun g=>eqNilP g fun i=>ifV i (Q (.tuple #[]) h) (z1e_.j1 a0 a1 a2 h Q)
theorem z1e_.body (a0 a1 a2 : Value) (h : Heap) (Q : Value → Heap → Prop) (H : z1e_.sh a0 a1 a2 h Q) : z1e_.call #[a0, a1, a2] h Q := by
 refine callsH_of (args := [a0, a1, a2]) Tryz.func66 rfl rfl ?_; unfold z1e_.sh at H; refine WPc_seq (fun e h=> z1e_.j1 (e 0) (e 1) (e 2) h Q) ?_ (fun e h H=> ?_)
 rotate_left
 · unfold z1e_.j1 at H
   exact W_region (by kernel_rfl) <| nM (e 0) rfl<|nM (e 0) rfl<|nB TF_84_2 H fun _ _ H=> nM (e 1) rfl<|nM (e 2) rfl<|vl_n <| H_call HB_82 H fun _ h H=> vl_e <| resH_of rfl<|H
 refine sR <| nM a0 rfl<|nT TF_84_2 T1_80 H fun _ _ _ H=> nP (R_eqNilP Tryz.underlying80 rfl) H fun _ H=> vl_e ?_; refine cI H (fun H=> ?_) fun H=> ?_
 · exact WPc_ret <| resH_of rfl<|H
 · exact WPc_skip <| H
def z1b_.sh (a0 a1 : Value) (h : Heap) (Q : Value → Heap → Prop) : Prop := z1e_.call #[a0, a1, (.bool false)] h fun b h=>Q (.tuple #[]) h
theorem z1b_.body (a0 a1 : Value) (h : Heap) (Q : Value → Heap → Prop) (H : z1b_.sh a0 a1 h Q) : z1b_.call #[a0, a1] h Q := by
 refine callsH_of (args := [a0, a1]) Tryz.func45 rfl rfl ?_; unfold z1b_.sh at H; exact W_region (by kernel_rfl) <| nM a0 rfl<|nM a1 rfl<|vl_n <| H_call HB_66 H fun _ h H=> vl_e <| resH_of rfl<|H
def z19_.sh (a0 f0 f1 : Value) (h : Heap) (Q : Value → Heap → Prop) : Prop := box 31 a0 h fun b h=>load1 f0 h fun d=>load1 f0 h fun g=>nilck g fun i=>load1 i h fun j=>loadN 2 b h fun k=>mkSl (if 1 * 2 = 0 then [] else zeros [(.int .i64 0), (.int .i64 0)] 1) 1 [(0 * 2, 2, k)] 31 h fun l h=>still1 f0 d h ∧ still1 f0 g h ∧ still1 i j h ∧ app 31 2 16 [(.int .i64 0), (.int .i64 0)] j l h fun m h=>still1 f0 d h ∧ nilck d fun n=>store1 n m h fun h=>load1 f1 h fun o=>cmpI (fun a b=> decide (a < b)) o (.int .i64 1) fun p=>br p false (load1 f0 h fun q=>nilck q fun u=>load1 u h fun v=>lenV v fun w=>load1 f1 h fun x=>cmpI (fun a b=> decide (a < b)) w x fun y=>Q y h) (Q (.bool true) h)
theorem z19_.body (a0 f0 f1 : Value) (h : Heap) (Q : Value → Heap → Prop) (H : z19_.sh a0 f0 f1 h Q) : z19_.call #[a0, f0, f1] h Q := by
 refine callsH_of (args := [a0, f0, f1]) Tryz.func57 rfl rfl ?_; unfold z19_.sh at H; refine sR <| vl_n <| H_box H fun _ h H=> nS (.bool false) rfl<|vl_e <| WPc_seq' <| W_drawn [0,0,2,6,0,16,62,127,255] (Tk 0<|Tk 1<|Tk 2<|Tk 3<|Tk 4<|Al 5<|Al 6<|Tk 7<|Al 8 .done) mixed (by kernel_rfl) <| pL rfl T1_68 H fun _ _ hat5 H=> pL rfl T1_68 H fun _ _ hat6 H=> pP rfl R_nil H fun _ H=> pL rfl T1_29 H fun _ _ hat8 H=> tkL rfl<|R_loadN TN_31 H fun _ _ _ _ H _ _=> aE rfl<|H_mkSl TZ_29 (by decide) rfl H rfl fun _ h ⟨S, S_2, S_3, H⟩=> ⟨(hskip rfl (hcons rfl (still_1 S_3 hat8) (hcons rfl (still_1 S_2 hat6) (hcons rfl (still_1 S hat5) hnil)))), aE rfl<|H_app TZ_29 TU_29 H fun _ h ⟨S_4, H⟩=> ⟨(hskip rfl (hskip rfl (hcons rfl (still_1 S_4 hat5) hnil))), pP rfl R_nil H fun _ H=> ?_⟩⟩
 refine aE rfl<|H_store1 TS_29 H fun h H=> ⟨(hskip rfl hnil), vp_done <| WPc_seq' <| W_drawn [0,1,3,7,15,31,63,7,255,511,1023] (Tk 0<|Tk 1<|Tk 2<|Tk 3<|Tk 4<|Tk 5<|Tk 6<|Tk 7<|Tk 8<|Tk 9<|Tk 10 .done) mixed (by kernel_rfl) <| pL rfl T1_3 H fun _ _ _ H=> pP rfl R_lss H fun t14 H=> pM t14 rfl rfl ?_⟩
 obtain ⟨b, hb, H1, H2⟩ := H
 cases b
 · have H := H1 rfl
   clear H1 H2; refine tkLy rfl rfl hb ?_; refine R_load1 T1_68 H fun _ _ _ _ H=> ?_; refine tkPy rfl rfl hb ?_; refine R_nil H fun _ H=> ⟨fun _=> trivial, ?_⟩
   refine tkLy rfl rfl hb ?_; refine R_load1 T1_29 H fun _ _ _ _ H=> ?_; refine tkPy rfl rfl hb ?_; refine R_len Tryz.underlying29 H fun _ H=> ⟨fun _=> trivial, ?_⟩
   refine tkLy rfl rfl hb ?_; refine R_load1 T1_3 H fun _ _ _ _ H=> ?_; refine tkPy rfl rfl hb ?_; refine R_lss H fun t21 H=> ⟨fun _=> trivial, ?_⟩
   exact pA rfl (R_pickC (v := t21) false hb rfl) <| pS t21 rfl rfl<|vp_done <| WPc_ret <| resH_of rfl<|H
 · have H := H2 rfl
   clear H1 H2; refine tk_s rfl rfl (nbF hb) ?_; refine tk_s rfl rfl (nbF hb) ?_; refine tk_s rfl rfl (nbF hb) ?_; refine tk_s rfl rfl (nbF hb) ?_; refine tk_s rfl rfl (nbF hb) ?_; refine tk_s rfl rfl (nbF hb) ?_; exact pA rfl (R_pickC (v := (.bool true)) true hb rfl) <| pS (.bool true) rfl rfl<|vp_done <| WPc_ret <| resH_of rfl<|H
def z1w_.sh (a0 a1 : Value) (h : Heap) (Q : Value → Heap → Prop) : Prop := box 68 a0 h fun b h=>box 3 a1 h fun d h=>Q (.func (.func 57) #[] #[b, d]) h
theorem z1w_.body (a0 a1 : Value) (h : Heap) (Q : Value → Heap → Prop) (H : z1w_.sh a0 a1 h Q) : z1w_.call #[a0, a1] h Q := by
 refine callsH_of (args := [a0, a1]) Tryz.func33 rfl rfl ?_; unfold z1w_.sh at H; exact sR <| vl_n <| H_box H fun t2 h H=> vl_n <| H_box H fun t3 h H=> nS .nilFunc rfl<|vl_e <| sR <| nA (R_mkFn (v := (.func (.func 57) #[] #[t2, t3])) rfl) <| nS (.func (.func 57) #[] #[t2, t3]) rfl<|vl_e <| WPc_ret <| resH_of rfl<|H
def z1n_.sh (a0 a1 f0 : Value) (h : Heap) (Q : Value → Heap → Prop) : Prop := load1 f0 h fun b=>buildV [(.int .i64 0), (.int .i64 0)] [(0, 1, a0), (1, 1, a1)] fun d=>callV Tryz.prog b #[d] h fun g h=>Q g h
theorem z1n_.body (a0 a1 f0 : Value) (h : Heap) (Q : Value → Heap → Prop) (H : z1n_.sh a0 a1 f0 h Q) : z1n_.call #[a0, a1, f0] h Q := by
 refine callsH_of (args := [a0, a1, f0]) Tryz.func67 rfl rfl ?_; unfold z1n_.sh at H; exact sR <| nS (.bool false) rfl<|vl_e <| sR <| nL T1_66 H fun _ H=> nM a0 rfl<|nM a1 rfl<|nP (R_build TB_31 rfl (by decide)) H fun _ H=> vl_n <| H_callV H fun t10 h H=> nS t10 rfl<|vl_e <| WPc_ret <| resH_of rfl<|H
def z2a_.sh (a0 a1 : Value) (h : Heap) (Q : Value → Heap → Prop) : Prop := z1w_.call #[a0, a1] h fun b h=>alloc [.nilFunc] 66 h fun d h=>store1 d b h fun h=>Q (.func (.func 67) #[] #[d]) h
theorem z2a_.body (a0 a1 : Value) (h : Heap) (Q : Value → Heap → Prop) (H : z2a_.sh a0 a1 h Q) : z2a_.call #[a0, a1] h Q := by
 refine callsH_of (args := [a0, a1]) Tryz.func46 rfl rfl ?_; unfold z2a_.sh at H; refine sR <| nS .nilFunc rfl<|vl_e <| sR <| nM a0 rfl<|nM a1 rfl<|vl_n <| H_call HB_33 H fun _ h H=> vl_n <| H_alloc TV_66 H fun t5 h H=> vl_n <| H_store1 TS_66 H fun h H=> vl_e <| sR <| nA (R_mkFn (v := (.func (.func 67) #[] #[t5])) rfl) <| nS (.func (.func 67) #[] #[t5]) rfl<|vl_e ?_; exact WPc_ret <| resH_of rfl<|H
def z1t_.sh (a0 : Value) (h : Heap) (Q : Value → Heap → Prop) : Prop := alloc [(.slice none 0 0)] 29 h fun b h=>z2a_.call #[b, (.int .i64 0)] h fun d h=>z1b_.call #[a0, d] h fun g h=>load1 b h fun i=>Q i h
theorem z1t_.body (a0 : Value) (h : Heap) (Q : Value → Heap → Prop) (H : z1t_.sh a0 h Q) : z1t_.call #[a0] h Q := by
 refine callsH_of (args := [a0]) Tryz.func28 rfl rfl ?_; unfold z1t_.sh at H; refine sR <| nS (.slice none 0 0) rfl<|vl_e <| sR <| vl_n <| H_alloc TV_29 H fun _ h H=> vl_e <| sR <| nM a0 rfl<|vl_n <| H_call HB_46 H fun _ h H=> vl_n <| H_call HB_45 H fun _ h H=> vl_e <| sR <| nL T1_29 H fun t7 H=> nS t7 rfl ?_; exact vl_e <| WPc_ret <| resH_of rfl<|H
def z1s_.j1 (s8 s9 : Value) (h : Heap) (Q : Value → Heap → Prop) : Prop := z1t_.call #[s8] h fun b h=>Q (.tuple #[s9, b]) h
def z1s_.j4 (s8 s9 s17 s18 s19 : Value) (h : Heap) (K1 : List Value → Heap → Prop) (Q : Value → Heap → Prop) : Prop := arith (· + ·) s19 (.int .i64 1) fun b=>K1 [s9, b] h
def z1s_.j3 (s8 s9 s17 s18 s19 : Value) (h : Heap) (K1 : List Value → Heap → Prop) (Q : Value → Heap → Prop) : Prop := idx 1 s17 s19 fun b=>load1 b h fun d=>z12_.call #[s8, d] h fun g h=>extr 0 g fun i=>extr 1 g fun j=>z2g_.call #[d, i, j] h fun k h=>mkSl (if 1 * 3 = 0 then [] else zeros [(.int .i64 0), (.int .i64 0), (.bool false)] 1) 1 [(0 * 3, 3, k)] 38 h fun l h=>app 38 3 24 [(.int .i64 0), (.int .i64 0), (.bool false)] s9 l h fun m h=>z1s_.j4 s8 m s17 s18 s19 h K1 Q
def z1s_.l2.b (c8 c17 c18 s9 s19 : Value) (h : Heap) (K1 : List Value → Heap → Prop) (Q : Value → Heap → Prop) : Prop := cmpI (fun a b=> decide (a < b)) s19 c18 fun b=>ifV b (z1s_.j3 c8 s9 c17 c18 s19 h K1 Q) (z1s_.j1 c8 s9 h Q)
def z1s_.sh (a0 a1 a2 : Value) (h : Heap) (Q : Value → Heap → Prop) : Prop := z1u_.call #[a0, a1] h fun b h=>lenV a2 fun d=>loopC (fun c s h K1=> z1s_.l2.b (c.getD 0 undef) (c.getD 1 undef) (c.getD 2 undef) (s.getD 0 undef) (s.getD 1 undef) h K1 Q) [b, a2, d] [(.slice none 0 0), (.int .i64 0)] h
theorem z1s_.body (a0 a1 a2 : Value) (h : Heap) (Q : Value → Heap → Prop) (H : z1s_.sh a0 a1 a2 h Q) : z1s_.call #[a0, a1, a2] h Q := by
 refine callsH_of (args := [a0, a1, a2]) Tryz.func10 rfl rfl ?_; unfold z1s_.sh at H; refine sR <| nS (.slice none 0 0) rfl<|nS (.slice none 0 0) rfl<|vl_e <| sR <| nM a0 rfl<|nM a1 rfl<|vl_n <| H_call HB_23 H fun t16 h H=> nS t16 rfl<|vl_e <| sR <| nS (.slice none 0 0) rfl<|vl_e ?_; refine WPc_seq (fun e h=> z1s_.j1 (e 8) (e 9) h Q) ?_ (fun e h H=> ?_)
 rotate_left
 · unfold z1s_.j1 at H
   exact sR <| nM (e 9) rfl<|nM (e 8) rfl<|vl_n <| H_call HB_28 H fun t39 h H=> nS (e 9) rfl<|nS t39 rfl<|vl_e <| WPc_ret <| resH_of rfl<|H
 refine sR <| nM a2 rfl<|nP (R_len Tryz.underlying25) H fun _ H=> nM (.int .i64 0) rfl<|vl_e <| WPc_block ?_; refine loop_at (fun e=> [e 9, e 19]) (fun e=> [e 8, e 17, e 18]) H rfl rfl ?_; intro K1 e1 h H hin1
 replace H : z1s_.l2.b (e1 8) (e1 17) (e1 18) (e1 9) (e1 19) h K1 Q := H
 unfold z1s_.l2.b at H; clear hin1; refine sR <| nP R_lss H fun _ H=> vl_e ?_; refine WPc_seq (fun e h=> z1s_.j3 (e 8) (e 9) (e 17) (e 18) (e 19) h K1 Q ∧ [e1 8, e1 17, e1 18] = [e 8, e 17, e 18]) ?_ (fun e h ⟨H, hq1⟩=> ?_)
 rotate_left
 · unfold z1s_.j3 at H
   refine WPc_seq (fun e h=> z1s_.j4 (e 8) (e 9) (e 17) (e 18) (e 19) h K1 Q ∧ [e1 8, e1 17, e1 18] = [e 8, e 17, e 18]) ?_ (fun e h ⟨H, hq1⟩=> ?_)
   rotate_left
   · unfold z1s_.j4 at H
     refine W_region (by kernel_rfl) <| nP R_add H fun t36 H=> nM t36 rfl<|vl_e ?_; exact ⟨H, hq1⟩
   refine WPc_block <| sR <| nP (R_idx TE_25) H fun _ H=> nL T1_3 H fun t22 H=> nS t22 rfl<|vl_e <| sR <| nM (e 8) rfl<|nM t22 rfl<|vl_n <| H_call HB_27 H fun t26 h H=> nM t26 rfl<|nP R_ext H fun t27 H=> nP R_ext H fun t28 H=> nS t27 rfl ?_; refine nS t28 rfl<|vl_e <| W_region (by kernel_rfl) <| nM (e 9) rfl<|nM t22 rfl<|nM t27 rfl<|nM t28 rfl<|vl_n <| H_call HB_25 H fun _ h H=> vl_n <| H_mkSl TZ_35 (by decide) rfl H rfl fun _ h H=> vl_n <| H_app TZ_35 TU_35 H fun t35 h H=> nS t35 rfl<|vl_e ?_; exact ⟨H, hq1⟩
 refine cI H (fun H=> ?_) fun H=> ?_
 · refine WPc_skip ?_
   exact ⟨H, rfl⟩
 · refine WPc_exit ?_
   exact H
def z2e_.j1 (s6 s7 : Value) (h : Heap) (Q : Value → Heap → Prop) : Prop := z1t_.call #[s6] h fun b h=>Q (.tuple #[s7, b]) h
def z2e_.j4 (s6 s7 s14 s15 s16 : Value) (h : Heap) (K1 : List Value → Heap → Prop) (Q : Value → Heap → Prop) : Prop := arith (· + ·) s16 (.int .i64 1) fun b=>K1 [s7, b] h
def z2e_.j3 (s6 s7 s14 s15 s16 : Value) (h : Heap) (K1 : List Value → Heap → Prop) (Q : Value → Heap → Prop) : Prop := idx 2 s14 s16 fun b=>loadN 2 b h fun d=>alloc [(.int .i64 0), (.int .i64 0)] 31 h fun g h=>storeN 2 g d h fun h=>fld 0 g fun i=>load1 i h fun j=>fld 1 g fun k=>load1 k h fun l=>z1l_.call #[s6, j, l] h fun m h=>extr 0 m fun n=>extr 1 m fun o=>fld 0 g fun p=>load1 p h fun q=>z2g_.call #[q, n, o] h fun u h=>mkSl (if 1 * 3 = 0 then [] else zeros [(.int .i64 0), (.int .i64 0), (.bool false)] 1) 1 [(0 * 3, 3, u)] 38 h fun v h=>app 38 3 24 [(.int .i64 0), (.int .i64 0), (.bool false)] s7 v h fun w h=>z2e_.j4 s6 w s14 s15 s16 h K1 Q
def z2e_.l2.b (c6 c14 c15 s7 s16 : Value) (h : Heap) (K1 : List Value → Heap → Prop) (Q : Value → Heap → Prop) : Prop := cmpI (fun a b=> decide (a < b)) s16 c15 fun b=>ifV b (z2e_.j3 c6 s7 c14 c15 s16 h K1 Q) (z2e_.j1 c6 s7 h Q)
def z2e_.sh (a0 a1 : Value) (h : Heap) (Q : Value → Heap → Prop) : Prop := z1u_.call #[a0, (.slice none 0 0)] h fun b h=>lenV a1 fun d=>loopC (fun c s h K1=> z2e_.l2.b (c.getD 0 undef) (c.getD 1 undef) (c.getD 2 undef) (s.getD 0 undef) (s.getD 1 undef) h K1 Q) [b, a1, d] [(.slice none 0 0), (.int .i64 0)] h
theorem z2e_.body (a0 a1 : Value) (h : Heap) (Q : Value → Heap → Prop) (H : z2e_.sh a0 a1 h Q) : z2e_.call #[a0, a1] h Q := by
 refine callsH_of (args := [a0, a1]) Tryz.func11 rfl rfl ?_; unfold z2e_.sh at H; refine sR <| nS (.slice none 0 0) rfl<|nS (.slice none 0 0) rfl<|vl_e <| sR <| nM a0 rfl<|vl_n <| H_call HB_23 H fun t13 h H=> nS t13 rfl<|vl_e <| sR <| nS (.slice none 0 0) rfl<|vl_e ?_; refine WPc_seq (fun e h=> z2e_.j1 (e 6) (e 7) h Q) ?_ (fun e h H=> ?_)
 rotate_left
 · unfold z2e_.j1 at H
   exact sR <| nM (e 7) rfl<|nM (e 6) rfl<|vl_n <| H_call HB_28 H fun t40 h H=> nS (e 7) rfl<|nS t40 rfl<|vl_e <| WPc_ret <| resH_of rfl<|H
 refine sR <| nM a1 rfl<|nP (R_len Tryz.underlying29) H fun _ H=> nM (.int .i64 0) rfl<|vl_e <| WPc_block ?_; refine loop_at (fun e=> [e 7, e 16]) (fun e=> [e 6, e 14, e 15]) H rfl rfl ?_; intro K1 e1 h H hin1
 replace H : z2e_.l2.b (e1 6) (e1 14) (e1 15) (e1 7) (e1 16) h K1 Q := H
 unfold z2e_.l2.b at H; clear hin1; refine sR <| nP R_lss H fun _ H=> vl_e ?_; refine WPc_seq (fun e h=> z2e_.j3 (e 6) (e 7) (e 14) (e 15) (e 16) h K1 Q ∧ [e1 6, e1 14, e1 15] = [e 6, e 14, e 15]) ?_ (fun e h ⟨H, hq1⟩=> ?_)
 rotate_left
 · unfold z2e_.j3 at H
   refine WPc_seq (fun e h=> z2e_.j4 (e 6) (e 7) (e 14) (e 15) (e 16) h K1 Q ∧ [e1 6, e1 14, e1 15] = [e 6, e 14, e 15]) ?_ (fun e h ⟨H, hq1⟩=> ?_)
   rotate_left
   · unfold z2e_.j4 at H
     refine W_region (by kernel_rfl) <| nP R_add H fun t37 H=> nM t37 rfl<|vl_e ?_; exact ⟨H, hq1⟩
   refine WPc_block <| sR <| nP (R_idx TE_29) H fun _ H=> nLN TN_31 H fun _ H=> vl_n <| H_alloc TV_31 H fun _ h H=> vl_n <| H_storeN TS_31 H fun h H=> vl_e <| sR <| nM (e 6) rfl<|nP (R_fld TF_31_0) H fun _ H=> nL T1_3 H fun _ H=> nP (R_fld TF_31_1) H fun _ H=> nL T1_3 H fun _ H=> vl_n <| H_call HB_29 H fun t26 h H=> ?_; refine nM t26 rfl<|nP R_ext H fun t27 H=> nP R_ext H fun t28 H=> nS t27 rfl<|nS t28 rfl<|vl_e <| W_region (by kernel_rfl) <| nM (e 7) rfl<|nP (R_fld TF_31_0) H fun _ H=> nL T1_3 H fun _ H=> nM t27 rfl<|nM t28 rfl<|vl_n <| H_call HB_25 H fun _ h H=> vl_n <| H_mkSl TZ_35 (by decide) rfl H rfl fun _ h H=> ?_; refine vl_n <| H_app TZ_35 TU_35 H fun t36 h H=> nS t36 rfl<|vl_e ?_; exact ⟨H, hq1⟩
 refine cI H (fun H=> ?_) fun H=> ?_
 · refine WPc_skip ?_
   exact ⟨H, rfl⟩
 · refine WPc_exit ?_
   exact H
def z0b_.j1 (s0 : Value) (h : Heap) (Q : Value → Heap → Prop) : Prop := mkSl (if 0 * 2 = 0 then [] else zeros [(.int .i64 0), (.int .i64 0)] 0) 0 [] 31 h fun b h=>app 31 2 16 [(.int .i64 0), (.int .i64 0)] b s0 h fun d h=>Q d h
def z0b_.sh (a0 : Value) (h : Heap) (Q : Value → Heap → Prop) : Prop := eqNilS a0 fun b=>ifV b (Q (.slice none 0 0) h) (z0b_.j1 a0 h Q)
theorem z0b_.body (a0 : Value) (h : Heap) (Q : Value → Heap → Prop) (H : z0b_.sh a0 h Q) : z0b_.call #[a0] h Q := by
 refine callsH_of (args := [a0]) Tryz.func12 rfl rfl ?_; unfold z0b_.sh at H; refine sR <| nS (.slice none 0 0) rfl<|vl_e ?_; refine WPc_seq (fun e h=> z0b_.j1 (e 0) h Q) ?_ (fun e h H=> ?_)
 rotate_left
 · unfold z0b_.j1 at H
   exact sR <| vl_n <| H_mkSl TZ_29 (by decide) rfl H rfl fun _ h H=> nM (e 0) rfl<|vl_n <| H_app TZ_29 TU_29 H fun t7 h H=> nS t7 rfl<|vl_e <| WPc_ret <| resH_of rfl<|H
 refine sR <| nM a0 rfl<|nP (R_eqNilS Tryz.underlying29 rfl) H fun _ H=> vl_e ?_; refine cI H (fun H=> ?_) fun H=> ?_
 · exact sR <| nS (.slice none 0 0) rfl<|vl_e <| WPc_ret <| resH_of rfl<|H
 · exact WPc_skip <| H
def z2c_.j1 (s6 s7 : Value) (h : Heap) (Q : Value → Heap → Prop) : Prop := z0r_.call #[s6] h fun b h=>Q (.tuple #[s7, b]) h
def z2c_.j4 (s6 s7 s12 s13 s14 : Value) (h : Heap) (K1 : List Value → Heap → Prop) (Q : Value → Heap → Prop) : Prop := arith (· + ·) s14 (.int .i64 1) fun b=>K1 [s7, b] h
def z2c_.j3 (s6 s7 s12 s13 s14 : Value) (h : Heap) (K1 : List Value → Heap → Prop) (Q : Value → Heap → Prop) : Prop := idx 2 s12 s14 fun b=>loadN 2 b h fun d=>alloc [(.int .i64 0), (.int .i64 0)] 31 h fun g h=>storeN 2 g d h fun h=>loadN 2 g h fun i=>z18_.call #[s6, i] h fun j h=>extr 0 j fun k=>extr 1 j fun l=>z29_.call #[k, l] h fun m h=>mkSl (if 1 * 3 = 0 then [] else zeros [(.int .i64 0), (.int .i64 0), (.bool false)] 1) 1 [(0 * 3, 3, m)] 38 h fun n h=>app 38 3 24 [(.int .i64 0), (.int .i64 0), (.bool false)] s7 n h fun o h=>z2c_.j4 s6 o s12 s13 s14 h K1 Q
def z2c_.l2.b (c6 c12 c13 s7 s14 : Value) (h : Heap) (K1 : List Value → Heap → Prop) (Q : Value → Heap → Prop) : Prop := cmpI (fun a b=> decide (a < b)) s14 c13 fun b=>ifV b (z2c_.j3 c6 s7 c12 c13 s14 h K1 Q) (z2c_.j1 c6 s7 h Q)
def z2c_.sh (a0 a1 : Value) (h : Heap) (Q : Value → Heap → Prop) : Prop := box 27 a0 h fun b h=>loadN 3 b h fun d=>z2f_.call #[d, (.slice none 0 0)] h fun g h=>lenV a1 fun i=>loopC (fun c s h K1=> z2c_.l2.b (c.getD 0 undef) (c.getD 1 undef) (c.getD 2 undef) (s.getD 0 undef) (s.getD 1 undef) h K1 Q) [g, a1, i] [(.slice none 0 0), (.int .i64 0)] h
theorem z2c_.body (a0 a1 : Value) (h : Heap) (Q : Value → Heap → Prop) (H : z2c_.sh a0 a1 h Q) : z2c_.call #[a0, a1] h Q := by
 refine callsH_of (args := [a0, a1]) Tryz.func30 rfl rfl ?_; unfold z2c_.sh at H; refine sR <| vl_n <| H_box H fun _ h H=> nS (.slice none 0 0) rfl<|nS (.slice none 0 0) rfl<|vl_e <| sR <| nLN TN_27 H fun _ H=> vl_n <| H_call HB_31 H fun t11 h H=> nS t11 rfl<|vl_e <| sR <| nS (.slice none 0 0) rfl<|vl_e ?_; refine WPc_seq (fun e h=> z2c_.j1 (e 6) (e 7) h Q) ?_ (fun e h H=> ?_)
 rotate_left
 · unfold z2c_.j1 at H
   exact sR <| nM (e 7) rfl<|nM (e 6) rfl<|vl_n <| H_call HB_42 H fun t30 h H=> nS (e 7) rfl<|nS t30 rfl<|vl_e <| WPc_ret <| resH_of rfl<|H
 refine sR <| nM a1 rfl<|nP (R_len Tryz.underlying29) H fun _ H=> nM (.int .i64 0) rfl<|vl_e <| WPc_block ?_; refine loop_at (fun e=> [e 7, e 14]) (fun e=> [e 6, e 12, e 13]) H rfl rfl ?_; intro K1 e1 h H hin1
 replace H : z2c_.l2.b (e1 6) (e1 12) (e1 13) (e1 7) (e1 14) h K1 Q := H
 unfold z2c_.l2.b at H; clear hin1; refine sR <| nP R_lss H fun _ H=> vl_e ?_; refine WPc_seq (fun e h=> z2c_.j3 (e 6) (e 7) (e 12) (e 13) (e 14) h K1 Q ∧ [e1 6, e1 12, e1 13] = [e 6, e 12, e 13]) ?_ (fun e h ⟨H, hq1⟩=> ?_)
 rotate_left
 · unfold z2c_.j3 at H
   refine WPc_seq (fun e h=> z2c_.j4 (e 6) (e 7) (e 12) (e 13) (e 14) h K1 Q ∧ [e1 6, e1 12, e1 13] = [e 6, e 12, e 13]) ?_ (fun e h ⟨H, hq1⟩=> ?_)
   rotate_left
   · unfold z2c_.j4 at H
     refine W_region (by kernel_rfl) <| nP R_add H fun t27 H=> nM t27 rfl<|vl_e ?_; exact ⟨H, hq1⟩
   refine WPc_block <| sR <| nP (R_idx TE_29) H fun _ H=> nLN TN_31 H fun _ H=> vl_n <| H_alloc TV_31 H fun _ h H=> vl_n <| H_storeN TS_31 H fun h H=> vl_e <| W_region (by kernel_rfl) <| nM (e 7) rfl<|nM (e 6) rfl<|nLN TN_31 H fun _ H=> vl_n <| H_call HB_52 H fun _ h H=> nP R_ext H fun _ H=> nP R_ext H fun _ H=> ?_; refine vl_n <| H_call HB_40 H fun _ h H=> vl_n <| H_mkSl TZ_35 (by decide) rfl H rfl fun _ h H=> vl_n <| H_app TZ_35 TU_35 H fun t26 h H=> nS t26 rfl<|vl_e ?_; exact ⟨H, hq1⟩
 refine cI H (fun H=> ?_) fun H=> ?_
 · refine WPc_skip ?_
   exact ⟨H, rfl⟩
 · refine WPc_exit ?_
   exact H
def z2i_.sh (a0 a1 a2 : Value) (h : Heap) (Q : Value → Heap → Prop) : Prop := box 27 a0 h fun b h=>box 31 a2 h fun d h=>loadN 3 b h fun g=>loadN 2 d h fun i=>(z0b_.call #[a1] h fun j h=>stillN 3 b g h ∧ stillN 2 d i h ∧ mkSl (if 1 * 2 = 0 then [] else zeros [(.int .i64 0), (.int .i64 0)] 1) 1 [(0 * 2, 2, i)] 31 h fun k h=>stillN 3 b g h ∧ app 31 2 16 [(.int .i64 0), (.int .i64 0)] j k h fun l h=>stillN 3 b g h ∧ z2c_.call #[g, l] h fun m h=>extr 0 m fun n=>extr 1 m fun o=>Q o h) ∧ (mkSl (if 1 * 2 = 0 then [] else zeros [(.int .i64 0), (.int .i64 0)] 1) 1 [(0 * 2, 2, i)] 31 h fun p h=>stillN 3 b g h ∧ z0b_.call #[a1] h fun q h=>stillN 3 b g h ∧ app 31 2 16 [(.int .i64 0), (.int .i64 0)] q p h fun u h=>stillN 3 b g h ∧ z2c_.call #[g, u] h fun v h=>extr 0 v fun w=>extr 1 v fun x=>Q x h)
theorem z2i_.body (a0 a1 a2 : Value) (h : Heap) (Q : Value → Heap → Prop) (H : z2i_.sh a0 a1 a2 h Q) : z2i_.call #[a0, a1, a2] h Q := by
 refine callsH_of (args := [a0, a1, a2]) Tryz.func13 rfl rfl ?_; unfold z2i_.sh at H; refine sR <| vl_n <| H_box H fun _ h H=> vl_n <| H_box H fun _ h H=> nS (.slice none 0 0) rfl<|vl_e <| WPc_seq' <| W_drawn [0, 0, 2, 0, 8, 30, 63, 127, 255, 255, 511, 2047] (.take 0 (.take 1 (.take 3 (.alt 2 (.alt 4 (.alt 5 (.alt 6 (.take 7 (.take 8 (.take 9 (.take 10 (.take 11 .done))))) .none) .none) .none) (.alt 4 (.alt 2 (.alt 5 (.alt 6 (.take 7 (.take 8 (.take 9 (.take 10 (.take 11 .done))))) .none) .none) .none) .none))))) mixed (by kernel_rfl) <| tkL rfl<|R_loadN TN_27 H fun _ _ hat10 _ H _ hSt10=> pM a1 rfl rfl<|tkL rfl<|R_loadN TN_31 H fun _ _ hat13 _ H _ hSt13=> ?_; obtain ⟨HA0, HA1⟩ := H; refine alt_n rfl ?_ ?_
 · have H := HA0
   clear HA0 HA1; refine H_call HB_12 H fun _ h ⟨S, S_2, H⟩=> ⟨(hcons rfl (hSt13 _ (still_N S_2 hat13 rfl)) (hcons rfl (hSt10 _ (still_N S hat10 rfl)) hnil)), ?_⟩
   refine aE rfl<|H_mkSl TZ_29 (by decide) rfl H rfl fun _ h ⟨S_3, H⟩=> ⟨(hskip rfl (hcons rfl (hSt10 _ (still_N S_3 hat10 rfl)) hnil)), aE rfl<|H_app TZ_29 TU_29 H fun _ h ⟨S_4, H⟩=> ⟨(hcons rfl (hSt10 _ (still_N S_4 hat10 rfl)) hnil), aE rfl<|H_call HB_30 H fun t16 h H=> ⟨(hskip rfl hnil), pM t16 rfl rfl<|pP rfl R_ext H fun t17 H=> pP rfl R_ext H fun t18 H=> pS t17 rfl rfl<|pS t18 rfl rfl<|vp_done <| sR <| nM t18 rfl<|nS t18 rfl<|vl_e <| WPc_ret ?_⟩⟩⟩
   exact resH_of rfl<|H
 refine alt_n rfl ?_ vp_none
 have H := HA1
 clear HA0 HA1; refine H_mkSl TZ_29 (by decide) rfl H rfl fun _ h ⟨S_5, H⟩=> ⟨(hskip rfl (hcons rfl (hSt10 _ (still_N S_5 hat10 rfl)) hnil)), ?_⟩
 refine aE rfl<|H_call HB_12 H fun _ h ⟨S_6, H⟩=> ⟨(hcons rfl (hSt10 _ (still_N S_6 hat10 rfl)) hnil), aE rfl<|H_app TZ_29 TU_29 H fun _ h ⟨S_7, H⟩=> ⟨(hcons rfl (hSt10 _ (still_N S_7 hat10 rfl)) hnil), aE rfl<|H_call HB_30 H fun t16_2 h H=> ⟨(hskip rfl hnil), pM t16_2 rfl rfl<|pP rfl R_ext H fun t17_2 H=> pP rfl R_ext H fun t18_2 H=> pS t17_2 rfl rfl<|pS t18_2 rfl rfl<|vp_done <| sR <| nM t18_2 rfl<|nS t18_2 rfl<|vl_e <| WPc_ret ?_⟩⟩⟩
 exact resH_of rfl<|H
def z16_.j2 (h : Heap) (Q : Value → Heap → Prop) : Prop := Q (.bool true) h
def z16_.j5 (s0 s1 s12 s13 : Value) (h : Heap) (K1 : List Value → Heap → Prop) (Q : Value → Heap → Prop) : Prop := arith (· + ·) s13 (.int .i64 1) fun b=>K1 [b] h
def z16_.j4 (s0 s1 s12 s13 : Value) (h : Heap) (K1 : List Value → Heap → Prop) (Q : Value → Heap → Prop) : Prop := idx 1 s0 s13 fun b=>load1 b h fun d=>idx 1 s1 s13 fun g=>load1 g h fun i=>cmpI (fun a b=> a != b) d i fun j=>ifV j (Q (.bool false) h) (z16_.j5 s0 s1 s12 s13 h K1 Q)
def z16_.l3.b (c0 c1 c12 s13 : Value) (h : Heap) (K1 : List Value → Heap → Prop) (Q : Value → Heap → Prop) : Prop := cmpI (fun a b=> decide (a < b)) s13 c12 fun b=>ifV b (z16_.j4 c0 c1 c12 s13 h K1 Q) (z16_.j2 h Q)
def z16_.j1 (s0 s1 : Value) (h : Heap) (Q : Value → Heap → Prop) : Prop := lenV s0 fun b=>loopC (fun c s h K1=> z16_.l3.b (c.getD 0 undef) (c.getD 1 undef) (c.getD 2 undef) (s.getD 0 undef) h K1 Q) [s0, s1, b] [(.int .i64 0)] h
def z16_.sh (a0 a1 : Value) (h : Heap) (Q : Value → Heap → Prop) : Prop := lenV a0 fun b=>lenV a1 fun d=>cmpI (fun a b=> a != b) b d fun g=>ifV g (Q (.bool false) h) (z16_.j1 a0 a1 h Q)
theorem z16_.body (a0 a1 : Value) (h : Heap) (Q : Value → Heap → Prop) (H : z16_.sh a0 a1 h Q) : z16_.call #[a0, a1] h Q := by
 refine callsH_of (args := [a0, a1]) Tryz.func14 rfl rfl ?_; unfold z16_.sh at H; refine sR <| nS (.bool false) rfl<|vl_e ?_; refine WPc_seq (fun e h=> z16_.j1 (e 0) (e 1) h Q) ?_ (fun e h H=> ?_)
 rotate_left
 · unfold z16_.j1 at H
   refine WPc_seq (fun e h=> z16_.j2 h Q) ?_ (fun e h H=> ?_)
   rotate_left
   · unfold z16_.j2 at H
     exact sR <| nS (.bool true) rfl<|vl_e <| WPc_ret <| resH_of rfl<|H
   refine sR <| nM (e 0) rfl<|nP (R_len Tryz.underlying25) H fun _ H=> nM (.int .i64 0) rfl<|vl_e <| WPc_block ?_; refine loop_at (fun e=> [e 13]) (fun e=> [e 0, e 1, e 12]) H rfl rfl ?_; intro K1 e1 h H hin1
   replace H : z16_.l3.b (e1 0) (e1 1) (e1 12) (e1 13) h K1 Q := H
   unfold z16_.l3.b at H; clear hin1; refine sR <| nP R_lss H fun _ H=> vl_e ?_; refine WPc_seq (fun e h=> z16_.j4 (e 0) (e 1) (e 12) (e 13) h K1 Q ∧ [e1 0, e1 1, e1 12] = [e 0, e 1, e 12]) ?_ (fun e h ⟨H, hq1⟩=> ?_)
   rotate_left
   · unfold z16_.j4 at H
     refine WPc_seq (fun e h=> z16_.j5 (e 0) (e 1) (e 12) (e 13) h K1 Q ∧ [e1 0, e1 1, e1 12] = [e 0, e 1, e 12]) ?_ (fun e h ⟨H, hq1⟩=> ?_)
     rotate_left
     · unfold z16_.j5 at H
       refine W_region (by kernel_rfl) <| nP R_add H fun t25 H=> nM t25 rfl<|vl_e ?_; exact ⟨H, hq1⟩
     refine WPc_block <| sR <| nM (e 13) rfl<|nS (e 13) rfl<|vl_e <| WPc_seq' <| W_drawn [0,0,3,7,0,0,48,112,255] (Tk 0<|Tk 1<|Tk 2<|Tk 3<|Tk 4<|Tk 5<|Tk 6<|Tk 7<|Tk 8 .done) mixed (by kernel_rfl) <| pM (e 0) rfl rfl<|pM (e 13) rfl rfl<|pP rfl (R_idx TE_25) H fun _ H=> pL rfl T1_3 H fun _ _ _ H=> pM (e 1) rfl rfl<|pM (e 13) rfl rfl<|pP rfl (R_idx TE_25) H fun _ H=> ?_; refine pL rfl T1_3 H fun _ _ _ H=> pP rfl R_neI H fun _ H=> vp_done ?_; refine cI H (fun H=> ?_) fun H=> ?_
     · exact sR <| nS (.bool false) rfl<|vl_e <| WPc_ret <| resH_of rfl<|H
     · refine WPc_skip ?_
       exact ⟨H, hq1⟩
   refine cI H (fun H=> ?_) fun H=> ?_
   · refine WPc_skip ?_
     exact ⟨H, rfl⟩
   · refine WPc_exit ?_
     exact H
 refine sR <| nM a0 rfl<|nP (R_len Tryz.underlying25) H fun _ H=> nM a1 rfl<|nP (R_len Tryz.underlying25) H fun _ H=> nP R_neI H fun _ H=> vl_e ?_; refine cI H (fun H=> ?_) fun H=> ?_
 · exact sR <| nS (.bool false) rfl<|vl_e <| WPc_ret <| resH_of rfl<|H
 · exact WPc_skip <| H
def z2k_.j1 (s3 : Value) (h : Heap) (Q : Value → Heap → Prop) : Prop := Q s3 h
def z2k_.j4 (s3 s6 s7 s8 : Value) (h : Heap) (K1 : List Value → Heap → Prop) (Q : Value → Heap → Prop) : Prop := arith (· + ·) s8 (.int .i64 1) fun b=>K1 [s3, b] h
def z2k_.j3 (s3 s6 s7 s8 : Value) (h : Heap) (K1 : List Value → Heap → Prop) (Q : Value → Heap → Prop) : Prop := idx 2 s6 s8 fun b=>loadN 2 b h fun d=>alloc [(.int .i64 0), (.int .i64 0)] 31 h fun g h=>storeN 2 g d h fun h=>fld 0 g fun i=>load1 i h fun j=>mkSl (if 1 * 1 = 0 then [] else zeros [(.int .i64 0)] 1) 1 [(0 * 1, 1, j)] 3 h fun k h=>app 3 1 8 [(.int .i64 0)] s3 k h fun l h=>z2k_.j4 l s6 s7 s8 h K1 Q
def z2k_.l2.b (c6 c7 s3 s8 : Value) (h : Heap) (K1 : List Value → Heap → Prop) (Q : Value → Heap → Prop) : Prop := cmpI (fun a b=> decide (a < b)) s8 c7 fun b=>ifV b (z2k_.j3 s3 c6 c7 s8 h K1 Q) (z2k_.j1 s3 h Q)
def z2k_.sh (a0 : Value) (h : Heap) (Q : Value → Heap → Prop) : Prop := lenV a0 fun b=>loopC (fun c s h K1=> z2k_.l2.b (c.getD 0 undef) (c.getD 1 undef) (s.getD 0 undef) (s.getD 1 undef) h K1 Q) [a0, b] [(.slice none 0 0), (.int .i64 0)] h
theorem z2k_.body (a0 : Value) (h : Heap) (Q : Value → Heap → Prop) (H : z2k_.sh a0 h Q) : z2k_.call #[a0] h Q := by
 refine callsH_of (args := [a0]) Tryz.func15 rfl rfl ?_; unfold z2k_.sh at H; refine sR <| nS (.slice none 0 0) rfl<|vl_e <| sR <| nS (.slice none 0 0) rfl<|vl_e ?_; refine WPc_seq (fun e h=> z2k_.j1 (e 3) h Q) ?_ (fun e h H=> ?_)
 rotate_left
 · unfold z2k_.j1 at H
   exact sR <| nM (e 3) rfl<|nS (e 3) rfl<|vl_e <| WPc_ret <| resH_of rfl<|H
 refine sR <| nM a0 rfl<|nP (R_len Tryz.underlying29) H fun _ H=> nM (.int .i64 0) rfl<|vl_e <| WPc_block ?_; refine loop_at (fun e=> [e 3, e 8]) (fun e=> [e 6, e 7]) H rfl rfl ?_; intro K1 e1 h H hin1
 replace H : z2k_.l2.b (e1 6) (e1 7) (e1 3) (e1 8) h K1 Q := H
 unfold z2k_.l2.b at H; clear hin1; refine sR <| nP R_lss H fun _ H=> vl_e ?_; refine WPc_seq (fun e h=> z2k_.j3 (e 3) (e 6) (e 7) (e 8) h K1 Q ∧ [e1 6, e1 7] = [e 6, e 7]) ?_ (fun e h ⟨H, hq1⟩=> ?_)
 rotate_left
 · unfold z2k_.j3 at H
   refine WPc_seq (fun e h=> z2k_.j4 (e 3) (e 6) (e 7) (e 8) h K1 Q ∧ [e1 6, e1 7] = [e 6, e 7]) ?_ (fun e h ⟨H, hq1⟩=> ?_)
   rotate_left
   · unfold z2k_.j4 at H
     refine W_region (by kernel_rfl) <| nP R_add H fun t17 H=> nM t17 rfl<|vl_e ?_; exact ⟨H, hq1⟩
   refine WPc_block <| sR <| nP (R_idx TE_29) H fun _ H=> nLN TN_31 H fun _ H=> vl_n <| H_alloc TV_31 H fun _ h H=> vl_n <| H_storeN TS_31 H fun h H=> vl_e <| W_region (by kernel_rfl) <| nM (e 3) rfl<|nP (R_fld TF_31_0) H fun _ H=> nL T1_3 H fun _ H=> vl_n <| H_mkSl TZ_25 (by decide) rfl H rfl fun _ h H=> vl_n <| H_app TZ_25 TU_25 H fun t16 h H=> nS t16 rfl ?_; refine vl_e ?_; exact ⟨H, hq1⟩
 refine cI H (fun H=> ?_) fun H=> ?_
 · refine WPc_skip ?_
   exact ⟨H, rfl⟩
 · refine WPc_exit ?_
   exact H
def z1o_.j1 (s7 : Value) (h : Heap) (Q : Value → Heap → Prop) : Prop := Q s7 h
def z1o_.j4 (s0 s2 s7 s8 : Value) (h : Heap) (K1 : List Value → Heap → Prop) (Q : Value → Heap → Prop) : Prop := arith (· + ·) s8 (.int .i64 1) fun b=>K1 [s7, b] h
def z1o_.j7 (s0 s2 s7 s8 s18 : Value) (h : Heap) (K1 : List Value → Heap → Prop) (K2 : List Value → Heap → Prop) (Q : Value → Heap → Prop) : Prop := arith (· + ·) s18 (.int .i64 1) fun b=>K2 [s7, b] h
def z1o_.j10 (s0 s2 s7 s8 s9 s18 s21 s22 s23 : Value) (h : Heap) (K1 : List Value → Heap → Prop) (K2 : List Value → Heap → Prop) (K3 : List Value → Heap → Prop) (Q : Value → Heap → Prop) : Prop := arith (· + ·) s23 (.int .i64 1) fun b=>K3 [s7, b] h
def z1o_.j9 (s0 s2 s7 s8 s9 s18 s21 s22 s23 : Value) (h : Heap) (K1 : List Value → Heap → Prop) (K2 : List Value → Heap → Prop) (K3 : List Value → Heap → Prop) (Q : Value → Heap → Prop) : Prop := idx 2 s21 s23 fun b=>loadN 2 b h fun d=>alloc [(.int .i64 0), (.int .i64 0)] 31 h fun g h=>storeN 2 g d h fun h=>fld 1 g fun i=>load1 i h fun j=>cmpI (fun a b=> a == b) j s8 fun k=>br k true (fld 0 g fun l=>load1 l h fun m=>cmpI (fun a b=> a == b) m s9 fun n=>ifV n (shlV s8 (.int .u64 6) fun o=>arith (· + ·) o s9 fun p=>mkSl (if 1 * 1 = 0 then [] else zeros [(.int .i64 0)] 1) 1 [(0 * 1, 1, p)] 3 h fun q h=>app 3 1 8 [(.int .i64 0)] s7 q h fun u h=>z1o_.j10 s0 s2 u s8 s9 s18 s21 s22 s23 h K1 K2 K3 Q) (z1o_.j10 s0 s2 s7 s8 s9 s18 s21 s22 s23 h K1 K2 K3 Q)) (z1o_.j10 s0 s2 s7 s8 s9 s18 s21 s22 s23 h K1 K2 K3 Q)
def z1o_.l8.b (c0 c2 c8 c9 c18 c21 c22 s7 s23 : Value) (h : Heap) (K1 : List Value → Heap → Prop) (K2 : List Value → Heap → Prop) (K3 : List Value → Heap → Prop) (Q : Value → Heap → Prop) : Prop := cmpI (fun a b=> decide (a < b)) s23 c22 fun b=>ifV b (z1o_.j9 c0 c2 s7 c8 c9 c18 c21 c22 s23 h K1 K2 K3 Q) (z1o_.j7 c0 c2 s7 c8 c18 h K1 K2 Q)
def z1o_.j6 (s0 s2 s7 s8 s18 : Value) (h : Heap) (K1 : List Value → Heap → Prop) (K2 : List Value → Heap → Prop) (Q : Value → Heap → Prop) : Prop := lenV s0 fun b=>loopC (fun c s h K3=> z1o_.l8.b (c.getD 0 undef) (c.getD 1 undef) (c.getD 2 undef) (c.getD 3 undef) (c.getD 4 undef) (c.getD 5 undef) (c.getD 6 undef) (s.getD 0 undef) (s.getD 1 undef) h K1 K2 K3 Q) [s0, s2, s8, s18, s18, s0, b] [s7, (.int .i64 0)] h
def z1o_.l5.b (c0 c2 c8 s7 s18 : Value) (h : Heap) (K1 : List Value → Heap → Prop) (K2 : List Value → Heap → Prop) (Q : Value → Heap → Prop) : Prop := cmpI (fun a b=> decide (a < b)) s18 (.int .i64 64) fun b=>ifV b (z1o_.j6 c0 c2 s7 c8 s18 h K1 K2 Q) (z1o_.j4 c0 c2 s7 c8 h K1 Q)
def z1o_.j3 (s0 s2 s7 s8 : Value) (h : Heap) (K1 : List Value → Heap → Prop) (Q : Value → Heap → Prop) : Prop := loopC (fun c s h K2=> z1o_.l5.b (c.getD 0 undef) (c.getD 1 undef) (c.getD 2 undef) (s.getD 0 undef) (s.getD 1 undef) h K1 K2 Q) [s0, s2, s8] [s7, (.int .i64 0)] h
def z1o_.l2.b (c0 c2 s7 s8 : Value) (h : Heap) (K1 : List Value → Heap → Prop) (Q : Value → Heap → Prop) : Prop := cmpI (fun a b=> decide (a ≤ b)) s8 c2 fun b=>ifV b (z1o_.j3 c0 c2 s7 s8 h K1 Q) (z1o_.j1 s7 h Q)
def z1o_.sh (a0 a1 a2 : Value) (h : Heap) (Q : Value → Heap → Prop) : Prop := loopC (fun c s h K1=> z1o_.l2.b (c.getD 0 undef) (c.getD 1 undef) (s.getD 0 undef) (s.getD 1 undef) h K1 Q) [a0, a2] [(.slice none 0 0), a1] h
theorem z1o_.body (a0 a1 a2 : Value) (h : Heap) (Q : Value → Heap → Prop) (H : z1o_.sh a0 a1 a2 h Q) : z1o_.call #[a0, a1, a2] h Q := by
 refine callsH_of (args := [a0, a1, a2]) Tryz.func16 rfl rfl ?_; unfold z1o_.sh at H; refine sR <| nS (.slice none 0 0) rfl<|vl_e <| sR <| nS (.slice none 0 0) rfl<|vl_e ?_; refine WPc_seq (fun e h=> z1o_.j1 (e 7) h Q) ?_ (fun e h H=> ?_)
 rotate_left
 · unfold z1o_.j1 at H
   exact sR <| nM (e 7) rfl<|nS (e 7) rfl<|vl_e <| WPc_ret <| resH_of rfl<|H
 refine sR <| nM a1 rfl<|nS a1 rfl<|vl_e <| WPc_block ?_; refine loop_at (fun e=> [e 7, e 8]) (fun e=> [e 0, e 2]) H rfl rfl ?_; intro K1 e1 h H hin1
 replace H : z1o_.l2.b (e1 0) (e1 2) (e1 7) (e1 8) h K1 Q := H
 unfold z1o_.l2.b at H; clear hin1; refine WPc_seq (fun e h=> z1o_.j3 (e 0) (e 2) (e 7) (e 8) h K1 Q ∧ [e1 0, e1 2] = [e 0, e 2]) ?_ (fun e h ⟨H, hq1⟩=> ?_)
 rotate_left
 · unfold z1o_.j3 at H
   refine WPc_seq (fun e h=> z1o_.j4 (e 0) (e 2) (e 7) (e 8) h K1 Q ∧ [e1 0, e1 2] = [e 0, e 2]) ?_ (fun e h ⟨H, hq1⟩=> ?_)
   rotate_left
   · unfold z1o_.j4 at H
     refine W_region (by kernel_rfl) <| nM (e 8) rfl<|nP R_add H fun t17 H=> nS t17 rfl<|vl_e ?_; exact ⟨H, hq1⟩
   refine WPc_block <| sR <| nM (.int .i64 0) rfl<|vl_e <| WPc_block ?_; refine loop_at (fun e=> [e 7, e 18]) (fun e=> [e 0, e 2, e 8]) H rfl rfl ?_; intro K2 e2 h H hin2
   replace H : z1o_.l5.b (e2 0) (e2 2) (e2 8) (e2 7) (e2 18) h K1 K2 Q := H
   unfold z1o_.l5.b at H
   have hz1 : [e1 0, e1 2] = [e2 0, e2 2] := Eq.trans hq1 (congrArg (fun l : List Value=> [l.getD 0 undef, l.getD 1 undef]) hin2)
   clear hin2; refine sR <| nP R_lss H fun _ H=> vl_e ?_; refine WPc_seq (fun e h=> z1o_.j6 (e 0) (e 2) (e 7) (e 8) (e 18) h K1 K2 Q ∧ [e1 0, e1 2] = [e 0, e 2] ∧ [e2 0, e2 2, e2 8] = [e 0, e 2, e 8]) ?_ (fun e h ⟨H, hq1, hq2⟩=> ?_)
   rotate_left
   · unfold z1o_.j6 at H
     refine WPc_seq (fun e h=> z1o_.j7 (e 0) (e 2) (e 7) (e 8) (e 18) h K1 K2 Q ∧ [e1 0, e1 2] = [e 0, e 2] ∧ [e2 0, e2 2, e2 8] = [e 0, e 2, e 8]) ?_ (fun e h ⟨H, hq1, hq2⟩=> ?_)
     rotate_left
     · unfold z1o_.j7 at H
       refine W_region (by kernel_rfl) <| nP R_add H fun t45 H=> nM t45 rfl<|vl_e ?_; exact ⟨H, hq2⟩
     refine WPc_block <| sR <| nM (e 18) rfl<|nS (e 18) rfl<|vl_e <| sR <| nM (e 0) rfl<|nP (R_len Tryz.underlying29) H fun _ H=> nM (.int .i64 0) rfl<|vl_e <| WPc_block ?_; refine loop_at (fun e=> [e 7, e 23]) (fun e=> [e 0, e 2, e 8, e 9, e 18, e 21, e 22]) H rfl rfl ?_; intro K3 e3 h H hin3
     replace H : z1o_.l8.b (e3 0) (e3 2) (e3 8) (e3 9) (e3 18) (e3 21) (e3 22) (e3 7) (e3 23) h K1 K2 K3 Q := H
     unfold z1o_.l8.b at H
     have hz1 : [e1 0, e1 2] = [e3 0, e3 2] := Eq.trans hq1 (congrArg (fun l : List Value=> [l.getD 0 undef, l.getD 1 undef]) hin3)
     have hz2 : [e2 0, e2 2, e2 8] = [e3 0, e3 2, e3 8] := Eq.trans hq2 (congrArg (fun l : List Value=> [l.getD 0 undef, l.getD 1 undef, l.getD 2 undef]) hin3)
     clear hin3; refine sR <| nP R_lss H fun _ H=> vl_e ?_; refine WPc_seq (fun e h=> z1o_.j9 (e 0) (e 2) (e 7) (e 8) (e 9) (e 18) (e 21) (e 22) (e 23) h K1 K2 K3 Q ∧ [e1 0, e1 2] = [e 0, e 2] ∧ [e2 0, e2 2, e2 8] = [e 0, e 2, e 8] ∧ [e3 0, e3 2, e3 8, e3 9, e3 18, e3 21, e3 22] = [e 0, e 2, e 8, e 9, e 18, e 21, e 22]) ?_ (fun e h ⟨H, hq1, hq2, hq3⟩=> ?_)
     rotate_left
     · unfold z1o_.j9 at H
       refine WPc_seq (fun e h=> z1o_.j10 (e 0) (e 2) (e 7) (e 8) (e 9) (e 18) (e 21) (e 22) (e 23) h K1 K2 K3 Q ∧ [e1 0, e1 2] = [e 0, e 2] ∧ [e2 0, e2 2, e2 8] = [e 0, e 2, e 8] ∧ [e3 0, e3 2, e3 8, e3 9, e3 18, e3 21, e3 22] = [e 0, e 2, e 8, e 9, e 18, e 21, e 22]) ?_ (fun e h ⟨H, hq1, hq2, hq3⟩=> ?_)
       rotate_left
       · unfold z1o_.j10 at H
         refine W_region (by kernel_rfl) <| nP R_add H fun t44 H=> nM t44 rfl<|vl_e ?_; exact ⟨H, hq3⟩
       refine WPc_block <| sR <| nP (R_idx TE_29) H fun _ H=> nLN TN_31 H fun _ H=> vl_n <| H_alloc TV_31 H fun _ h H=> vl_n <| H_storeN TS_31 H fun h H=> vl_e <| sR <| nP (R_fld TF_31_1) H fun _ H=> nL T1_3 H fun _ H=> nM (e 8) rfl<|nP R_eqI H fun t30 H=> nM t30 rfl ?_; obtain ⟨b, hb, H1, H2⟩ := H
       cases b
       · have H := H2 rfl
         clear H1 H2; refine vl_s rfl (nbT hb) ?_; refine vl_s rfl (nbT hb) ?_; refine vl_s rfl (nbT hb) ?_; refine vl_s rfl (nbT hb) ?_; refine nA (R_pickC (v := (.bool false)) false hb rfl) <| vl_e ?_; refine WPc_cond (t := false) rfl (fun hh=> by cases hh) (fun _=> ?_)
         refine WPc_skip ?_; exact ⟨H, hq1, hq2, hq3⟩
       · have H := H1 rfl
         clear H1 H2; refine vl_y rfl hb ?_; refine H_of_R (R_fld TF_31_0 H fun _ H=> ?_)
         refine vl_y rfl hb ?_; refine H_of_R (R_load1 T1_3 H fun _ _ _ _ H=> ?_)
         refine vl_y rfl hb ?_; refine H_of_R (R_move (v := (e 9)) rfl ?_)
         refine vl_y rfl hb ?_; refine H_of_R (R_eqI H fun t35 H=> ?_)
         refine nA (R_pickC (v := t35) true hb rfl) <| vl_e ?_; refine cI H (fun H=> ?_) fun H=> ?_
         · refine W_region (by kernel_rfl) <| nM (e 7) rfl<|nM (e 8) rfl<|nP R_shl H fun _ H=> nM (e 9) rfl<|nP R_add H fun _ H=> vl_n <| H_mkSl TZ_25 (by decide) rfl H rfl fun _ h H=> vl_n <| H_app TZ_25 TU_25 H fun t43 h H=> nS t43 rfl<|vl_e ?_
           exact ⟨H, hq1, hq2, hq3⟩
         · refine WPc_skip ?_
           exact ⟨H, hq1, hq2, hq3⟩
     refine cI H (fun H=> ?_) fun H=> ?_
     · refine WPc_skip ?_
       exact ⟨H, hz1, hz2, rfl⟩
     · refine WPc_exit ?_
       exact ⟨H, hz1, hz2⟩
   refine cI H (fun H=> ?_) fun H=> ?_
   · refine WPc_skip ?_
     exact ⟨H, hz1, rfl⟩
   · refine WPc_exit ?_
     exact ⟨H, hz1⟩
 refine sR <| nM (e1 8) rfl<|nM (e1 2) rfl<|nP R_leq H fun _ H=> vl_e ?_; refine cI H (fun H=> ?_) fun H=> ?_
 · refine WPc_skip ?_
   exact ⟨H, rfl⟩
 · refine WPc_exit ?_
   exact H
def z0c_.j2 (s0 s2 s3 s9 : Value) (h : Heap) (Q : Value → Heap → Prop) : Prop := nilck s9 fun b=>fld 3 b fun d=>load1 d h fun g=>nilck g fun i=>load1 i h fun j=>nilck s9 fun k=>fld 3 k fun l=>load1 l h fun m=>nilck m fun n=>load1 n h fun o=>lenV o fun p=>arith (· - ·) p (.int .i64 1) fun q=>idx 1 j q fun u=>z0c_.call #[s0, u, s2, s3] h fun v h=>Q v h
def z0c_.j5 (s0 s2 s3 s9 s11 : Value) (h : Heap) (K1 : List Value → Heap → Prop) (Q : Value → Heap → Prop) : Prop := arith (· + ·) s11 (.int .i64 1) fun b=>K1 [b] h
def z0c_.j6 (s0 s2 s3 s9 s11 : Value) (h : Heap) (K1 : List Value → Heap → Prop) (Q : Value → Heap → Prop) : Prop := nilck s9 fun b=>fld 2 b fun d=>load1 d h fun g=>idx 2 g s11 fun i=>loadN 2 i h fun j=>callV Tryz.prog s2 #[j] h fun k h=>notV k fun l=>ifV l (Q (.bool false) h) (z0c_.j5 s0 s2 s3 s9 s11 h K1 Q)
def z0c_.j4 (s0 s2 s3 s9 s11 : Value) (h : Heap) (K1 : List Value → Heap → Prop) (Q : Value → Heap → Prop) : Prop := nilck s9 fun b=>fld 3 b fun d=>load1 d h fun g=>nilck g fun i=>load1 i h fun j=>idx 1 j s11 fun k=>z0c_.call #[s0, k, s2, s3] h fun l h=>notV l fun m=>ifV m (Q (.bool false) h) (z0c_.j6 s0 s2 s3 s9 s11 h K1 Q)
def z0c_.l3.b (c0 c2 c3 c9 s11 : Value) (h : Heap) (K1 : List Value → Heap → Prop) (Q : Value → Heap → Prop) : Prop := nilck c9 fun b=>fld 2 b fun d=>load1 d h fun g=>lenV g fun i=>cmpI (fun a b=> decide (a < b)) s11 i fun j=>ifV j (z0c_.j4 c0 c2 c3 c9 s11 h K1 Q) (z0c_.j2 c0 c2 c3 c9 h Q)
def z0c_.j1 (s0 s2 s3 s9 : Value) (h : Heap) (Q : Value → Heap → Prop) : Prop := loopC (fun c s h K1=> z0c_.l3.b (c.getD 0 undef) (c.getD 1 undef) (c.getD 2 undef) (c.getD 3 undef) (s.getD 0 undef) h K1 Q) [s0, s2, s3, s9] [(.int .i64 0)] h
def z0c_.j7 (h : Heap) (Q : Value → Heap → Prop) : Prop := Q (.bool true) h
def z0c_.j10 (s2 s9 s10 : Value) (h : Heap) (K1 : List Value → Heap → Prop) (Q : Value → Heap → Prop) : Prop := arith (· + ·) s10 (.int .i64 1) fun b=>K1 [b] h
def z0c_.j9 (s2 s9 s10 : Value) (h : Heap) (K1 : List Value → Heap → Prop) (Q : Value → Heap → Prop) : Prop := nilck s9 fun b=>fld 2 b fun d=>load1 d h fun g=>idx 2 g s10 fun i=>loadN 2 i h fun j=>callV Tryz.prog s2 #[j] h fun k h=>notV k fun l=>ifV l (Q (.bool false) h) (z0c_.j10 s2 s9 s10 h K1 Q)
def z0c_.l8.b (c2 c9 s10 : Value) (h : Heap) (K1 : List Value → Heap → Prop) (Q : Value → Heap → Prop) : Prop := nilck c9 fun b=>fld 2 b fun d=>load1 d h fun g=>lenV g fun i=>cmpI (fun a b=> decide (a < b)) s10 i fun j=>ifV j (z0c_.j9 c2 c9 s10 h K1 Q) (z0c_.j7 h Q)
def z0c_.sh (a0 a1 a2 a3 : Value) (h : Heap) (Q : Value → Heap → Prop) : Prop := z0f_.call #[a0, a1, a3] h fun b h=>z1i_.call #[b] h fun d h=>ifV d (loopC (fun c s h K1=> z0c_.l8.b (c.getD 0 undef) (c.getD 1 undef) (s.getD 0 undef) h K1 Q) [a2, b] [(.int .i64 0)] h) (z0c_.j1 a0 a2 a3 b h Q)
theorem z0c_.body (a0 a1 a2 a3 : Value) (h : Heap) (Q : Value → Heap → Prop) (H : z0c_.sh a0 a1 a2 a3 h Q) : z0c_.call #[a0, a1, a2, a3] h Q := by
 refine callsH_of (args := [a0, a1, a2, a3]) Tryz.func88 rfl rfl ?_; unfold z0c_.sh at H; refine sR <| nS (.bool false) rfl<|vl_e <| sR <| nM a0 rfl<|nM a1 rfl<|nM a3 rfl<|vl_n <| H_call HB_85 H fun t15 h H=> nS t15 rfl<|vl_e ?_; refine WPc_seq (fun e h=> z0c_.j1 (e 0) (e 2) (e 3) (e 9) h Q) ?_ (fun e h H=> ?_)
 rotate_left
 · unfold z0c_.j1 at H
   refine WPc_seq (fun e h=> z0c_.j2 (e 0) (e 2) (e 3) (e 9) h Q) ?_ (fun e h H=> ?_)
   rotate_left
   · unfold z0c_.j2 at H
     refine WPc_seq' <| W_drawn [0,0,2,6,14,30,62,0,128,384,896,1920,3968,8064,16256,32766,0,0,262143,524287] (Tk 0<|Tk 1<|Tk 2<|Tk 3<|Tk 4<|Tk 5<|Tk 6<|Tk 7<|Tk 8<|Tk 9<|Tk 10<|Tk 11<|Tk 12<|Tk 13<|Tk 14<|Tk 15<|Tk 16<|Tk 17<|Al 18<|Tk 19 .done) mixed (by kernel_rfl) <| pM (e 0) rfl rfl<|pM (e 9) rfl rfl<|pT rfl rfl rfl TF_149_3 T1_147 H fun _ _ _ _ _ H=> pP rfl R_nil H fun _ H=> pL rfl T1_146 H fun _ _ _ H=> pM (e 9) rfl rfl<|pT rfl rfl rfl TF_149_3 T1_147 H fun _ _ _ _ _ H=> pP rfl R_nil H fun _ H=> ?_; exact pL rfl T1_146 H fun _ _ _ H=> pP rfl (R_len Tryz.underlying146) H fun _ H=> pP rfl R_sub H fun _ H=> pP rfl (R_idx TE_146) H fun _ H=> pM (e 2) rfl rfl<|pM (e 3) rfl rfl<|aE rfl<|H_call HB_88 H fun t87 h H=> ⟨(hskip rfl (hskip rfl (hskip rfl (hskip rfl hnil)))), pS t87 rfl rfl<|vp_done <| WPc_ret <| resH_of rfl<|H⟩
   refine sR <| nS (.int .i64 0) rfl<|vl_e <| WPc_block ?_; refine loop_at (fun e=> [e 11]) (fun e=> [e 0, e 2, e 3, e 9]) H rfl rfl ?_; intro K1 e1 h H hin1
   replace H : z0c_.l3.b (e1 0) (e1 2) (e1 3) (e1 9) (e1 11) h K1 Q := H
   unfold z0c_.l3.b at H; clear hin1; refine WPc_seq (fun e h=> z0c_.j4 (e 0) (e 2) (e 3) (e 9) (e 11) h K1 Q ∧ [e1 0, e1 2, e1 3, e1 9] = [e 0, e 2, e 3, e 9]) ?_ (fun e h ⟨H, hq1⟩=> ?_)
   rotate_left
   · unfold z0c_.j4 at H
     refine WPc_seq (fun e h=> z0c_.j5 (e 0) (e 2) (e 3) (e 9) (e 11) h K1 Q ∧ [e1 0, e1 2, e1 3, e1 9] = [e 0, e 2, e 3, e 9]) ?_ (fun e h ⟨H, hq1⟩=> ?_)
     rotate_left
     · unfold z0c_.j5 at H
       refine W_region (by kernel_rfl) <| nM (e 11) rfl<|nP R_add H fun t45 H=> nS t45 rfl<|vl_e ?_; exact ⟨H, hq1⟩
     refine WPc_block ?_; refine WPc_seq (fun e h=> z0c_.j6 (e 0) (e 2) (e 3) (e 9) (e 11) h K1 Q ∧ [e1 0, e1 2, e1 3, e1 9] = [e 0, e 2, e 3, e 9]) ?_ (fun e h ⟨H, hq1⟩=> ?_)
     rotate_left
     · unfold z0c_.j6 at H
       refine sR <| nM (e 2) rfl<|nM (e 9) rfl<|nT TF_149_2 T1_29 H fun _ _ _ H=> nM (e 11) rfl<|nP (R_idx TE_29) H fun _ H=> nLN TN_31 H fun _ H=> vl_n <| H_callV H fun _ h H=> nP R_not H fun _ H=> vl_e ?_; refine cI H (fun H=> ?_) fun H=> ?_
       · exact sR <| nS (.bool false) rfl<|vl_e <| WPc_ret <| resH_of rfl<|H
       · refine WPc_skip ?_
         exact ⟨H, hq1⟩
     refine sR <| nM (e 0) rfl<|nM (e 9) rfl<|nT TF_149_3 T1_147 H fun _ _ _ H=> nP R_nil H fun _ H=> nL T1_146 H fun _ H=> nM (e 11) rfl<|nP (R_idx TE_146) H fun _ H=> nM (e 2) rfl<|nM (e 3) rfl<|vl_n <| H_call HB_88 H fun _ h H=> nP R_not H fun _ H=> ?_; refine vl_e ?_; refine cI H (fun H=> ?_) fun H=> ?_
     · exact sR <| nS (.bool false) rfl<|vl_e <| WPc_ret <| resH_of rfl<|H
     · refine WPc_skip ?_
       exact ⟨H, hq1⟩
   refine sR <| nM (e1 11) rfl<|nM (e1 9) rfl<|nT TF_149_2 T1_29 H fun _ _ _ H=> nP (R_len Tryz.underlying29) H fun _ H=> nP R_lss H fun _ H=> vl_e ?_; refine cI H (fun H=> ?_) fun H=> ?_
   · refine WPc_skip ?_
     exact ⟨H, rfl⟩
   · refine WPc_exit ?_
     exact H
 refine sR <| nM t15 rfl<|vl_n <| H_call HB_87 H fun _ h H=> vl_e ?_; refine cI H (fun H=> ?_) fun H=> ?_
 · refine WPc_seq (fun e h=> z0c_.j7 h Q) ?_ (fun e h H=> ?_)
   rotate_left
   · unfold z0c_.j7 at H
     exact sR <| nS (.bool true) rfl<|vl_e <| WPc_ret <| resH_of rfl<|H
   refine sR <| nS (.int .i64 0) rfl<|vl_e <| WPc_block ?_; refine loop_at (fun e=> [e 10]) (fun e=> [e 2, e 9]) H rfl rfl ?_; intro K1 e1 h H hin1
   replace H : z0c_.l8.b (e1 2) (e1 9) (e1 10) h K1 Q := H
   unfold z0c_.l8.b at H; clear hin1; refine WPc_seq (fun e h=> z0c_.j9 (e 2) (e 9) (e 10) h K1 Q ∧ [e1 2, e1 9] = [e 2, e 9]) ?_ (fun e h ⟨H, hq1⟩=> ?_)
   rotate_left
   · unfold z0c_.j9 at H
     refine WPc_seq (fun e h=> z0c_.j10 (e 2) (e 9) (e 10) h K1 Q ∧ [e1 2, e1 9] = [e 2, e 9]) ?_ (fun e h ⟨H, hq1⟩=> ?_)
     rotate_left
     · unfold z0c_.j10 at H
       refine W_region (by kernel_rfl) <| nM (e 10) rfl<|nP R_add H fun t26 H=> nS t26 rfl<|vl_e ?_; exact ⟨H, hq1⟩
     refine WPc_block <| sR <| nM (e 2) rfl<|nM (e 9) rfl<|nT TF_149_2 T1_29 H fun _ _ _ H=> nM (e 10) rfl<|nP (R_idx TE_29) H fun _ H=> nLN TN_31 H fun _ H=> vl_n <| H_callV H fun _ h H=> nP R_not H fun _ H=> vl_e ?_; refine cI H (fun H=> ?_) fun H=> ?_
     · exact sR <| nS (.bool false) rfl<|vl_e <| WPc_ret <| resH_of rfl<|H
     · refine WPc_skip ?_
       exact ⟨H, hq1⟩
   refine sR <| nM (e1 10) rfl<|nM (e1 9) rfl<|nT TF_149_2 T1_29 H fun _ _ _ H=> nP (R_len Tryz.underlying29) H fun _ H=> nP R_lss H fun _ H=> vl_e ?_; refine cI H (fun H=> ?_) fun H=> ?_
   · refine WPc_skip ?_
     exact ⟨H, rfl⟩
   · refine WPc_exit ?_
     exact H
 · exact WPc_skip <| H
def z06_.j2 (h : Heap) (Q : Value → Heap → Prop) : Prop := Q (.bool true) h
def z06_.j5 (s0 s5 s6 s15 s16 : Value) (h : Heap) (K1 : List Value → Heap → Prop) (Q : Value → Heap → Prop) : Prop := arith (· + ·) s16 (.int .i64 1) fun b=>K1 [b] h
def z06_.j6 (s0 s5 s6 s15 s16 : Value) (h : Heap) (K1 : List Value → Heap → Prop) (Q : Value → Heap → Prop) : Prop := z1i_.call #[s15] h fun b h=>notV b fun d=>ifV d (nilck s15 fun g=>fld 3 g fun i=>load1 i h fun j=>nilck j fun k=>load1 k h fun l=>arith (· + ·) s16 (.int .i64 1) fun m=>idx 1 l m fun n=>z0c_.call #[s0, n, s5, s6] h fun o h=>notV o fun p=>ifV p (Q (.bool false) h) (z06_.j5 s0 s5 s6 s15 s16 h K1 Q)) (z06_.j5 s0 s5 s6 s15 s16 h K1 Q)
def z06_.j4 (s0 s5 s6 s15 s16 : Value) (h : Heap) (K1 : List Value → Heap → Prop) (Q : Value → Heap → Prop) : Prop := nilck s15 fun b=>fld 2 b fun d=>load1 d h fun g=>idx 2 g s16 fun i=>loadN 2 i h fun j=>callV Tryz.prog s5 #[j] h fun k h=>notV k fun l=>ifV l (Q (.bool false) h) (z06_.j6 s0 s5 s6 s15 s16 h K1 Q)
def z06_.l3.b (c0 c5 c6 c15 s16 : Value) (h : Heap) (K1 : List Value → Heap → Prop) (Q : Value → Heap → Prop) : Prop := nilck c15 fun b=>fld 2 b fun d=>load1 d h fun g=>lenV g fun i=>cmpI (fun a b=> decide (a < b)) s16 i fun j=>ifV j (z06_.j4 c0 c5 c6 c15 s16 h K1 Q) (z06_.j2 h Q)
def z06_.j1 (s0 s5 s6 s15 s16 : Value) (h : Heap) (Q : Value → Heap → Prop) : Prop := loopC (fun c s h K1=> z06_.l3.b (c.getD 0 undef) (c.getD 1 undef) (c.getD 2 undef) (c.getD 3 undef) (s.getD 0 undef) h K1 Q) [s0, s5, s6, s15] [s16] h
def z06_.sh (a0 a1 a2 a3 a4 a5 a6 : Value) (h : Heap) (Q : Value → Heap → Prop) : Prop := box 31 a2 h fun b h=>z0f_.call #[a0, a1, a6] h fun d h=>loadN 2 b h fun g=>z0z_.call #[a0, d, g, a3, a4] h fun i h=>extr 0 i fun j=>extr 1 i fun k=>notV k fun l=>ifV l (z1i_.call #[d] h fun m h=>notV m fun n=>ifV n (nilck d fun o=>fld 3 o fun p=>load1 p h fun q=>nilck q fun u=>load1 u h fun v=>idx 1 v j fun w=>loadN 2 b h fun x=>arith (· + ·) a4 (.int .i64 1) fun y=>z06_.call #[a0, w, x, a3, y, a5, a6] h fun z h=>notV z fun b0=>ifV b0 (Q (.bool false) h) (z06_.j1 a0 a5 a6 d j h Q)) (z06_.j1 a0 a5 a6 d j h Q)) (z06_.j1 a0 a5 a6 d j h Q)
theorem z06_.body (a0 a1 a2 a3 a4 a5 a6 : Value) (h : Heap) (Q : Value → Heap → Prop) (H : z06_.sh a0 a1 a2 a3 a4 a5 a6 h Q) : z06_.call #[a0, a1, a2, a3, a4, a5, a6] h Q := by
 refine callsH_of (args := [a0, a1, a2, a3, a4, a5, a6]) Tryz.func77 rfl rfl ?_; unfold z06_.sh at H; refine sR <| vl_n <| H_box H fun _ h H=> nS (.bool false) rfl<|vl_e <| sR <| nM a0 rfl<|nM a1 rfl<|nM a6 rfl<|vl_n <| H_call HB_85 H fun t21 h H=> nS t21 rfl<|vl_e <| sR <| nM a0 rfl<|nM t21 rfl ?_; refine nLN TN_31 H fun _ H=> nM a3 rfl<|nM a4 rfl<|vl_n <| H_call HB_86 H fun t28 h H=> nM t28 rfl<|nP R_ext H fun t29 H=> nP R_ext H fun t30 H=> nS t29 rfl<|nS t30 rfl<|vl_e ?_; refine WPc_seq (fun e h=> z06_.j1 (e 0) (e 5) (e 6) (e 15) (e 16) h Q) ?_ (fun e h H=> ?_)
 rotate_left
 · unfold z06_.j1 at H
   refine WPc_seq (fun e h=> z06_.j2 h Q) ?_ (fun e h H=> ?_)
   rotate_left
   · unfold z06_.j2 at H
     exact sR <| nS (.bool true) rfl<|vl_e <| WPc_ret <| resH_of rfl<|H
   refine WPc_block ?_; refine loop_at (fun e=> [e 16]) (fun e=> [e 0, e 5, e 6, e 15]) H rfl rfl ?_; intro K1 e1 h H hin1
   replace H : z06_.l3.b (e1 0) (e1 5) (e1 6) (e1 15) (e1 16) h K1 Q := H
   unfold z06_.l3.b at H; clear hin1; refine WPc_seq (fun e h=> z06_.j4 (e 0) (e 5) (e 6) (e 15) (e 16) h K1 Q ∧ [e1 0, e1 5, e1 6, e1 15] = [e 0, e 5, e 6, e 15]) ?_ (fun e h ⟨H, hq1⟩=> ?_)
   rotate_left
   · unfold z06_.j4 at H
     refine WPc_seq (fun e h=> z06_.j5 (e 0) (e 5) (e 6) (e 15) (e 16) h K1 Q ∧ [e1 0, e1 5, e1 6, e1 15] = [e 0, e 5, e 6, e 15]) ?_ (fun e h ⟨H, hq1⟩=> ?_)
     rotate_left
     · unfold z06_.j5 at H
       refine W_region (by kernel_rfl) <| nM (e 16) rfl<|nP R_add H fun t61 H=> nS t61 rfl<|vl_e ?_; exact ⟨H, hq1⟩
     refine WPc_block ?_; refine WPc_seq (fun e h=> z06_.j6 (e 0) (e 5) (e 6) (e 15) (e 16) h K1 Q ∧ [e1 0, e1 5, e1 6, e1 15] = [e 0, e 5, e 6, e 15]) ?_ (fun e h ⟨H, hq1⟩=> ?_)
     rotate_left
     · unfold z06_.j6 at H
       refine sR <| nM (e 15) rfl<|vl_n <| H_call HB_87 H fun _ h H=> nP R_not H fun _ H=> vl_e ?_; refine cI H (fun H=> ?_) fun H=> ?_
       · refine sR <| nM (e 0) rfl<|nM (e 15) rfl<|nT TF_149_3 T1_147 H fun _ _ _ H=> nP R_nil H fun _ H=> nL T1_146 H fun _ H=> nM (e 16) rfl<|nP R_add H fun _ H=> nP (R_idx TE_146) H fun _ H=> nM (e 5) rfl<|nM (e 6) rfl<|vl_n <| H_call HB_88 H fun _ h H=> ?_
         refine nP R_not H fun _ H=> vl_e ?_; refine cI H (fun H=> ?_) fun H=> ?_
         · exact sR <| nS (.bool false) rfl<|vl_e <| WPc_ret <| resH_of rfl<|H
         · refine WPc_skip ?_
           exact ⟨H, hq1⟩
       · refine WPc_skip ?_
         exact ⟨H, hq1⟩
     refine sR <| nM (e 5) rfl<|nM (e 15) rfl<|nT TF_149_2 T1_29 H fun _ _ _ H=> nM (e 16) rfl<|nP (R_idx TE_29) H fun _ H=> nLN TN_31 H fun _ H=> vl_n <| H_callV H fun _ h H=> nP R_not H fun _ H=> vl_e ?_; refine cI H (fun H=> ?_) fun H=> ?_
     · exact sR <| nS (.bool false) rfl<|vl_e <| WPc_ret <| resH_of rfl<|H
     · refine WPc_skip ?_
       exact ⟨H, hq1⟩
   refine sR <| nM (e1 16) rfl<|nM (e1 15) rfl<|nT TF_149_2 T1_29 H fun _ _ _ H=> nP (R_len Tryz.underlying29) H fun _ H=> nP R_lss H fun _ H=> vl_e ?_; refine cI H (fun H=> ?_) fun H=> ?_
   · refine WPc_skip ?_
     exact ⟨H, rfl⟩
   · refine WPc_exit ?_
     exact H
 refine sR <| nM t30 rfl<|nP R_not H fun _ H=> vl_e ?_; refine cI H (fun H=> ?_) fun H=> ?_
 · refine sR <| nM t21 rfl<|vl_n <| H_call HB_87 H fun _ h H=> nP R_not H fun _ H=> vl_e ?_
   refine cI H (fun H=> ?_) fun H=> ?_
   · refine WPc_seq' <| W_drawn [0,0,2,6,14,30,62,0,254,0,0,0,2048,0,0,32767,65535] (Tk 0<|Tk 1<|Tk 2<|Tk 3<|Tk 4<|Tk 5<|Tk 6<|Tk 7<|Tk 8<|Tk 9<|Tk 10<|Tk 11<|Tk 12<|Tk 13<|Tk 14<|Al 15<|Tk 16 .done) mixed (by kernel_rfl) <| pM a0 rfl rfl<|pM t21 rfl rfl<|pT rfl rfl rfl TF_149_3 T1_147 H fun _ _ _ _ _ H=> pP rfl R_nil H fun _ H=> pL rfl T1_146 H fun _ _ _ H=> pM t29 rfl rfl<|pP rfl (R_idx TE_146) H fun _ H=> tkL rfl<|R_loadN TN_31 H fun _ _ _ _ H _ _=> pM a3 rfl rfl<|pM a4 rfl rfl ?_
     refine pP rfl R_add H fun _ H=> pM a5 rfl rfl<|pM a6 rfl rfl<|aE rfl<|H_call HB_77 H fun _ h H=> ⟨(hskip rfl (hskip rfl (hskip rfl hnil))), pP rfl R_not H fun _ H=> vp_done ?_⟩
     refine cI H (fun H=> ?_) fun H=> ?_
     · exact sR <| nS (.bool false) rfl<|vl_e <| WPc_ret <| resH_of rfl<|H
     · exact WPc_skip <| H
   · exact WPc_skip <| H
 · exact WPc_skip <| H
def z0m_.j2 (s0 s2 s3 s4 s6 : Value) (h : Heap) (Q : Value → Heap → Prop) : Prop := nilck s0 fun b=>fld 2 b fun d=>loadN 2 s6 h fun g=>z06_.call #[s0, d, g, s4, (.int .i64 0), s2, s3] h fun i h=>Q (.tuple #[]) h
def z0m_.j1 (s0 s2 s3 s4 s6 : Value) (h : Heap) (Q : Value → Heap → Prop) : Prop := nilck s0 fun b=>fld 2 b fun d=>load1 d h fun g=>eqNilP g fun i=>ifV i (Q (.tuple #[]) h) (z0m_.j2 s0 s2 s3 s4 s6 h Q)
def z0m_.sh (a0 a1 a2 a3 a4 : Value) (h : Heap) (Q : Value → Heap → Prop) : Prop := box 31 a1 h fun b h=>z11_.call #[a0, a3] h fun d h=>ifV d (False) (z0m_.j1 a0 a2 a3 a4 b h Q)
theorem z0m_.body (a0 a1 a2 a3 a4 : Value) (h : Heap) (Q : Value → Heap → Prop) (H : z0m_.sh a0 a1 a2 a3 a4 h Q) : z0m_.call #[a0, a1, a2, a3, a4] h Q := by
 refine callsH_of (args := [a0, a1, a2, a3, a4]) Tryz.func56 rfl rfl ?_; unfold z0m_.sh at H; refine sR <| vl_n <| H_box H fun _ h H=> vl_e ?_; refine WPc_seq (fun e h=> z0m_.j1 (e 0) (e 2) (e 3) (e 4) (e 6) h Q) ?_ (fun e h H=> ?_)
 rotate_left
 · unfold z0m_.j1 at H
   refine WPc_seq (fun e h=> z0m_.j2 (e 0) (e 2) (e 3) (e 4) (e 6) h Q) ?_ (fun e h H=> ?_)
   rotate_left
   · unfold z0m_.j2 at H
     exact W_drawn [0,0,2,6,0,0,0,0,255] (Tk 0<|Tk 1<|Tk 2<|Tk 3<|Tk 4<|Tk 5<|Tk 6<|Tk 7<|Al 8 .done) mixed (by kernel_rfl) <| pM (e 0) rfl rfl<|pM (e 0) rfl rfl<|pB rfl rfl TF_128_2 H fun _ _ H=> tkL rfl<|R_loadN TN_31 H fun _ _ _ _ H _ _=> pM (e 4) rfl rfl<|pM (e 2) rfl rfl<|pM (e 3) rfl rfl<|aE rfl<|H_call HB_77 H fun _ h H=> ⟨(hskip rfl hnil), vp_done <| resH_of rfl<|H⟩
   refine sR <| nM (e 0) rfl<|nT TF_128_2 T1_126 H fun _ _ _ H=> nP (R_eqNilP Tryz.underlying126 rfl) H fun _ H=> vl_e ?_; refine cI H (fun H=> ?_) fun H=> ?_
   · exact WPc_ret <| resH_of rfl<|H
   · exact WPc_skip <| H
 refine sR <| nM a0 rfl<|nM a3 rfl<|vl_n <| H_call HB_75 H fun _ h H=> vl_e ?_; refine cI H (fun H=> ?_) fun H=> ?_
 · refine W_region (by kernel_rfl) <| nM a0 rfl<|nM a3 rfl ?_
   refine vl_n ?_; exact H.elim
 · exact WPc_skip <| H
def z0k_.sh (a0 a1 a2 : Value) (h : Heap) (Q : Value → Heap → Prop) : Prop := box 31 a1 h fun b h=>loadN 2 b h fun d=>z0m_.call #[a0, d, a2, (.bool false), (.pointer none)] h fun g h=>Q (.tuple #[]) h
theorem z0k_.body (a0 a1 a2 : Value) (h : Heap) (Q : Value → Heap → Prop) (H : z0k_.sh a0 a1 a2 h Q) : z0k_.call #[a0, a1, a2] h Q := by
 refine callsH_of (args := [a0, a1, a2]) Tryz.func32 rfl rfl ?_; unfold z0k_.sh at H; exact sR <| vl_n <| H_box H fun _ h H=> vl_e <| W_region (by kernel_rfl) <| nM a0 rfl<|nLN TN_31 H fun _ H=> nM a2 rfl<|vl_n <| H_call HB_56 H fun _ h H=> vl_e <| resH_of rfl<|H
def z1q_.sh (a0 a1 a2 a3 : Value) (h : Heap) (Q : Value → Heap → Prop) : Prop := box 27 a0 h fun b h=>box 31 a2 h fun d h=>alloc [(.slice none 0 0)] 29 h fun g h=>loadN 3 b h fun i=>loadN 2 d h fun j=>z2f_.call #[i, a1] h fun k h=>stillN 2 d j h ∧ z1w_.call #[g, a3] h fun l h=>stillN 2 d j h ∧ z0k_.call #[k, j, l] h fun m h=>load1 g h fun n=>Q n h
theorem z1q_.body (a0 a1 a2 a3 : Value) (h : Heap) (Q : Value → Heap → Prop) (H : z1q_.sh a0 a1 a2 a3 h Q) : z1q_.call #[a0, a1, a2, a3] h Q := by
 refine callsH_of (args := [a0, a1, a2, a3]) Tryz.func17 rfl rfl ?_; unfold z1q_.sh at H; refine sR <| vl_n <| H_box H fun _ h H=> vl_n <| H_box H fun _ h H=> nS (.slice none 0 0) rfl<|vl_e <| sR <| vl_n <| H_alloc TV_29 H fun _ h H=> vl_e <| WPc_seq' <| W_drawn [0,0,3,0,0,23,63] (Tk 0<|Tk 1<|Tk 3<|Tk 4<|Al 2<|Al 5<|Al 6 .done) mixed (by kernel_rfl) <| tkL rfl<|R_loadN TN_27 H fun _ _ _ _ H _ _=> pM a1 rfl rfl<|tkL rfl<|R_loadN TN_31 H fun _ _ hat13 _ H _ hSt13=> pM a3 rfl rfl ?_; exact aE rfl<|H_call HB_31 H fun _ h ⟨S, H⟩=> ⟨(hcons rfl (hSt13 _ (still_N S hat13 rfl)) (hskip rfl hnil)), aE rfl<|H_call HB_33 H fun _ h ⟨S_2, H⟩=> ⟨(hcons rfl (hSt13 _ (still_N S_2 hat13 rfl)) hnil), aE rfl<|H_call HB_32 H fun _ h H=> ⟨(hskip rfl hnil), vp_done <| sR <| nL T1_29 H fun t17 H=> nS t17 rfl<|vl_e <| WPc_ret <| resH_of rfl<|H⟩⟩⟩
def z2l_.j1 (s0 s1 s5 : Value) (h : Heap) (Q : Value → Heap → Prop) : Prop := remi s1 s5 fun b=>arith (· + ·) b s5 fun d=>remi d s5 fun g=>idx 1 s0 g fun i=>load1 i h fun j=>Q j h
def z2l_.sh (a0 a1 : Value) (h : Heap) (Q : Value → Heap → Prop) : Prop := lenV a0 fun b=>cmpI (fun a b=> a == b) b (.int .i64 0) fun d=>ifV d (Q a1 h) (z2l_.j1 a0 a1 b h Q)
theorem z2l_.body (a0 a1 : Value) (h : Heap) (Q : Value → Heap → Prop) (H : z2l_.sh a0 a1 h Q) : z2l_.call #[a0, a1] h Q := by
 refine callsH_of (args := [a0, a1]) Tryz.func58 rfl rfl ?_; unfold z2l_.sh at H; refine sR <| nS (.int .i64 0) rfl<|vl_e <| sR <| nM a0 rfl<|nP (R_len Tryz.underlying25) H fun t7 H=> nS t7 rfl<|vl_e ?_; refine WPc_seq (fun e h=> z2l_.j1 (e 0) (e 1) (e 5) h Q) ?_ (fun e h H=> ?_)
 rotate_left
 · unfold z2l_.j1 at H
   refine sR <| nM (e 0) rfl<|nM (e 1) rfl<|nM (e 5) rfl<|nP R_rem H fun _ H=> nM (e 5) rfl<|nP R_add H fun _ H=> nM (e 5) rfl<|nP R_rem H fun _ H=> nP (R_idx TE_25) H fun _ H=> nL T1_3 H fun t20 H=> nS t20 rfl<|vl_e <| WPc_ret ?_; exact resH_of rfl<|H
 refine sR <| nM t7 rfl<|nP R_eqI H fun _ H=> vl_e ?_; refine cI H (fun H=> ?_) fun H=> ?_
 · exact sR <| nM a1 rfl<|nS a1 rfl<|vl_e <| WPc_ret <| resH_of rfl<|H
 · exact WPc_skip <| H
def z26_.sh (a0 a1 a2 : Value) (h : Heap) (Q : Value → Heap → Prop) : Prop := box 31 a1 h fun b h=>box 31 a2 h fun d h=>fld 0 b fun g=>load1 g h fun i=>fld 0 d fun j=>load1 j h fun k=>z2l_.call #[a0, i] h fun l h=>still1 j k h ∧ z2l_.call #[a0, k] h fun m h=>cmpI (fun a b=> decide (a < b)) l m fun n=>Q n h
theorem z26_.body (a0 a1 a2 : Value) (h : Heap) (Q : Value → Heap → Prop) (H : z26_.sh a0 a1 a2 h Q) : z26_.call #[a0, a1, a2] h Q := by
 refine callsH_of (args := [a0, a1, a2]) Tryz.func34 rfl rfl ?_; unfold z26_.sh at H; refine sR <| vl_n <| H_box H fun _ h H=> vl_n <| H_box H fun _ h H=> nS (.bool false) rfl<|vl_e <| WPc_seq' <| W_drawn [0,0,2,7,0,0,32,127,255,511] (Tk 0<|Tk 1<|Tk 2<|Tk 4<|Tk 5<|Tk 6<|Al 3<|Al 7<|Tk 8<|Tk 9 .done) mixed (by kernel_rfl) <| pM a0 rfl rfl<|pP rfl (R_fld TF_31_0) H fun _ H=> pL rfl T1_3 H fun _ _ _ H=> pM a0 rfl rfl<|pP rfl (R_fld TF_31_0) H fun _ H=> pL rfl T1_3 H fun _ _ hat13 H=> aE rfl<|H_call HB_58 H fun _ h ⟨S, H⟩=> ⟨(hcons rfl (still_1 S hat13) (hskip rfl hnil)), ?_⟩
 exact aE rfl<|H_call HB_58 H fun _ h H=> ⟨(hskip rfl hnil), pP rfl R_lss H fun t15 H=> pS t15 rfl rfl<|vp_done <| WPc_ret <| resH_of rfl<|H⟩
def z1z_.j1 (h : Heap) (Q : Value → Heap → Prop) : Prop := Q (.bool true) h
def z1z_.j4 (s0 s1 s5 : Value) (h : Heap) (K1 : List Value → Heap → Prop) (Q : Value → Heap → Prop) : Prop := arith (· + ·) s5 (.int .i64 1) fun b=>K1 [b] h
def z1z_.j3 (s0 s1 s5 : Value) (h : Heap) (K1 : List Value → Heap → Prop) (Q : Value → Heap → Prop) : Prop := idx 2 s1 s5 fun b=>loadN 2 b h fun d=>arith (· - ·) s5 (.int .i64 1) fun g=>idx 2 s1 g fun i=>loadN 2 i h fun j=>z26_.call #[s0, d, j] h fun k h=>ifV k (Q (.bool false) h) (z1z_.j4 s0 s1 s5 h K1 Q)
def z1z_.l2.b (c0 c1 s5 : Value) (h : Heap) (K1 : List Value → Heap → Prop) (Q : Value → Heap → Prop) : Prop := lenV c1 fun b=>cmpI (fun a b=> decide (a < b)) s5 b fun d=>ifV d (z1z_.j3 c0 c1 s5 h K1 Q) (z1z_.j1 h Q)
def z1z_.sh (a0 a1 : Value) (h : Heap) (Q : Value → Heap → Prop) : Prop := loopC (fun c s h K1=> z1z_.l2.b (c.getD 0 undef) (c.getD 1 undef) (s.getD 0 undef) h K1 Q) [a0, a1] [(.int .i64 1)] h
theorem z1z_.body (a0 a1 : Value) (h : Heap) (Q : Value → Heap → Prop) (H : z1z_.sh a0 a1 h Q) : z1z_.call #[a0, a1] h Q := by
 refine callsH_of (args := [a0, a1]) Tryz.func18 rfl rfl ?_; unfold z1z_.sh at H; refine sR <| nS (.bool false) rfl<|vl_e ?_; refine WPc_seq (fun e h=> z1z_.j1 h Q) ?_ (fun e h H=> ?_)
 rotate_left
 · unfold z1z_.j1 at H
   exact sR <| nS (.bool true) rfl<|vl_e <| WPc_ret <| resH_of rfl<|H
 refine sR <| nS (.int .i64 1) rfl<|vl_e <| WPc_block ?_; refine loop_at (fun e=> [e 5]) (fun e=> [e 0, e 1]) H rfl rfl ?_; intro K1 e1 h H hin1
 replace H : z1z_.l2.b (e1 0) (e1 1) (e1 5) h K1 Q := H
 unfold z1z_.l2.b at H; clear hin1; refine WPc_seq (fun e h=> z1z_.j3 (e 0) (e 1) (e 5) h K1 Q ∧ [e1 0, e1 1] = [e 0, e 1]) ?_ (fun e h ⟨H, hq1⟩=> ?_)
 rotate_left
 · unfold z1z_.j3 at H
   refine WPc_seq (fun e h=> z1z_.j4 (e 0) (e 1) (e 5) h K1 Q ∧ [e1 0, e1 1] = [e 0, e 1]) ?_ (fun e h ⟨H, hq1⟩=> ?_)
   rotate_left
   · unfold z1z_.j4 at H
     refine W_region (by kernel_rfl) <| nM (e 5) rfl<|nP R_add H fun t11 H=> nS t11 rfl<|vl_e ?_; exact ⟨H, hq1⟩
   refine WPc_block <| WPc_seq' <| W_drawn [0,0,0,6,14,0,0,64,224,480,1023] (Tk 0<|Tk 1<|Tk 2<|Tk 3<|Tk 4<|Tk 5<|Tk 6<|Tk 7<|Tk 8<|Tk 9<|Al 10 .done) mixed (by kernel_rfl) <| pM (e 0) rfl rfl<|pM (e 1) rfl rfl<|pM (e 5) rfl rfl<|pP rfl (R_idx TE_29) H fun _ H=> tkL rfl<|R_loadN TN_31 H fun _ _ _ _ H _ _=> pM (e 1) rfl rfl<|pM (e 5) rfl rfl<|pP rfl R_sub H fun _ H=> pP rfl (R_idx TE_29) H fun _ H=> tkL rfl<|R_loadN TN_31 H fun _ _ _ _ H _ _=> aE rfl<|H_call HB_34 H fun _ h H=> ⟨(hskip rfl (hskip rfl hnil)), ?_⟩
   refine vp_done ?_; refine cI H (fun H=> ?_) fun H=> ?_
   · exact sR <| nS (.bool false) rfl<|vl_e <| WPc_ret <| resH_of rfl<|H
   · refine WPc_skip ?_
     exact ⟨H, hq1⟩
 refine sR <| nM (e1 5) rfl<|nM (e1 1) rfl<|nP (R_len Tryz.underlying29) H fun _ H=> nP R_lss H fun _ H=> vl_e ?_; refine cI H (fun H=> ?_) fun H=> ?_
 · refine WPc_skip ?_
   exact ⟨H, rfl⟩
 · refine WPc_exit ?_
   exact H
def z20_.sh (a0 a1 : Value) (h : Heap) (Q : Value → Heap → Prop) : Prop := box 27 a0 h fun b h=>loadN 3 b h fun d=>z2f_.call #[d, a1] h fun g h=>z0r_.call #[g] h fun i h=>Q i h
theorem z20_.body (a0 a1 : Value) (h : Heap) (Q : Value → Heap → Prop) (H : z20_.sh a0 a1 h Q) : z20_.call #[a0, a1] h Q := by
 refine callsH_of (args := [a0, a1]) Tryz.func35 rfl rfl ?_; unfold z20_.sh at H; exact sR <| vl_n <| H_box H fun _ h H=> nS (.slice none 0 0) rfl<|vl_e <| sR <| nLN TN_27 H fun _ H=> nM a1 rfl<|vl_n <| H_call HB_31 H fun _ h H=> vl_n <| H_call HB_42 H fun t8 h H=> nS t8 rfl<|vl_e <| WPc_ret <| resH_of rfl<|H
def z24_.sh (h : Heap) (Q : Value → Heap → Prop) : Prop := alloc [(.slice none 0 0), (.int .i64 0), (.bool false)] 27 h fun b h=>buildV [(.slice none 0 0), (.int .i64 0), (.bool false)] [(1, 1, (.int .i64 2))] fun d=>storeN 3 b d h fun h=>loadN 3 b h fun g=>Q g h
theorem z24_.body (h : Heap) (Q : Value → Heap → Prop) (H : z24_.sh h Q) : z24_.call #[] h Q := by
 refine callsH_of (args := []) Tryz.func36 rfl rfl ?_; unfold z24_.sh at H; exact sR <| vl_n <| H_alloc TV_27 H fun _ h H=> vl_e <| sR <| nP (R_build TB_27 rfl (by decide)) H fun _ H=> vl_n <| H_storeN TS_27 H fun h H=> vl_e <| WPc_ret <| resH_of rfl<|resL_N TN_27 <| loadN_imp H fun r0 H=> H
def z2b_.sh (h : Heap) (Q : Value → Heap → Prop) : Prop := z24_.call #[] h fun b h=>z1x_.call #[] h fun d h=>slc 2 d none (some (.int .i64 3)) none fun g=>z20_.call #[b, g] h fun i h=>lenV i fun j=>cmpI (fun a b=> a == b) j (.int .i64 3) fun k=>Q k h
theorem z2b_.body (h : Heap) (Q : Value → Heap → Prop) (H : z2b_.sh h Q) : z2b_.call #[] h Q := by
 refine callsH_of (args := []) Tryz.func19 rfl rfl ?_; unfold z2b_.sh at H; exact sR <| nS (.bool false) rfl<|vl_e <| sR <| vl_n <| H_call HB_36 H fun _ h H=> vl_n <| H_call HB_22 H fun _ h H=> nP (R_slice TE_29 (by decide)) H fun _ H=> vl_n <| H_call HB_35 H fun _ h H=> nP (R_len Tryz.underlying29) H fun _ H=> nP R_eqI H fun t6 H=> nS t6 rfl<|vl_e <| WPc_ret <| resH_of rfl<|H
def z1h_.j5 (s2 s3 s10 s17 : Value) (h : Heap) (Q : Value → Heap → Prop) : Prop := cvI .i64 s2 fun b=>cvI .i64 s3 fun d=>z1o_.call #[s10, b, d] h fun g h=>z16_.call #[s17, g] h fun i h=>br i true (z1z_.call #[(.slice none 0 0), s10] h fun j h=>br j true (z2b_.call #[] h fun k h=>br k true (z22_.call #[] h fun l h=>Q l h) (Q (.bool false) h)) (Q (.bool false) h)) (Q (.bool false) h)
def z1h_.j8 (s2 s3 s10 s17 s116 s117 s118 : Value) (h : Heap) (K1 : List Value → Heap → Prop) (Q : Value → Heap → Prop) : Prop := arith (· + ·) s118 (.int .i64 1) fun b=>K1 [s17, b] h
def z1h_.j7 (s2 s3 s10 s17 s116 s117 s118 : Value) (h : Heap) (K1 : List Value → Heap → Prop) (Q : Value → Heap → Prop) : Prop := idx 2 s116 s118 fun b=>loadN 2 b h fun d=>alloc [(.int .i64 0), (.int .i64 0)] 31 h fun g h=>storeN 2 g d h fun h=>fld 0 g fun i=>load1 i h fun j=>shrV j (.int .u64 6) fun k=>cvI .i64 s3 fun l=>cmpI (fun a b=> decide (a ≤ b)) k l fun m=>ifV m (fld 0 g fun n=>load1 n h fun o=>mkSl (if 1 * 1 = 0 then [] else zeros [(.int .i64 0)] 1) 1 [(0 * 1, 1, o)] 3 h fun p h=>app 3 1 8 [(.int .i64 0)] s17 p h fun q h=>z1h_.j8 s2 s3 s10 q s116 s117 s118 h K1 Q) (z1h_.j8 s2 s3 s10 s17 s116 s117 s118 h K1 Q)
def z1h_.l6.b (c2 c3 c10 c116 c117 s17 s118 : Value) (h : Heap) (K1 : List Value → Heap → Prop) (Q : Value → Heap → Prop) : Prop := cmpI (fun a b=> decide (a < b)) s118 c117 fun b=>ifV b (z1h_.j7 c2 c3 c10 s17 c116 c117 s118 h K1 Q) (z1h_.j5 c2 c3 c10 s17 h Q)
def z1h_.j4 (s2 s3 s9 s10 s11 : Value) (h : Heap) (Q : Value → Heap → Prop) : Prop := loadN 3 s9 h fun b=>cvI .i64 s2 fun d=>shlV d (.int .u64 6) fun g=>buildV [(.int .i64 0), (.int .i64 0)] [(0, 1, g)] fun i=>z1q_.call #[b, s11, i, (.int .i64 0)] h fun j h=>lenV j fun k=>loopC (fun c s h K1=> z1h_.l6.b (c.getD 0 undef) (c.getD 1 undef) (c.getD 2 undef) (c.getD 3 undef) (c.getD 4 undef) (s.getD 0 undef) (s.getD 1 undef) h K1 Q) [s2, s3, s10, j, k] [(.slice none 0 0), (.int .i64 0)] h
def z1h_.j3 (s2 s3 s9 s10 s11 : Value) (h : Heap) (Q : Value → Heap → Prop) : Prop := z2k_.call #[s11] h fun b h=>z1o_.call #[s10, (.int .i64 0), (.int .i64 255)] h fun d h=>z16_.call #[b, d] h fun g h=>notV g fun i=>ifV i (Q (.bool false) h) (z1h_.j4 s2 s3 s9 s10 s11 h Q)
def z1h_.j11 (s0 s2 s3 s9 s10 s11 s34 s35 s36 : Value) (h : Heap) (K1 : List Value → Heap → Prop) (Q : Value → Heap → Prop) : Prop := arith (· + ·) s36 (.int .i64 1) fun b=>K1 [s10, s11, b] h
def z1h_.j13 (s0 s2 s3 s9 s10 s11 s14 s15 s34 s35 s36 : Value) (h : Heap) (K1 : List Value → Heap → Prop) (Q : Value → Heap → Prop) : Prop := z0b_.call #[s10] h fun b h=>buildV [(.int .i64 0), (.int .i64 0)] [(0, 1, s14), (1, 1, s15)] fun d=>mkSl (if 1 * 2 = 0 then [] else zeros [(.int .i64 0), (.int .i64 0)] 1) 1 [(0 * 2, 2, d)] 31 h fun g h=>app 31 2 16 [(.int .i64 0), (.int .i64 0)] b g h fun i h=>z2e_.call #[s0, i] h fun j h=>extr 0 j fun k=>extr 1 j fun l=>loadN 3 s9 h fun m=>shlV s15 (.int .u64 6) fun n=>arith (· + ·) n s14 fun o=>buildV [(.int .i64 0), (.int .i64 0)] [(0, 1, o)] fun p=>z2i_.call #[m, s11, p] h fun q h=>z1h_.j11 s0 s2 s3 s9 l q s34 s35 s36 h K1 Q
def z1h_.j12 (s0 s2 s3 s9 s10 s11 s13 s14 s15 s34 s35 s36 : Value) (h : Heap) (K1 : List Value → Heap → Prop) (Q : Value → Heap → Prop) : Prop := fld 0 s13 fun b=>load1 b h fun d=>ifV d (mkSl (if 1 * 1 = 0 then [] else zeros [(.int .i64 0)] 1) 1 [(0 * 1, 1, s14)] 3 h fun g h=>z1s_.call #[s0, s10, g] h fun i h=>extr 0 i fun j=>extr 1 i fun k=>z1h_.j11 s0 s2 s3 s9 k s11 s34 s35 s36 h K1 Q) (z1h_.j13 s0 s2 s3 s9 s10 s11 s14 s15 s34 s35 s36 h K1 Q)
def z1h_.j10 (s0 s2 s3 s9 s10 s11 s34 s35 s36 : Value) (h : Heap) (K1 : List Value → Heap → Prop) (Q : Value → Heap → Prop) : Prop := idx 3 s34 s36 fun b=>loadN 3 b h fun d=>alloc [(.bool false), (.int .i64 0), (.int .i64 0)] 33 h fun g h=>storeN 3 g d h fun h=>fld 1 g fun i=>fld 0 i fun j=>load1 j h fun k=>fld 1 g fun l=>fld 1 l fun m=>load1 m h fun n=>z27_.call #[k, (.int .i64 64)] h fun o h=>still1 m n h ∧ z27_.call #[n, (.int .i64 256)] h fun p h=>mkSl (if 1 * 1 = 0 then [] else zeros [(.int .i64 0)] 1) 1 [(0 * 1, 1, o)] 3 h fun q h=>z2d_.call #[s0, s10, q] h fun u h=>lenV u fun v=>cmpI (fun a b=> a == b) v (.int .i64 1) fun w=>br w true (idx 3 u (.int .i64 0) fun x=>fld 2 x fun y=>load1 y h fun z=>ifV z (loadN 3 s9 h fun b0=>idx 3 u (.int .i64 0) fun b1=>fld 0 b1 fun b2=>fld 1 b2 fun b3=>load1 b3 h fun b4=>shlV b4 (.int .u64 6) fun b5=>arith (· + ·) b5 o fun b6=>z1y_.call #[b0, s11, b6] h fun b7 h=>z1h_.j12 s0 s2 s3 s9 s10 b7 g o p s34 s35 s36 h K1 Q) (z1h_.j12 s0 s2 s3 s9 s10 s11 g o p s34 s35 s36 h K1 Q)) (z1h_.j12 s0 s2 s3 s9 s10 s11 g o p s34 s35 s36 h K1 Q)
def z1h_.l9.b (c0 c2 c3 c9 c34 c35 s10 s11 s36 : Value) (h : Heap) (K1 : List Value → Heap → Prop) (Q : Value → Heap → Prop) : Prop := cmpI (fun a b=> decide (a < b)) s36 c35 fun b=>ifV b (z1h_.j10 c0 c2 c3 c9 s10 s11 c34 c35 s36 h K1 Q) (z1h_.j3 c2 c3 c9 s10 s11 h Q)
def z1h_.j2 (s0 s1 s2 s3 : Value) (h : Heap) (Q : Value → Heap → Prop) : Prop := z23_.call #[s0] h fun b h=>alloc [(.slice none 0 0), (.int .i64 0), (.bool false)] 27 h fun d h=>storeN 3 d b h fun h=>lenV s1 fun g=>loopC (fun c s h K1=> z1h_.l9.b (c.getD 0 undef) (c.getD 1 undef) (c.getD 2 undef) (c.getD 3 undef) (c.getD 4 undef) (c.getD 5 undef) (s.getD 0 undef) (s.getD 1 undef) (s.getD 2 undef) h K1 Q) [s0, s2, s3, d, s1, g] [(.slice none 0 0), (.slice none 0 0), (.int .i64 0)] h
def z1h_.j1 (s0 s1 s2 s3 : Value) (h : Heap) (Q : Value → Heap → Prop) : Prop := z2m_.call #[s0] h fun b h=>notV b fun d=>br d false (lenV s1 fun g=>cmpI (fun a b=> decide (a > b)) g (.int .i64 40) fun i=>ifV i (z22_.call #[] h fun j h=>Q j h) (z1h_.j2 s0 s1 s2 s3 h Q)) (z22_.call #[] h fun k h=>Q k h)
def z1h_.sh (a0 a1 a2 a3 : Value) (h : Heap) (Q : Value → Heap → Prop) : Prop := lenV a1 fun b=>cmpI (fun a b=> decide (a > b)) b (.int .i64 2147483647) fun d=>ifV d (Q (.bool true) h) (z1h_.j1 a0 a1 a2 a3 h Q)
theorem z1h_.body (a0 a1 a2 a3 : Value) (h : Heap) (Q : Value → Heap → Prop) (H : z1h_.sh a0 a1 a2 a3 h Q) : z1h_.call #[a0, a1, a2, a3] h Q := by
 refine callsH_of (args := [a0, a1, a2, a3]) Tryz.func3 rfl rfl ?_; unfold z1h_.sh at H; refine sR <| nS (.bool false) rfl<|vl_e ?_; refine WPc_seq (fun e h=> z1h_.j1 (e 0) (e 1) (e 2) (e 3) h Q) ?_ (fun e h H=> ?_)
 rotate_left
 · unfold z1h_.j1 at H
   refine WPc_seq (fun e h=> z1h_.j2 (e 0) (e 1) (e 2) (e 3) h Q) ?_ (fun e h H=> ?_)
   rotate_left
   · unfold z1h_.j2 at H
     refine sR <| nM (e 0) rfl<|vl_n <| H_call HB_6 H fun _ h H=> vl_n <| H_alloc TV_27 H fun _ h H=> vl_n <| H_storeN TS_27 H fun h H=> vl_e <| sR <| nS (.slice none 0 0) rfl<|nS (.slice none 0 0) rfl<|vl_e ?_; refine WPc_seq (fun e h=> z1h_.j3 (e 2) (e 3) (e 9) (e 10) (e 11) h Q) ?_ (fun e h H=> ?_)
     rotate_left
     · unfold z1h_.j3 at H
       refine WPc_seq (fun e h=> z1h_.j4 (e 2) (e 3) (e 9) (e 10) (e 11) h Q) ?_ (fun e h H=> ?_)
       rotate_left
       · unfold z1h_.j4 at H
         refine sR <| nS (.slice none 0 0) rfl<|vl_e ?_; refine WPc_seq (fun e h=> z1h_.j5 (e 2) (e 3) (e 10) (e 17) h Q) ?_ (fun e h H=> ?_)
         rotate_left
         · unfold z1h_.j5 at H
           refine sR <| nM (e 17) rfl<|nM (e 10) rfl<|nM (e 2) rfl<|nP (R_cvI Tryz.underlying5 Tryz.underlying3) H fun _ H=> nM (e 3) rfl<|nP (R_cvI Tryz.underlying5 Tryz.underlying3) H fun _ H=> vl_n <| H_call HB_16 H fun _ h H=> vl_n <| H_call HB_14 H fun t141 h H=> nM t141 rfl ?_; obtain ⟨b, hb, H1, H2⟩ := H
           cases b
           · have H := H2 rfl
             clear H1 H2; refine vl_s rfl (nbT hb) ?_; refine vl_s rfl (nbT hb) ?_; refine nA (R_pickC (v := (.bool false)) false hb rfl) <| nM (.bool false) rfl ?_; refine vl_s rfl (nbT rfl) ?_; refine nA (R_pickC (v := (.bool false)) false rfl rfl) <| nM (.bool false) rfl ?_; refine vl_s rfl (nbT rfl) ?_; exact nA (R_pickC (v := (.bool false)) false rfl rfl) <| nS (.bool false) rfl<|vl_e <| WPc_ret <| resH_of rfl<|H
           · have H := H1 rfl
             clear H1 H2; refine vl_y rfl hb ?_; refine H_of_R (R_move (v := (e 10)) rfl ?_)
             refine vl_y rfl hb ?_; refine H_call HB_18 H fun t144 h H=> ?_; refine nA (R_pickC (v := t144) true hb rfl) <| nM t144 rfl ?_; obtain ⟨b_2, hb_2, H1, H2⟩ := H
             cases b_2
             · have H := H2 rfl
               clear H1 H2; refine vl_s rfl (nbT hb_2) ?_; refine nA (R_pickC (v := (.bool false)) false hb_2 rfl) <| nM (.bool false) rfl ?_; refine vl_s rfl (nbT rfl) ?_; exact nA (R_pickC (v := (.bool false)) false rfl rfl) <| nS (.bool false) rfl<|vl_e <| WPc_ret <| resH_of rfl<|H
             · have H := H1 rfl
               clear H1 H2; refine vl_y rfl hb_2 ?_; refine H_call HB_19 H fun t147 h H=> ?_; refine nA (R_pickC (v := t147) true hb_2 rfl) <| nM t147 rfl ?_; obtain ⟨b_3, hb_3, H1, H2⟩ := H
               cases b_3
               · have H := H2 rfl
                 clear H1 H2; refine vl_s rfl (nbT hb_3) ?_; exact nA (R_pickC (v := (.bool false)) false hb_3 rfl) <| nS (.bool false) rfl<|vl_e <| WPc_ret <| resH_of rfl<|H
               · have H := H1 rfl
                 clear H1 H2; refine vl_y rfl hb_3 ?_; refine H_call HB_5 H fun t150 h H=> ?_; exact nA (R_pickC (v := t150) true hb_3 rfl) <| nS t150 rfl<|vl_e <| WPc_ret <| resH_of rfl<|H
         refine sR <| nLN TN_27 H fun _ H=> nM (e 11) rfl<|nM (e 2) rfl<|nP (R_cvI Tryz.underlying5 Tryz.underlying3) H fun _ H=> nP R_shl H fun _ H=> nP (R_build TB_31 rfl (by decide)) H fun _ H=> vl_n <| H_call HB_17 H fun _ h H=> nP (R_len Tryz.underlying29) H fun _ H=> nM (.int .i64 0) rfl<|vl_e <| WPc_block ?_; refine loop_at (fun e=> [e 17, e 118]) (fun e=> [e 2, e 3, e 10, e 116, e 117]) H rfl rfl ?_; intro K1 e1 h H hin1
         replace H : z1h_.l6.b (e1 2) (e1 3) (e1 10) (e1 116) (e1 117) (e1 17) (e1 118) h K1 Q := H
         unfold z1h_.l6.b at H; clear hin1; refine sR <| nP R_lss H fun _ H=> vl_e ?_; refine WPc_seq (fun e h=> z1h_.j7 (e 2) (e 3) (e 10) (e 17) (e 116) (e 117) (e 118) h K1 Q ∧ [e1 2, e1 3, e1 10, e1 116, e1 117] = [e 2, e 3, e 10, e 116, e 117]) ?_ (fun e h ⟨H, hq1⟩=> ?_)
         rotate_left
         · unfold z1h_.j7 at H
           refine WPc_seq (fun e h=> z1h_.j8 (e 2) (e 3) (e 10) (e 17) (e 116) (e 117) (e 118) h K1 Q ∧ [e1 2, e1 3, e1 10, e1 116, e1 117] = [e 2, e 3, e 10, e 116, e 117]) ?_ (fun e h ⟨H, hq1⟩=> ?_)
           rotate_left
           · unfold z1h_.j8 at H
             refine W_region (by kernel_rfl) <| nP R_add H fun t133 H=> nM t133 rfl<|vl_e ?_; exact ⟨H, hq1⟩
           refine WPc_block <| sR <| nP (R_idx TE_29) H fun _ H=> nLN TN_31 H fun _ H=> vl_n <| H_alloc TV_31 H fun _ h H=> vl_n <| H_storeN TS_31 H fun h H=> vl_e <| sR <| nP (R_fld TF_31_0) H fun _ H=> nL T1_3 H fun _ H=> nP R_shr H fun _ H=> nM (e 3) rfl<|nP (R_cvI Tryz.underlying5 Tryz.underlying3) H fun _ H=> nP R_leq H fun _ H=> ?_; refine vl_e ?_; refine cI H (fun H=> ?_) fun H=> ?_
           · refine W_region (by kernel_rfl) <| nM (e 17) rfl<|nP (R_fld TF_31_0) H fun _ H=> nL T1_3 H fun _ H=> vl_n <| H_mkSl TZ_25 (by decide) rfl H rfl fun _ h H=> vl_n <| H_app TZ_25 TU_25 H fun t132 h H=> nS t132 rfl<|vl_e ?_
             exact ⟨H, hq1⟩
           · refine WPc_skip ?_
             exact ⟨H, hq1⟩
         refine cI H (fun H=> ?_) fun H=> ?_
         · refine WPc_skip ?_
           exact ⟨H, rfl⟩
         · refine WPc_exit ?_
           exact H
       refine sR <| nM (e 11) rfl<|vl_n <| H_call HB_15 H fun _ h H=> nM (e 10) rfl<|vl_n <| H_call HB_16 H fun _ h H=> vl_n <| H_call HB_14 H fun _ h H=> nP R_not H fun _ H=> vl_e ?_; refine cI H (fun H=> ?_) fun H=> ?_
       · exact sR <| nS (.bool false) rfl<|vl_e <| WPc_ret <| resH_of rfl<|H
       · exact WPc_skip <| H
     refine sR <| nM (e 1) rfl<|nP (R_len Tryz.underlying22) H fun _ H=> nM (.int .i64 0) rfl<|vl_e <| WPc_block ?_; refine loop_at (fun e=> [e 10, e 11, e 36]) (fun e=> [e 0, e 2, e 3, e 9, e 34, e 35]) H rfl rfl ?_; intro K1 e1 h H hin1
     replace H : z1h_.l9.b (e1 0) (e1 2) (e1 3) (e1 9) (e1 34) (e1 35) (e1 10) (e1 11) (e1 36) h K1 Q := H
     unfold z1h_.l9.b at H; clear hin1; refine sR <| nP R_lss H fun _ H=> vl_e ?_; refine WPc_seq (fun e h=> z1h_.j10 (e 0) (e 2) (e 3) (e 9) (e 10) (e 11) (e 34) (e 35) (e 36) h K1 Q ∧ [e1 0, e1 2, e1 3, e1 9, e1 34, e1 35] = [e 0, e 2, e 3, e 9, e 34, e 35]) ?_ (fun e h ⟨H, hq1⟩=> ?_)
     rotate_left
     · unfold z1h_.j10 at H
       refine WPc_seq (fun e h=> z1h_.j11 (e 0) (e 2) (e 3) (e 9) (e 10) (e 11) (e 34) (e 35) (e 36) h K1 Q ∧ [e1 0, e1 2, e1 3, e1 9, e1 34, e1 35] = [e 0, e 2, e 3, e 9, e 34, e 35]) ?_ (fun e h ⟨H, hq1⟩=> ?_)
       rotate_left
       · unfold z1h_.j11 at H
         refine W_region (by kernel_rfl) <| nP R_add H fun t103 H=> nM t103 rfl<|vl_e ?_; exact ⟨H, hq1⟩
       refine WPc_block <| sR <| nP (R_idx TE_22) H fun _ H=> nLN TN_33 H fun _ H=> vl_n <| H_alloc TV_33 H fun _ h H=> vl_n <| H_storeN TS_33 H fun h H=> vl_e <| WPc_seq' <| W_drawn [0,1,3,7,0,16,48,127,255,511] (Tk 0<|Tk 1<|Tk 2<|Tk 4<|Tk 5<|Tk 6<|Al 3<|Al 7<|Tk 8<|Tk 9 .done) mixed (by kernel_rfl) <| pP rfl (R_fld TF_33_1) H fun _ H=> pP rfl (R_fld TF_31_0) H fun _ H=> pL rfl T1_3 H fun _ _ _ H=> pP rfl (R_fld TF_33_1) H fun _ H=> pP rfl (R_fld TF_31_1) H fun _ H=> ?_; refine pL rfl T1_3 H fun _ _ hat46 H=> aE rfl<|H_call HB_7 H fun t43 h ⟨S, H⟩=> ⟨(hcons rfl (still_1 S hat46) (hskip rfl hnil)), aE rfl<|H_call HB_7 H fun t47 h H=> ⟨(hskip rfl hnil), pS t43 rfl rfl<|pS t47 rfl rfl<|vp_done ?_⟩⟩
       refine WPc_seq (fun e h=> z1h_.j12 (e 0) (e 2) (e 3) (e 9) (e 10) (e 11) (e 13) (e 14) (e 15) (e 34) (e 35) (e 36) h K1 Q ∧ [e1 0, e1 2, e1 3, e1 9, e1 34, e1 35] = [e 0, e 2, e 3, e 9, e 34, e 35]) ?_ (fun e h ⟨H, hq1⟩=> ?_)
       rotate_left
       · unfold z1h_.j12 at H
         refine WPc_seq (fun e h=> z1h_.j13 (e 0) (e 2) (e 3) (e 9) (e 10) (e 11) (e 14) (e 15) (e 34) (e 35) (e 36) h K1 Q ∧ [e1 0, e1 2, e1 3, e1 9, e1 34, e1 35] = [e 0, e 2, e 3, e 9, e 34, e 35]) ?_ (fun e h ⟨H, hq1⟩=> ?_)
         rotate_left
         · unfold z1h_.j13 at H
           refine sR <| nM (e 0) rfl<|nM (e 10) rfl<|vl_n <| H_call HB_12 H fun _ h H=> nM (e 14) rfl<|nM (e 15) rfl<|nP (R_build TB_31 rfl (by decide)) H fun _ H=> vl_n <| H_mkSl TZ_29 (by decide) rfl H rfl fun _ h H=> vl_n <| H_app TZ_29 TU_29 H fun _ h H=> vl_n <| H_call HB_11 H fun t92 h H=> nM t92 rfl<|nP R_ext H fun _ H=> nP R_ext H fun t94 H=> nS t94 rfl ?_; refine vl_e <| W_region (by kernel_rfl) <| nLN TN_27 H fun _ H=> nM (e 11) rfl<|nM (e 15) rfl<|nP R_shl H fun _ H=> nM (e 14) rfl<|nP R_add H fun _ H=> nP (R_build TB_31 rfl (by decide)) H fun _ H=> vl_n <| H_call HB_13 H fun t102 h H=> nS t102 rfl<|vl_e ?_; exact ⟨H, hq1⟩
         refine sR <| nP (R_fld TF_33_0) H fun _ H=> nL T1_4 H fun _ H=> vl_e ?_; refine cI H (fun H=> ?_) fun H=> ?_
         · refine sR <| nM (e 0) rfl<|nM (e 10) rfl<|nM (e 14) rfl<|vl_n <| H_mkSl TZ_25 (by decide) rfl H rfl fun _ h H=> vl_n <| H_call HB_10 H fun t80 h H=> nM t80 rfl<|nP R_ext H fun _ H=> nP R_ext H fun t82 H=> nS t82 rfl<|vl_e ?_
           refine WPc_exit ?_; exact ⟨H, hq1⟩
         · refine WPc_skip ?_
           exact ⟨H, hq1⟩
       refine sR <| nM (e 0) rfl<|nM (e 10) rfl<|nM t43 rfl<|vl_n <| H_mkSl TZ_25 (by decide) rfl H rfl fun _ h H=> vl_n <| H_call HB_8 H fun t52 h H=> nS t52 rfl<|vl_e <| sR <| nM t52 rfl<|nP (R_len Tryz.underlying35) H fun _ H=> nP R_eqI H fun t55 H=> nM t55 rfl ?_; obtain ⟨b, hb, H1, H2⟩ := H
       cases b
       · have H := H2 rfl
         clear H1 H2; refine vl_s rfl (nbT hb) ?_; refine vl_s rfl (nbT hb) ?_; refine vl_s rfl (nbT hb) ?_; refine vl_s rfl (nbT hb) ?_; refine nA (R_pickC (v := (.bool false)) false hb rfl) <| vl_e ?_; refine WPc_cond (t := false) rfl (fun hh=> by cases hh) (fun _=> ?_)
         refine WPc_skip ?_; exact ⟨H, hq1⟩
       · have H := H1 rfl
         clear H1 H2; refine vl_y rfl hb ?_; refine H_of_R (R_move (v := t52) rfl ?_)
         refine vl_y rfl hb ?_; refine H_of_R (R_idx TE_35 H fun _ H=> ?_)
         refine vl_y rfl hb ?_; refine H_of_R (R_fld TF_38_1 H fun _ H=> ?_)
         refine vl_y rfl hb ?_; refine H_of_R (R_load1 T1_4 H fun _ t60 _ _ H=> ?_)
         refine nA (R_pickC (v := t60) true hb rfl) <| vl_e ?_; refine cI H (fun H=> ?_) fun H=> ?_
         · refine W_drawn [0,0,0,4,12,28,60,124,0,508,1023,2047] (Tk 0<|Tk 1<|Tk 2<|Tk 3<|Tk 4<|Tk 5<|Tk 6<|Tk 7<|Tk 8<|Tk 9<|Al 10<|Tk 11 .done) mixed (by kernel_rfl) <| tkL rfl<|R_loadN TN_27 H fun _ _ _ _ H _ _=> pM (e 11) rfl rfl<|pM t52 rfl rfl<|pP rfl (R_idx TE_35) H fun _ H=> pP rfl (R_fld TF_38_0) H fun _ H=> pP rfl (R_fld TF_31_1) H fun _ H=> pL rfl T1_3 H fun _ _ _ H=> pP rfl R_shl H fun _ H=> pM t43 rfl rfl<|pP rfl R_add H fun _ H=> aE rfl<|H_call HB_9 H fun t72 h H=> ⟨(hskip rfl (hskip rfl hnil)), pS t72 rfl rfl<|vp_done ?_⟩
           exact ⟨H, hq1⟩
         · refine WPc_skip ?_
           exact ⟨H, hq1⟩
     refine cI H (fun H=> ?_) fun H=> ?_
     · refine WPc_skip ?_
       exact ⟨H, rfl⟩
     · refine WPc_exit ?_
       exact H
   refine sR <| nM (e 0) rfl<|vl_n <| H_call HB_4 H fun _ h H=> nP R_not H fun t25 H=> nM t25 rfl ?_; obtain ⟨b, hb, H1, H2⟩ := H
   cases b
   · have H := H1 rfl
     clear H1 H2; refine vl_y rfl hb ?_; refine H_of_R (R_move (v := (e 1)) rfl ?_)
     refine vl_y rfl hb ?_; refine H_of_R (R_len Tryz.underlying22 H fun _ H=> ?_)
     refine vl_y rfl hb ?_; refine H_of_R (R_gtr H fun t29 H=> ?_)
     refine nA (R_pickC (v := t29) false hb rfl) <| vl_e ?_; refine cI H (fun H=> ?_) fun H=> ?_
     · exact sR <| vl_n <| H_call HB_5 H fun t31 h H=> nS t31 rfl<|vl_e <| WPc_ret <| resH_of rfl<|H
     · exact WPc_skip <| H
   · have H := H2 rfl
     clear H1 H2; refine vl_s rfl (nbF hb) ?_; refine vl_s rfl (nbF hb) ?_; refine vl_s rfl (nbF hb) ?_; refine nA (R_pickC (v := (.bool true)) true hb rfl) <| vl_e ?_; refine WPc_cond (t := true) rfl (fun _=> ?_) (fun hh=> by cases hh)
     exact sR <| vl_n <| H_call HB_5 H fun t31_2 h H=> nS t31_2 rfl<|vl_e <| WPc_ret <| resH_of rfl<|H
 refine sR <| nM a1 rfl<|nP (R_len Tryz.underlying22) H fun _ H=> nP R_gtr H fun _ H=> vl_e ?_; refine cI H (fun H=> ?_) fun H=> ?_
 · exact sR <| nS (.bool true) rfl<|vl_e <| WPc_ret <| resH_of rfl<|H
 · exact WPc_skip <| H
def z1l_.j3 (s0 : Value) (h : Heap) (Q : Value → Heap → Prop) : Prop := nilck s0 fun b=>fld 3 b fun d=>load1 d h fun g=>arith (· + ·) g (.int .i64 1) fun i=>nilck s0 fun j=>fld 3 j fun k=>store1 k i h fun h=>nilck s0 fun l=>fld 4 l fun m=>fld 0 m fun n=>load1 n h fun o=>Q (.tuple #[o, (.bool false)]) h
def z1l_.j2 (s0 s9 s10 : Value) (h : Heap) (Q : Value → Heap → Prop) : Prop := ifV s10 (Q (.tuple #[s9, (.bool true)]) h) (z1l_.j3 s0 h Q)
def z1l_.j1 (s0 s8 : Value) (h : Heap) (Q : Value → Heap → Prop) : Prop := nilck s0 fun b=>fld 2 b fun d=>loadN 2 s8 h fun g=>z0v_.call #[s0, d, g] h fun i h=>extr 0 i fun j=>extr 1 i fun k=>extr 2 i fun l=>ifV l (nilck s0 fun m=>fld 2 m fun n=>load1 n h fun o=>z0j_.call #[s0, o] h fun p h=>extr 0 p fun q=>extr 1 p fun u=>alloc [(.int .i64 0), (.int .i64 0)] 82 h fun v h=>storeN 2 v u h fun h=>z0u_.call #[s0, (.bool false)] h fun w h=>nilck s0 fun x=>fld 2 x fun y=>store1 y w h fun h=>nilck s0 fun z=>fld 2 z fun b0=>load1 b0 h fun b1=>nilck b1 fun b2=>fld 3 b2 fun b3=>load1 b3 h fun b4=>nilck s0 fun b5=>fld 7 b5 fun b6=>load1 b6 h fun b7=>arith (· + ·) b7 (.int .i64 1) fun b8=>mks 80 1 8 [(.pointer none)] (.int .i64 0) b8 h fun b9 h=>still1 b0 b1 h ∧ still1 b3 b4 h ∧ nilck b4 fun d0=>store1 d0 b9 h fun h=>nilck s0 fun d1=>fld 2 d1 fun d2=>load1 d2 h fun d3=>nilck d3 fun d4=>fld 3 d4 fun d5=>load1 d5 h fun d6=>(mkSl (if 0 * 1 = 0 then [] else zeros [(.pointer none)] 0) 0 [] 80 h fun d7 h=>still1 d2 d3 h ∧ still1 d5 d6 h ∧ mkSl (if 2 * 1 = 0 then [] else zeros [(.pointer none)] 2) 2 [(0 * 1, 1, o), (1 * 1, 1, q)] 80 h fun d8 h=>still1 d2 d3 h ∧ still1 d5 d6 h ∧ app 80 1 8 [(.pointer none)] d7 d8 h fun d9 h=>still1 d2 d3 h ∧ still1 d5 d6 h ∧ nilck d6 fun g0=>store1 g0 d9 h fun h=>nilck s0 fun g1=>fld 2 g1 fun g2=>load1 g2 h fun g3=>loadN 2 v h fun g4=>(mkSl (if 0 * 2 = 0 then [] else zeros [(.int .i64 0), (.int .i64 0)] 0) 0 [] 82 h fun g5 h=>still1 g2 g3 h ∧ stillN 2 v g4 h ∧ mkSl (if 1 * 2 = 0 then [] else zeros [(.int .i64 0), (.int .i64 0)] 1) 1 [(0 * 2, 2, g4)] 82 h fun g6 h=>still1 g2 g3 h ∧ app 82 2 16 [(.int .i64 0), (.int .i64 0)] g5 g6 h fun g7 h=>still1 g2 g3 h ∧ nilck g3 fun g8=>fld 2 g8 fun g9=>store1 g9 g7 h fun h=>nilck s0 fun i0=>fld 2 i0 fun i1=>load1 i1 h fun i2=>z01_.call #[i2] h fun i3 h=>fld 1 s8 fun i4=>load1 i4 h fun i5=>fld 0 s8 fun i6=>load1 i6 h fun i7=>z1l_.call #[s0, i5, i7] h fun i8 h=>extr 0 i8 fun i9=>extr 1 i8 fun j0=>Q (.tuple #[i9, j0]) h) ∧ (mkSl (if 1 * 2 = 0 then [] else zeros [(.int .i64 0), (.int .i64 0)] 1) 1 [(0 * 2, 2, g4)] 82 h fun j1 h=>still1 g2 g3 h ∧ mkSl (if 0 * 2 = 0 then [] else zeros [(.int .i64 0), (.int .i64 0)] 0) 0 [] 82 h fun j2 h=>still1 g2 g3 h ∧ app 82 2 16 [(.int .i64 0), (.int .i64 0)] j2 j1 h fun j3 h=>still1 g2 g3 h ∧ nilck g3 fun j4=>fld 2 j4 fun j5=>store1 j5 j3 h fun h=>nilck s0 fun j6=>fld 2 j6 fun j7=>load1 j7 h fun j8=>z01_.call #[j8] h fun j9 h=>fld 1 s8 fun k0=>load1 k0 h fun k1=>fld 0 s8 fun k2=>load1 k2 h fun k3=>z1l_.call #[s0, k1, k3] h fun k4 h=>extr 0 k4 fun k5=>extr 1 k4 fun k6=>Q (.tuple #[k5, k6]) h)) ∧ (mkSl (if 2 * 1 = 0 then [] else zeros [(.pointer none)] 2) 2 [(0 * 1, 1, o), (1 * 1, 1, q)] 80 h fun k7 h=>still1 d2 d3 h ∧ still1 d5 d6 h ∧ mkSl (if 0 * 1 = 0 then [] else zeros [(.pointer none)] 0) 0 [] 80 h fun k8 h=>still1 d2 d3 h ∧ still1 d5 d6 h ∧ app 80 1 8 [(.pointer none)] k8 k7 h fun k9 h=>still1 d2 d3 h ∧ still1 d5 d6 h ∧ nilck d6 fun l0=>store1 l0 k9 h fun h=>nilck s0 fun l1=>fld 2 l1 fun l2=>load1 l2 h fun l3=>loadN 2 v h fun l4=>(mkSl (if 0 * 2 = 0 then [] else zeros [(.int .i64 0), (.int .i64 0)] 0) 0 [] 82 h fun l5 h=>still1 l2 l3 h ∧ stillN 2 v l4 h ∧ mkSl (if 1 * 2 = 0 then [] else zeros [(.int .i64 0), (.int .i64 0)] 1) 1 [(0 * 2, 2, l4)] 82 h fun l6 h=>still1 l2 l3 h ∧ app 82 2 16 [(.int .i64 0), (.int .i64 0)] l5 l6 h fun l7 h=>still1 l2 l3 h ∧ nilck l3 fun l8=>fld 2 l8 fun l9=>store1 l9 l7 h fun h=>nilck s0 fun m0=>fld 2 m0 fun m1=>load1 m1 h fun m2=>z01_.call #[m2] h fun m3 h=>fld 1 s8 fun m4=>load1 m4 h fun m5=>fld 0 s8 fun m6=>load1 m6 h fun m7=>z1l_.call #[s0, m5, m7] h fun m8 h=>extr 0 m8 fun m9=>extr 1 m8 fun n0=>Q (.tuple #[m9, n0]) h) ∧ (mkSl (if 1 * 2 = 0 then [] else zeros [(.int .i64 0), (.int .i64 0)] 1) 1 [(0 * 2, 2, l4)] 82 h fun n1 h=>still1 l2 l3 h ∧ mkSl (if 0 * 2 = 0 then [] else zeros [(.int .i64 0), (.int .i64 0)] 0) 0 [] 82 h fun n2 h=>still1 l2 l3 h ∧ app 82 2 16 [(.int .i64 0), (.int .i64 0)] n2 n1 h fun n3 h=>still1 l2 l3 h ∧ nilck l3 fun n4=>fld 2 n4 fun n5=>store1 n5 n3 h fun h=>nilck s0 fun n6=>fld 2 n6 fun n7=>load1 n7 h fun n8=>z01_.call #[n8] h fun n9 h=>fld 1 s8 fun o0=>load1 o0 h fun o1=>fld 0 s8 fun o2=>load1 o2 h fun o3=>z1l_.call #[s0, o1, o3] h fun o4 h=>extr 0 o4 fun o5=>extr 1 o4 fun o6=>Q (.tuple #[o5, o6]) h))) (z1l_.j2 s0 j k h Q)
def z1l_.sh (a0 a1 a2 : Value) (h : Heap) (Q : Value → Heap → Prop) : Prop := buildV [(.int .i64 0), (.int .i64 0)] [(1, 1, a1), (0, 1, a2)] fun b=>alloc [(.int .i64 0), (.int .i64 0)] 82 h fun d h=>storeN 2 d b h fun h=>nilck a0 fun g=>fld 2 g fun i=>load1 i h fun j=>eqNilP j fun k=>ifV k (z1d_.call #[a0, (.int .i64 0)] h fun l h=>z0u_.call #[a0, (.bool true)] h fun m h=>nilck a0 fun n=>fld 2 n fun o=>store1 o m h fun h=>nilck a0 fun p=>fld 2 p fun q=>load1 q h fun u=>loadN 2 d h fun v=>(mkSl (if 0 * 2 = 0 then [] else zeros [(.int .i64 0), (.int .i64 0)] 0) 0 [] 82 h fun w h=>still1 q u h ∧ stillN 2 d v h ∧ mkSl (if 1 * 2 = 0 then [] else zeros [(.int .i64 0), (.int .i64 0)] 1) 1 [(0 * 2, 2, v)] 82 h fun x h=>still1 q u h ∧ app 82 2 16 [(.int .i64 0), (.int .i64 0)] w x h fun y h=>still1 q u h ∧ nilck u fun z=>fld 2 z fun b0=>store1 b0 y h fun h=>nilck a0 fun b1=>fld 2 b1 fun b2=>load1 b2 h fun b3=>nilck b3 fun b4=>fld 1 b4 fun b5=>store1 b5 (.int .i64 1) h fun h=>nilck a0 fun b6=>fld 3 b6 fun b7=>store1 b7 (.int .i64 1) h fun h=>nilck a0 fun b8=>fld 4 b8 fun b9=>fld 0 b9 fun d0=>load1 d0 h fun d1=>Q (.tuple #[d1, (.bool false)]) h) ∧ (mkSl (if 1 * 2 = 0 then [] else zeros [(.int .i64 0), (.int .i64 0)] 1) 1 [(0 * 2, 2, v)] 82 h fun d2 h=>still1 q u h ∧ mkSl (if 0 * 2 = 0 then [] else zeros [(.int .i64 0), (.int .i64 0)] 0) 0 [] 82 h fun d3 h=>still1 q u h ∧ app 82 2 16 [(.int .i64 0), (.int .i64 0)] d3 d2 h fun d4 h=>still1 q u h ∧ nilck u fun d5=>fld 2 d5 fun d6=>store1 d6 d4 h fun h=>nilck a0 fun d7=>fld 2 d7 fun d8=>load1 d8 h fun d9=>nilck d9 fun g0=>fld 1 g0 fun g1=>store1 g1 (.int .i64 1) h fun h=>nilck a0 fun g2=>fld 3 g2 fun g3=>store1 g3 (.int .i64 1) h fun h=>nilck a0 fun g4=>fld 4 g4 fun g5=>fld 0 g5 fun g6=>load1 g6 h fun g7=>Q (.tuple #[g7, (.bool false)]) h)) (z1l_.j1 a0 d h Q)
theorem z1l_.body (a0 a1 a2 : Value) (h : Heap) (Q : Value → Heap → Prop) (H : z1l_.sh a0 a1 a2 h Q) : z1l_.call #[a0, a1, a2] h Q := by
 refine callsH_of (args := [a0, a1, a2]) Tryz.func29 rfl rfl ?_; unfold z1l_.sh at H; refine sR <| nS (.int .i64 0) rfl<|nS (.bool false) rfl<|vl_e <| sR <| nM a1 rfl<|nM a2 rfl<|nP (R_build TB_82 rfl (by decide)) H fun _ H=> vl_n <| H_alloc TV_82 H fun _ h H=> vl_n <| H_storeN TS_82 H fun h H=> vl_e ?_; refine WPc_seq (fun e h=> z1l_.j1 (e 0) (e 8) h Q) ?_ (fun e h H=> ?_)
 rotate_left
 · unfold z1l_.j1 at H
   refine WPc_seq' <| W_drawn [0,0,2,6,0,31,63,127,127,127,255,1535,4095] (Tk 0<|Tk 1<|Tk 2<|Tk 3<|Tk 4<|Al 5<|Tk 6<|Tk 7<|Tk 8<|Tk 9<|Tk 10<|Tk 11<|Tk 12 .done) mixed (by kernel_rfl) <| pM (e 0) rfl rfl<|pM (e 0) rfl rfl<|pB rfl rfl TF_84_2 H fun _ _ H=> tkL rfl<|R_loadN TN_82 H fun _ _ _ _ H _ _=> aE rfl<|H_call HB_49 H fun t60 h H=> ⟨(hskip rfl hnil), pM t60 rfl rfl<|pP rfl R_ext H fun t61 H=> pP rfl R_ext H fun t62 H=> pP rfl R_ext H fun t63 H=> pS t61 rfl rfl<|pS t62 rfl rfl ?_⟩
   refine pS t63 rfl rfl<|vp_done ?_; refine WPc_seq (fun e h=> z1l_.j2 (e 0) (e 9) (e 10) h Q) ?_ (fun e h H=> ?_)
   rotate_left
   · unfold z1l_.j2 at H
     refine WPc_seq (fun e h=> z1l_.j3 (e 0) h Q) ?_ (fun e h H=> ?_)
     rotate_left
     · unfold z1l_.j3 at H
       refine sR <| nM (e 0) rfl<|nT TF_84_3 T1_3 H fun _ _ _ H=> nP R_add H fun _ H=> nB TF_84_3 H fun _ _ H=> vl_n <| H_store1 TS_3 H fun h H=> vl_e <| sR <| nM (e 0) rfl<|nB TF_84_4 H fun _ _ H=> ?_; exact nP (R_fld TF_82_0) H fun _ H=> nL T1_3 H fun t143 H=> nS t143 rfl<|nS (.bool false) rfl<|vl_e <| WPc_ret <| resH_of rfl<|H
     refine sR <| nM (e 10) rfl<|vl_e ?_; refine cI H (fun H=> ?_) fun H=> ?_
     · exact sR <| nM (e 9) rfl<|nS (e 9) rfl<|nS (.bool true) rfl<|vl_e <| WPc_ret <| resH_of rfl<|H
     · exact WPc_skip <| H
   refine sR <| nM t63 rfl<|vl_e ?_; refine cI H (fun H=> ?_) fun H=> ?_
   · refine sR <| nM (e 0) rfl<|nT TF_84_2 T1_80 H fun _ _ t68 H=> nS t68 rfl<|vl_e <| sR <| nM (e 0) rfl<|nM t68 rfl<|vl_n <| H_call HB_50 H fun t72 h H=> nM t72 rfl<|nP R_ext H fun t73 H=> nP R_ext H fun _ H=> ?_
     refine vl_n <| H_alloc TV_82 H fun _ h H=> nS t73 rfl<|vl_n <| H_storeN TS_82 H fun h H=> vl_e <| sR <| nM (e 0) rfl<|nM (e 0) rfl<|vl_n <| H_call HB_48 H fun _ h H=> nB TF_84_2 H fun _ _ H=> vl_n <| H_store1 TS_80 H fun h H=> vl_e <| WPc_seq' <| W_drawn [0,1,3,7,15,31,63,0,128,384,896,1920,3968,8191,16383] (Tk 0<|Tk 1<|Tk 2<|Tk 3<|Tk 4<|Tk 5<|Tk 6<|Tk 7<|Tk 8<|Tk 9<|Tk 10<|Tk 11<|Al 12<|Tk 13<|Al 14 .done) mixed (by kernel_rfl) ?_; refine pM (e 0) rfl rfl<|pT rfl rfl rfl TF_84_2 T1_80 H fun _ _ _ _ hat83 H=> pT rfl rfl rfl TF_91_3 T1_89 H fun _ _ _ _ hat86 H=> pM (e 0) rfl rfl<|pT rfl rfl rfl TF_84_6 T1_3 H fun _ _ _ _ _ H=> pP rfl R_add H fun _ H=> aE rfl<|H_mks TZ_92 rfl H fun _ h ⟨S, S_2, H⟩=> ⟨(hskip rfl (hcons rfl (still_1 S_2 hat86) (hcons rfl (still_1 S hat83) hnil))), pP rfl R_nil H fun _ H=> ?_⟩
     refine aE rfl<|H_store1 TS_92 H fun h H=> ⟨(hskip rfl (hskip rfl hnil)), vp_done <| WPc_seq' <| W_drawn [0, 1, 3, 7, 15, 31, 63, 0, 0, 0, 768, 1920, 4095, 8191] (.take 0 (.take 1 (.take 2 (.take 3 (.take 4 (.take 5 (.take 6 (.take 8 (.take 9 (.alt 7 (.alt 10 (.alt 11 (.take 12 (.alt 13 .done .none)) .none) .none) (.alt 10 (.alt 7 (.alt 11 (.take 12 (.alt 13 .done .none)) .none) .none) .none))))))))))) mixed (by kernel_rfl) <| pM (e 0) rfl rfl<|pT rfl rfl rfl TF_84_2 T1_80 H fun _ _ _ _ hat97 H=> pT rfl rfl rfl TF_91_3 T1_89 H fun _ _ _ _ hat100 H=> pM t68 rfl rfl<|pM t73 rfl rfl ?_⟩
     obtain ⟨HA0, HA1⟩ := H; refine alt_n rfl ?_ ?_
     · have H := HA0
       clear HA0 HA1; refine H_mkSl TZ_92 (by decide) rfl H rfl fun _ h ⟨S_3, S_4, H⟩=> ⟨(hcons rfl (still_1 S_4 hat100) (hcons rfl (still_1 S_3 hat97) hnil)), ?_⟩
       refine aE rfl<|H_mkSl TZ_92 (by decide) rfl H rfl fun _ h ⟨S_5, S_6, H⟩=> ⟨(hcons rfl (still_1 S_6 hat100) (hcons rfl (still_1 S_5 hat97) hnil)), aE rfl<|H_app TZ_92 TU_92 H fun _ h ⟨S_7, S_8, H⟩=> ⟨(hcons rfl (still_1 S_8 hat100) (hcons rfl (still_1 S_7 hat97) hnil)), pP rfl R_nil H fun _ H=> aE rfl<|H_store1 TS_92 H fun h H=> ⟨(hskip rfl (hskip rfl hnil)), vp_done <| WPc_seq' <| W_drawn [0, 1, 3, 7, 0, 0, 32, 112, 255, 511, 1023] (.take 0 (.take 1 (.take 2 (.take 3 (.take 5 (.alt 4 (.alt 6 (.alt 7 (.take 8 (.take 9 (.alt 10 .done .none))) .none) .none) (.alt 6 (.alt 4 (.alt 7 (.take 8 (.take 9 (.alt 10 .done .none))) .none) .none) .none))))))) mixed (by kernel_rfl) <| pM (e 0) rfl rfl<|pT rfl rfl rfl TF_84_2 T1_80 H fun _ _ _ _ hat110 H=> tkL rfl<|R_loadN TN_82 H fun _ _ hat112 _ H _ hSt112=> ?_⟩⟩⟩
       obtain ⟨HA0, HA1⟩ := H; refine alt_n rfl ?_ ?_
       · have H := HA0
         clear HA0 HA1; refine H_mkSl TZ_88 (by decide) rfl H rfl fun _ h ⟨S_9, S_10, H⟩=> ⟨(hcons rfl (hSt112 _ (still_N S_10 hat112 rfl)) (hcons rfl (still_1 S_9 hat110) hnil)), ?_⟩
         refine aE rfl<|H_mkSl TZ_88 (by decide) rfl H rfl fun _ h ⟨S_11, H⟩=> ⟨(hskip rfl (hcons rfl (still_1 S_11 hat110) hnil)), aE rfl<|H_app TZ_88 TU_88 H fun _ h ⟨S_12, H⟩=> ⟨(hcons rfl (still_1 S_12 hat110) hnil), pB rfl rfl TF_91_2 H fun _ _ H=> aE rfl<|H_store1 TS_88 H fun h H=> ⟨(hskip rfl hnil), vp_done <| sR <| nM (e 0) rfl<|nT TF_84_2 T1_80 H fun _ _ _ H=> vl_n <| H_call HB_51 H fun _ h H=> vl_e <| sR ?_⟩⟩⟩
         exact nM (e 0) rfl<|nP (R_fld TF_82_1) H fun _ H=> nL T1_3 H fun _ H=> nP (R_fld TF_82_0) H fun _ H=> nL T1_3 H fun _ H=> vl_n <| H_call HB_29 H fun _ h H=> nP R_ext H fun t128 H=> nP R_ext H fun t129 H=> nS t128 rfl<|nS t129 rfl<|vl_e <| WPc_ret <| resH_of rfl<|H
       refine alt_n rfl ?_ vp_none
       have H := HA1
       clear HA0 HA1; refine H_mkSl TZ_88 (by decide) rfl H rfl fun _ h ⟨S_13, H⟩=> ⟨(hskip rfl (hcons rfl (still_1 S_13 hat110) hnil)), ?_⟩
       refine aE rfl<|H_mkSl TZ_88 (by decide) rfl H rfl fun _ h ⟨S_14, H⟩=> ⟨(hcons rfl (still_1 S_14 hat110) hnil), aE rfl<|H_app TZ_88 TU_88 H fun _ h ⟨S_15, H⟩=> ⟨(hcons rfl (still_1 S_15 hat110) hnil), pB rfl rfl TF_91_2 H fun _ _ H=> aE rfl<|H_store1 TS_88 H fun h H=> ⟨(hskip rfl hnil), vp_done <| sR <| nM (e 0) rfl<|nT TF_84_2 T1_80 H fun _ _ _ H=> vl_n <| H_call HB_51 H fun _ h H=> vl_e <| sR ?_⟩⟩⟩
       exact nM (e 0) rfl<|nP (R_fld TF_82_1) H fun _ H=> nL T1_3 H fun _ H=> nP (R_fld TF_82_0) H fun _ H=> nL T1_3 H fun _ H=> vl_n <| H_call HB_29 H fun _ h H=> nP R_ext H fun t128_2 H=> nP R_ext H fun t129_2 H=> nS t128_2 rfl<|nS t129_2 rfl<|vl_e <| WPc_ret <| resH_of rfl<|H
     refine alt_n rfl ?_ vp_none
     have H := HA1
     clear HA0 HA1; refine H_mkSl TZ_92 (by decide) rfl H rfl fun _ h ⟨S_16, S_17, H⟩=> ⟨(hcons rfl (still_1 S_17 hat100) (hcons rfl (still_1 S_16 hat97) hnil)), ?_⟩
     refine aE rfl<|H_mkSl TZ_92 (by decide) rfl H rfl fun _ h ⟨S_18, S_19, H⟩=> ⟨(hcons rfl (still_1 S_19 hat100) (hcons rfl (still_1 S_18 hat97) hnil)), aE rfl<|H_app TZ_92 TU_92 H fun _ h ⟨S_20, S_21, H⟩=> ⟨(hcons rfl (still_1 S_21 hat100) (hcons rfl (still_1 S_20 hat97) hnil)), pP rfl R_nil H fun _ H=> aE rfl<|H_store1 TS_92 H fun h H=> ⟨(hskip rfl (hskip rfl hnil)), vp_done <| WPc_seq' <| W_drawn [0, 1, 3, 7, 0, 0, 32, 112, 255, 511, 1023] (.take 0 (.take 1 (.take 2 (.take 3 (.take 5 (.alt 4 (.alt 6 (.alt 7 (.take 8 (.take 9 (.alt 10 .done .none))) .none) .none) (.alt 6 (.alt 4 (.alt 7 (.take 8 (.take 9 (.alt 10 .done .none))) .none) .none) .none))))))) mixed (by kernel_rfl) <| pM (e 0) rfl rfl<|pT rfl rfl rfl TF_84_2 T1_80 H fun _ _ _ _ hat110_2 H=> tkL rfl<|R_loadN TN_82 H fun _ _ hat112_2 _ H _ hSt112_2=> ?_⟩⟩⟩
     obtain ⟨HA0, HA1⟩ := H; refine alt_n rfl ?_ ?_
     · have H := HA0
       clear HA0 HA1; refine H_mkSl TZ_88 (by decide) rfl H rfl fun _ h ⟨S_22, S_23, H⟩=> ⟨(hcons rfl (hSt112_2 _ (still_N S_23 hat112_2 rfl)) (hcons rfl (still_1 S_22 hat110_2) hnil)), ?_⟩
       refine aE rfl<|H_mkSl TZ_88 (by decide) rfl H rfl fun _ h ⟨S_24, H⟩=> ⟨(hskip rfl (hcons rfl (still_1 S_24 hat110_2) hnil)), aE rfl<|H_app TZ_88 TU_88 H fun _ h ⟨S_25, H⟩=> ⟨(hcons rfl (still_1 S_25 hat110_2) hnil), pB rfl rfl TF_91_2 H fun _ _ H=> aE rfl<|H_store1 TS_88 H fun h H=> ⟨(hskip rfl hnil), vp_done <| sR <| nM (e 0) rfl<|nT TF_84_2 T1_80 H fun _ _ _ H=> vl_n <| H_call HB_51 H fun _ h H=> vl_e <| sR ?_⟩⟩⟩
       exact nM (e 0) rfl<|nP (R_fld TF_82_1) H fun _ H=> nL T1_3 H fun _ H=> nP (R_fld TF_82_0) H fun _ H=> nL T1_3 H fun _ H=> vl_n <| H_call HB_29 H fun _ h H=> nP R_ext H fun t128_3 H=> nP R_ext H fun t129_3 H=> nS t128_3 rfl<|nS t129_3 rfl<|vl_e <| WPc_ret <| resH_of rfl<|H
     refine alt_n rfl ?_ vp_none
     have H := HA1
     clear HA0 HA1; refine H_mkSl TZ_88 (by decide) rfl H rfl fun _ h ⟨S_26, H⟩=> ⟨(hskip rfl (hcons rfl (still_1 S_26 hat110_2) hnil)), ?_⟩
     refine aE rfl<|H_mkSl TZ_88 (by decide) rfl H rfl fun _ h ⟨S_27, H⟩=> ⟨(hcons rfl (still_1 S_27 hat110_2) hnil), aE rfl<|H_app TZ_88 TU_88 H fun _ h ⟨S_28, H⟩=> ⟨(hcons rfl (still_1 S_28 hat110_2) hnil), pB rfl rfl TF_91_2 H fun _ _ H=> aE rfl<|H_store1 TS_88 H fun h H=> ⟨(hskip rfl hnil), vp_done <| sR <| nM (e 0) rfl<|nT TF_84_2 T1_80 H fun _ _ _ H=> vl_n <| H_call HB_51 H fun _ h H=> vl_e <| sR ?_⟩⟩⟩
     exact nM (e 0) rfl<|nP (R_fld TF_82_1) H fun _ H=> nL T1_3 H fun _ H=> nP (R_fld TF_82_0) H fun _ H=> nL T1_3 H fun _ H=> vl_n <| H_call HB_29 H fun _ h H=> nP R_ext H fun t128_4 H=> nP R_ext H fun t129_4 H=> nS t128_4 rfl<|nS t129_4 rfl<|vl_e <| WPc_ret <| resH_of rfl<|H
   · exact WPc_skip <| H
 refine sR <| nM a0 rfl<|nT TF_84_2 T1_80 H fun _ _ _ H=> nP (R_eqNilP Tryz.underlying80 rfl) H fun _ H=> vl_e ?_; refine cI H (fun H=> ?_) fun H=> ?_
 · refine sR <| nM a0 rfl<|vl_n <| H_call HB_47 H fun _ h H=> vl_e <| sR <| nM a0 rfl<|nM a0 rfl<|vl_n <| H_call HB_48 H fun _ h H=> nB TF_84_2 H fun _ _ H=> vl_n <| H_store1 TS_80 H fun h H=> vl_e <| WPc_seq' <| W_drawn [0, 1, 3, 7, 0, 0, 32, 112, 255, 511, 1023] (.take 0 (.take 1 (.take 2 (.take 3 (.take 5 (.alt 4 (.alt 6 (.alt 7 (.take 8 (.take 9 (.alt 10 .done .none))) .none) .none) (.alt 6 (.alt 4 (.alt 7 (.take 8 (.take 9 (.alt 10 .done .none))) .none) .none) .none))))))) mixed (by kernel_rfl) ?_
   refine pM a0 rfl rfl<|pT rfl rfl rfl TF_84_2 T1_80 H fun _ _ _ _ hat33 H=> tkL rfl<|R_loadN TN_82 H fun _ _ hat35 _ H _ hSt35=> ?_; obtain ⟨HA0, HA1⟩ := H; refine alt_n rfl ?_ ?_
   · have H := HA0
     clear HA0 HA1; refine H_mkSl TZ_88 (by decide) rfl H rfl fun _ h ⟨S, S_2, H⟩=> ⟨(hcons rfl (hSt35 _ (still_N S_2 hat35 rfl)) (hcons rfl (still_1 S hat33) hnil)), ?_⟩
     refine aE rfl<|H_mkSl TZ_88 (by decide) rfl H rfl fun _ h ⟨S_3, H⟩=> ⟨(hskip rfl (hcons rfl (still_1 S_3 hat33) hnil)), aE rfl<|H_app TZ_88 TU_88 H fun _ h ⟨S_4, H⟩=> ⟨(hcons rfl (still_1 S_4 hat33) hnil), pB rfl rfl TF_91_2 H fun _ _ H=> aE rfl<|H_store1 TS_88 H fun h H=> ⟨(hskip rfl hnil), vp_done <| sR <| nM a0 rfl<|nT TF_84_2 T1_80 H fun _ _ _ H=> nB TF_91_1 H fun _ _ H=> vl_n <| H_store1 TS_3 H fun h H=> ?_⟩⟩⟩
     refine vl_e <| sR <| nM a0 rfl<|nB TF_84_3 H fun _ _ H=> vl_n <| H_store1 TS_3 H fun h H=> vl_e <| sR <| nM a0 rfl<|nB TF_84_4 H fun _ _ H=> nP (R_fld TF_82_0) H fun _ H=> nL T1_3 H fun t53 H=> nS t53 rfl ?_; exact nS (.bool false) rfl<|vl_e <| WPc_ret <| resH_of rfl<|H
   refine alt_n rfl ?_ vp_none
   have H := HA1
   clear HA0 HA1; refine H_mkSl TZ_88 (by decide) rfl H rfl fun _ h ⟨S_5, H⟩=> ⟨(hskip rfl (hcons rfl (still_1 S_5 hat33) hnil)), ?_⟩
   refine aE rfl<|H_mkSl TZ_88 (by decide) rfl H rfl fun _ h ⟨S_6, H⟩=> ⟨(hcons rfl (still_1 S_6 hat33) hnil), aE rfl<|H_app TZ_88 TU_88 H fun _ h ⟨S_7, H⟩=> ⟨(hcons rfl (still_1 S_7 hat33) hnil), pB rfl rfl TF_91_2 H fun _ _ H=> aE rfl<|H_store1 TS_88 H fun h H=> ⟨(hskip rfl hnil), vp_done <| sR <| nM a0 rfl<|nT TF_84_2 T1_80 H fun _ _ _ H=> nB TF_91_1 H fun _ _ H=> vl_n <| H_store1 TS_3 H fun h H=> ?_⟩⟩⟩
   refine vl_e <| sR <| nM a0 rfl<|nB TF_84_3 H fun _ _ H=> vl_n <| H_store1 TS_3 H fun h H=> vl_e <| sR <| nM a0 rfl<|nB TF_84_4 H fun _ _ H=> nP (R_fld TF_82_0) H fun _ H=> nL T1_3 H fun t53_2 H=> nS t53_2 rfl ?_; exact nS (.bool false) rfl<|vl_e <| WPc_ret <| resH_of rfl<|H
 · exact WPc_skip <| H
def z1p_.sh (a0 : Value) (h : Heap) (Q : Value → Heap → Prop) : Prop := alloc [(.int .u64 0), (.pointer none), (.pointer none), (.int .i64 0), (.int .i64 0), (.int .i64 0), (.int .i64 0), (.int .i64 0), (.bool false), (.bool false)] 84 h fun b h=>z1d_.call #[b, a0] h fun d h=>Q b h
theorem z1p_.body (a0 : Value) (h : Heap) (Q : Value → Heap → Prop) (H : z1p_.sh a0 h Q) : z1p_.call #[a0] h Q := by
 refine callsH_of (args := [a0]) Tryz.func38 rfl rfl ?_; unfold z1p_.sh at H; refine sR <| nS (.pointer none) rfl<|vl_e <| sR <| vl_n <| H_alloc TV_84 H fun t4 h H=> nS t4 rfl<|vl_e <| sR <| nM t4 rfl<|nM a0 rfl<|vl_n <| H_call HB_47 H fun _ h H=> vl_e <| sR <| nM t4 rfl ?_; exact nS t4 rfl<|vl_e <| WPc_ret <| resH_of rfl<|H
def z1u_.j1 (s5 : Value) (h : Heap) (Q : Value → Heap → Prop) : Prop := Q s5 h
def z1u_.j4 (s5 s10 s11 s12 : Value) (h : Heap) (K1 : List Value → Heap → Prop) (Q : Value → Heap → Prop) : Prop := arith (· + ·) s12 (.int .i64 1) fun b=>K1 [b] h
def z1u_.j3 (s5 s10 s11 s12 : Value) (h : Heap) (K1 : List Value → Heap → Prop) (Q : Value → Heap → Prop) : Prop := idx 2 s10 s12 fun b=>loadN 2 b h fun d=>alloc [(.int .i64 0), (.int .i64 0)] 31 h fun g h=>storeN 2 g d h fun h=>fld 0 g fun i=>load1 i h fun j=>fld 1 g fun k=>load1 k h fun l=>z1l_.call #[s5, j, l] h fun m h=>z1u_.j4 s5 s10 s11 s12 h K1 Q
def z1u_.l2.b (c5 c10 c11 s12 : Value) (h : Heap) (K1 : List Value → Heap → Prop) (Q : Value → Heap → Prop) : Prop := cmpI (fun a b=> decide (a < b)) s12 c11 fun b=>ifV b (z1u_.j3 c5 c10 c11 s12 h K1 Q) (z1u_.j1 c5 h Q)
def z1u_.sh (a0 a1 : Value) (h : Heap) (Q : Value → Heap → Prop) : Prop := z1p_.call #[a0] h fun b h=>lenV a1 fun d=>loopC (fun c s h K1=> z1u_.l2.b (c.getD 0 undef) (c.getD 1 undef) (c.getD 2 undef) (s.getD 0 undef) h K1 Q) [b, a1, d] [(.int .i64 0)] h
theorem z1u_.body (a0 a1 : Value) (h : Heap) (Q : Value → Heap → Prop) (H : z1u_.sh a0 a1 h Q) : z1u_.call #[a0, a1] h Q := by
 refine callsH_of (args := [a0, a1]) Tryz.func23 rfl rfl ?_; unfold z1u_.sh at H; refine sR <| nS (.pointer none) rfl<|vl_e <| sR <| nM a0 rfl<|vl_n <| H_call HB_38 H fun t9 h H=> nS t9 rfl<|vl_e ?_; refine WPc_seq (fun e h=> z1u_.j1 (e 5) h Q) ?_ (fun e h H=> ?_)
 rotate_left
 · unfold z1u_.j1 at H
   exact sR <| nM (e 5) rfl<|nS (e 5) rfl<|vl_e <| WPc_ret <| resH_of rfl<|H
 refine sR <| nM a1 rfl<|nP (R_len Tryz.underlying29) H fun _ H=> nM (.int .i64 0) rfl<|vl_e <| WPc_block ?_; refine loop_at (fun e=> [e 12]) (fun e=> [e 5, e 10, e 11]) H rfl rfl ?_; intro K1 e1 h H hin1
 replace H : z1u_.l2.b (e1 5) (e1 10) (e1 11) (e1 12) h K1 Q := H
 unfold z1u_.l2.b at H; clear hin1; refine sR <| nP R_lss H fun _ H=> vl_e ?_; refine WPc_seq (fun e h=> z1u_.j3 (e 5) (e 10) (e 11) (e 12) h K1 Q ∧ [e1 5, e1 10, e1 11] = [e 5, e 10, e 11]) ?_ (fun e h ⟨H, hq1⟩=> ?_)
 rotate_left
 · unfold z1u_.j3 at H
   refine WPc_seq (fun e h=> z1u_.j4 (e 5) (e 10) (e 11) (e 12) h K1 Q ∧ [e1 5, e1 10, e1 11] = [e 5, e 10, e 11]) ?_ (fun e h ⟨H, hq1⟩=> ?_)
   rotate_left
   · unfold z1u_.j4 at H
     refine W_region (by kernel_rfl) <| nP R_add H fun t22 H=> nM t22 rfl<|vl_e ?_; exact ⟨H, hq1⟩
   refine WPc_block <| sR <| nP (R_idx TE_29) H fun _ H=> nLN TN_31 H fun _ H=> vl_n <| H_alloc TV_31 H fun _ h H=> vl_n <| H_storeN TS_31 H fun h H=> vl_e <| W_region (by kernel_rfl) <| nM (e 5) rfl<|nP (R_fld TF_31_0) H fun _ H=> nL T1_3 H fun _ H=> nP (R_fld TF_31_1) H fun _ H=> nL T1_3 H fun _ H=> vl_n <| H_call HB_29 H fun _ h H=> ?_; refine vl_e ?_; exact ⟨H, hq1⟩
 refine cI H (fun H=> ?_) fun H=> ?_
 · refine WPc_skip ?_
   exact ⟨H, rfl⟩
 · refine WPc_exit ?_
   exact H
def z1k_.sh (a0 : Value) (h : Heap) (Q : Value → Heap → Prop) : Prop := nilck a0 fun b=>fld 3 b fun d=>load1 d h fun g=>Q g h
theorem z1k_.body (a0 : Value) (h : Heap) (Q : Value → Heap → Prop) (H : z1k_.sh a0 h Q) : z1k_.call #[a0] h Q := by
 refine callsH_of (args := [a0]) Tryz.func59 rfl rfl ?_; unfold z1k_.sh at H; exact sR <| nS (.int .i64 0) rfl<|vl_e <| sR <| nM a0 rfl<|nT TF_84_3 T1_3 H fun _ _ t6 H=> nS t6 rfl<|vl_e <| WPc_ret <| resH_of rfl<|H
def z0p_.j2 (s0 s1 : Value) (h : Heap) (Q : Value → Heap → Prop) : Prop := nilck s0 fun b=>fld 3 b fun d=>load1 d h fun g=>nilck g fun i=>load1 i h fun j=>nilck s0 fun k=>fld 3 k fun l=>load1 l h fun m=>nilck m fun n=>load1 n h fun o=>lenV o fun p=>arith (· - ·) p (.int .i64 1) fun q=>idx 1 j q fun u=>load1 u h fun v=>z0p_.call #[v, s1] h fun w h=>Q w h
def z0p_.j5 (s0 s1 s6 : Value) (h : Heap) (K1 : List Value → Heap → Prop) (Q : Value → Heap → Prop) : Prop := arith (· + ·) s6 (.int .i64 1) fun b=>K1 [s1, b] h
def z0p_.j4 (s0 s1 s6 : Value) (h : Heap) (K1 : List Value → Heap → Prop) (Q : Value → Heap → Prop) : Prop := nilck s0 fun b=>fld 3 b fun d=>load1 d h fun g=>nilck g fun i=>load1 i h fun j=>idx 1 j s6 fun k=>load1 k h fun l=>z0p_.call #[l, s1] h fun m h=>nilck s0 fun n=>fld 2 n fun o=>load1 o h fun p=>idx 2 p s6 fun q=>fld 1 q fun u=>load1 u h fun v=>mkSl (if 1 * 1 = 0 then [] else zeros [(.int .i64 0)] 1) 1 [(0 * 1, 1, v)] 3 h fun w h=>app 3 1 8 [(.int .i64 0)] m w h fun x h=>z0p_.j5 s0 x s6 h K1 Q
def z0p_.l3.b (c0 s1 s6 : Value) (h : Heap) (K1 : List Value → Heap → Prop) (Q : Value → Heap → Prop) : Prop := nilck c0 fun b=>fld 2 b fun d=>load1 d h fun g=>lenV g fun i=>cmpI (fun a b=> decide (a < b)) s6 i fun j=>ifV j (z0p_.j4 c0 s1 s6 h K1 Q) (z0p_.j2 c0 s1 h Q)
def z0p_.j1 (s0 s1 : Value) (h : Heap) (Q : Value → Heap → Prop) : Prop := loopC (fun c s h K1=> z0p_.l3.b (c.getD 0 undef) (s.getD 0 undef) (s.getD 1 undef) h K1 Q) [s0] [s1, (.int .i64 0)] h
def z0p_.j6 (s1 : Value) (h : Heap) (Q : Value → Heap → Prop) : Prop := Q s1 h
def z0p_.j9 (s0 s1 s5 : Value) (h : Heap) (K1 : List Value → Heap → Prop) (Q : Value → Heap → Prop) : Prop := arith (· + ·) s5 (.int .i64 1) fun b=>K1 [s1, b] h
def z0p_.j8 (s0 s1 s5 : Value) (h : Heap) (K1 : List Value → Heap → Prop) (Q : Value → Heap → Prop) : Prop := nilck s0 fun b=>fld 2 b fun d=>load1 d h fun g=>idx 2 g s5 fun i=>fld 1 i fun j=>load1 j h fun k=>mkSl (if 1 * 1 = 0 then [] else zeros [(.int .i64 0)] 1) 1 [(0 * 1, 1, k)] 3 h fun l h=>app 3 1 8 [(.int .i64 0)] s1 l h fun m h=>z0p_.j9 s0 m s5 h K1 Q
def z0p_.l7.b (c0 s1 s5 : Value) (h : Heap) (K1 : List Value → Heap → Prop) (Q : Value → Heap → Prop) : Prop := nilck c0 fun b=>fld 2 b fun d=>load1 d h fun g=>lenV g fun i=>cmpI (fun a b=> decide (a < b)) s5 i fun j=>ifV j (z0p_.j8 c0 s1 s5 h K1 Q) (z0p_.j6 s1 h Q)
def z0p_.sh (a0 a1 : Value) (h : Heap) (Q : Value → Heap → Prop) : Prop := z0q_.call #[a0] h fun b h=>ifV b (loopC (fun c s h K1=> z0p_.l7.b (c.getD 0 undef) (s.getD 0 undef) (s.getD 1 undef) h K1 Q) [a0] [a1, (.int .i64 0)] h) (z0p_.j1 a0 a1 h Q)
theorem z0p_.body (a0 a1 : Value) (h : Heap) (Q : Value → Heap → Prop) (H : z0p_.sh a0 a1 h Q) : z0p_.call #[a0, a1] h Q := by
 refine callsH_of (args := [a0, a1]) Tryz.func60 rfl rfl ?_; unfold z0p_.sh at H; refine sR <| nS (.slice none 0 0) rfl<|vl_e ?_; refine WPc_seq (fun e h=> z0p_.j1 (e 0) (e 1) h Q) ?_ (fun e h H=> ?_)
 rotate_left
 · unfold z0p_.j1 at H
   refine WPc_seq (fun e h=> z0p_.j2 (e 0) (e 1) h Q) ?_ (fun e h H=> ?_)
   rotate_left
   · unfold z0p_.j2 at H
     refine WPc_seq' <| W_drawn [0,1,3,7,15,31,0,64,192,448,960,1984,4032,8128,16383,32767,0,131071,262143] (Tk 0<|Tk 1<|Tk 2<|Tk 3<|Tk 4<|Tk 5<|Tk 6<|Tk 7<|Tk 8<|Tk 9<|Tk 10<|Tk 11<|Tk 12<|Tk 13<|Tk 14<|Tk 15<|Tk 16<|Al 17<|Tk 18 .done) mixed (by kernel_rfl) <| pM (e 0) rfl rfl<|pT rfl rfl rfl TF_91_3 T1_89 H fun _ _ _ _ _ H=> pP rfl R_nil H fun _ H=> pL rfl T1_92 H fun _ _ _ H=> pM (e 0) rfl rfl<|pT rfl rfl rfl TF_91_3 T1_89 H fun _ _ _ _ _ H=> pP rfl R_nil H fun _ H=> pL rfl T1_92 H fun _ _ _ H=> ?_; exact pP rfl (R_len Tryz.underlying92) H fun _ H=> pP rfl R_sub H fun _ H=> pP rfl (R_idx TE_92) H fun _ H=> pL rfl T1_80 H fun _ _ _ H=> pM (e 1) rfl rfl<|aE rfl<|H_call HB_60 H fun t78 h H=> ⟨(hskip rfl (hskip rfl (hskip rfl (hskip rfl (hskip rfl hnil))))), pS t78 rfl rfl<|vp_done <| WPc_ret <| resH_of rfl<|H⟩
   refine sR <| nS (.int .i64 0) rfl<|vl_e <| WPc_block ?_; refine loop_at (fun e=> [e 1, e 6]) (fun e=> [e 0]) H rfl rfl ?_; intro K1 e1 h H hin1
   replace H : z0p_.l3.b (e1 0) (e1 1) (e1 6) h K1 Q := H
   unfold z0p_.l3.b at H; clear hin1; refine WPc_seq (fun e h=> z0p_.j4 (e 0) (e 1) (e 6) h K1 Q ∧ [e1 0] = [e 0]) ?_ (fun e h ⟨H, hq1⟩=> ?_)
   rotate_left
   · unfold z0p_.j4 at H
     refine WPc_seq (fun e h=> z0p_.j5 (e 0) (e 1) (e 6) h K1 Q ∧ [e1 0] = [e 0]) ?_ (fun e h ⟨H, hq1⟩=> ?_)
     rotate_left
     · unfold z0p_.j5 at H
       refine W_region (by kernel_rfl) <| nM (e 6) rfl<|nP R_add H fun t38 H=> nS t38 rfl<|vl_e ?_; exact ⟨H, hq1⟩
     refine WPc_block <| sR <| nM (e 0) rfl<|nT TF_91_3 T1_89 H fun _ _ _ H=> nP R_nil H fun _ H=> nL T1_92 H fun _ H=> nM (e 6) rfl<|nP (R_idx TE_92) H fun _ H=> nL T1_80 H fun _ H=> nM (e 1) rfl<|vl_n <| H_call HB_60 H fun t49 h H=> nS t49 rfl ?_; refine vl_e <| W_region (by kernel_rfl) <| nM t49 rfl<|nM (e 0) rfl<|nT TF_91_2 T1_88 H fun _ _ _ H=> nM (e 6) rfl<|nP (R_idx TE_88) H fun _ H=> nP (R_fld TF_82_1) H fun _ H=> nL T1_3 H fun _ H=> vl_n <| H_mkSl TZ_25 (by decide) rfl H rfl fun _ h H=> vl_n <| H_app TZ_25 TU_25 H fun t60 h H=> nS t60 rfl ?_; refine vl_e ?_; exact ⟨H, hq1⟩
   refine sR <| nM (e1 6) rfl<|nM (e1 0) rfl<|nT TF_91_2 T1_88 H fun _ _ _ H=> nP (R_len Tryz.underlying88) H fun _ H=> nP R_lss H fun _ H=> vl_e ?_; refine cI H (fun H=> ?_) fun H=> ?_
   · refine WPc_skip ?_
     exact ⟨H, rfl⟩
   · refine WPc_exit ?_
     exact H
 refine sR <| nM a0 rfl<|vl_n <| H_call HB_44 H fun _ h H=> vl_e ?_; refine cI H (fun H=> ?_) fun H=> ?_
 · refine WPc_seq (fun e h=> z0p_.j6 (e 1) h Q) ?_ (fun e h H=> ?_)
   rotate_left
   · unfold z0p_.j6 at H
     exact sR <| nM (e 1) rfl<|nS (e 1) rfl<|vl_e <| WPc_ret <| resH_of rfl<|H
   refine sR <| nS (.int .i64 0) rfl<|vl_e <| WPc_block ?_; refine loop_at (fun e=> [e 1, e 5]) (fun e=> [e 0]) H rfl rfl ?_; intro K1 e1 h H hin1
   replace H : z0p_.l7.b (e1 0) (e1 1) (e1 5) h K1 Q := H
   unfold z0p_.l7.b at H; clear hin1; refine WPc_seq (fun e h=> z0p_.j8 (e 0) (e 1) (e 5) h K1 Q ∧ [e1 0] = [e 0]) ?_ (fun e h ⟨H, hq1⟩=> ?_)
   rotate_left
   · unfold z0p_.j8 at H
     refine WPc_seq (fun e h=> z0p_.j9 (e 0) (e 1) (e 5) h K1 Q ∧ [e1 0] = [e 0]) ?_ (fun e h ⟨H, hq1⟩=> ?_)
     rotate_left
     · unfold z0p_.j9 at H
       refine W_region (by kernel_rfl) <| nM (e 5) rfl<|nP R_add H fun t17 H=> nS t17 rfl<|vl_e ?_; exact ⟨H, hq1⟩
     refine WPc_block <| W_region (by kernel_rfl) <| nM (e 1) rfl<|nM (e 0) rfl<|nT TF_91_2 T1_88 H fun _ _ _ H=> nM (e 5) rfl<|nP (R_idx TE_88) H fun _ H=> nP (R_fld TF_82_1) H fun _ H=> nL T1_3 H fun _ H=> vl_n <| H_mkSl TZ_25 (by decide) rfl H rfl fun _ h H=> vl_n <| H_app TZ_25 TU_25 H fun t28 h H=> nS t28 rfl ?_; refine vl_e ?_; exact ⟨H, hq1⟩
   refine sR <| nM (e1 5) rfl<|nM (e1 0) rfl<|nT TF_91_2 T1_88 H fun _ _ _ H=> nP (R_len Tryz.underlying88) H fun _ H=> nP R_lss H fun _ H=> vl_e ?_; refine cI H (fun H=> ?_) fun H=> ?_
   · refine WPc_skip ?_
     exact ⟨H, rfl⟩
   · refine WPc_exit ?_
     exact H
 · exact WPc_skip <| H
def z1a_.j1 (s3 : Value) (h : Heap) (Q : Value → Heap → Prop) : Prop := Q s3 h
def z1a_.sh (a0 : Value) (h : Heap) (Q : Value → Heap → Prop) : Prop := z1k_.call #[a0] h fun b h=>mks 3 1 8 [(.int .i64 0)] (.int .i64 0) b h fun d h=>nilck a0 fun g=>fld 2 g fun i=>load1 i h fun j=>neNilP j fun k=>ifV k (nilck a0 fun l=>fld 2 l fun m=>load1 m h fun n=>z0p_.call #[n, d] h fun o h=>z1a_.j1 o h Q) (z1a_.j1 d h Q)
theorem z1a_.body (a0 : Value) (h : Heap) (Q : Value → Heap → Prop) (H : z1a_.sh a0 h Q) : z1a_.call #[a0] h Q := by
 refine callsH_of (args := [a0]) Tryz.func37 rfl rfl ?_; unfold z1a_.sh at H; refine sR <| nS (.slice none 0 0) rfl<|vl_e <| sR <| nM a0 rfl<|vl_n <| H_call HB_59 H fun _ h H=> vl_n <| H_mks TZ_25 rfl H fun t6 h H=> nS t6 rfl<|vl_e ?_; refine WPc_seq (fun e h=> z1a_.j1 (e 3) h Q) ?_ (fun e h H=> ?_)
 rotate_left
 · unfold z1a_.j1 at H
   exact sR <| nM (e 3) rfl<|nS (e 3) rfl<|vl_e <| WPc_ret <| resH_of rfl<|H
 refine sR <| nM a0 rfl<|nT TF_84_2 T1_80 H fun _ _ _ H=> nP (R_neNilP Tryz.underlying80 rfl) H fun _ H=> vl_e ?_; refine cI H (fun H=> ?_) fun H=> ?_
 · exact W_region (by kernel_rfl) <| nM a0 rfl<|nT TF_84_2 T1_80 H fun _ _ _ H=> nM t6 rfl<|vl_n <| H_call HB_60 H fun t17 h H=> nS t17 rfl<|vl_e <| H
 · exact WPc_skip <| H
def z28_.sh (a0 a1 : Value) (h : Heap) (Q : Value → Heap → Prop) : Prop := z1u_.call #[a0, a1] h fun b h=>z1a_.call #[b] h fun d h=>Q d h
theorem z28_.body (a0 a1 : Value) (h : Heap) (Q : Value → Heap → Prop) (H : z28_.sh a0 a1 h Q) : z28_.call #[a0, a1] h Q := by
 refine callsH_of (args := [a0, a1]) Tryz.func21 rfl rfl ?_; unfold z28_.sh at H; exact sR <| nS (.slice none 0 0) rfl<|vl_e <| sR <| nM a0 rfl<|nM a1 rfl<|vl_n <| H_call HB_23 H fun _ h H=> vl_n <| H_call HB_37 H fun t8 h H=> nS t8 rfl<|vl_e <| WPc_ret <| resH_of rfl<|H
def z1x_.sh (h : Heap) (Q : Value → Heap → Prop) : Prop := buildV [(.int .i64 0), (.int .i64 0)] [(0, 1, (.int .i64 5)), (1, 1, (.int .i64 1))] fun b=>buildV [(.int .i64 0), (.int .i64 0)] [(0, 1, (.int .i64 3)), (1, 1, (.int .i64 2))] fun d=>buildV [(.int .i64 0), (.int .i64 0)] [(0, 1, (.int .i64 9)), (1, 1, (.int .i64 3))] fun g=>buildV [(.int .i64 0), (.int .i64 0)] [(0, 1, (.int .i64 3)), (1, 1, (.int .i64 4))] fun i=>buildV [(.int .i64 0), (.int .i64 0)] [(0, 1, (.int .i64 1)), (1, 1, (.int .i64 5))] fun j=>buildV [(.int .i64 0), (.int .i64 0)] [(0, 1, (.int .i64 7)), (1, 1, (.int .i64 6))] fun k=>buildV [(.int .i64 0), (.int .i64 0)] [(0, 1, (.int .i64 8)), (1, 1, (.int .i64 7))] fun l=>mkSl (if 7 * 2 = 0 then [] else zeros [(.int .i64 0), (.int .i64 0)] 7) 7 [(0 * 2, 2, b), (1 * 2, 2, d), (2 * 2, 2, g), (3 * 2, 2, i), (4 * 2, 2, j), (5 * 2, 2, k), (6 * 2, 2, l)] 31 h fun m h=>Q m h
theorem z1x_.body (h : Heap) (Q : Value → Heap → Prop) (H : z1x_.sh h Q) : z1x_.call #[] h Q := by
 refine callsH_of (args := []) Tryz.func22 rfl rfl ?_; unfold z1x_.sh at H; refine sR <| nS (.slice none 0 0) rfl<|vl_e <| sR <| nP (R_build TB_31 rfl (by decide)) H fun _ H=> nP (R_build TB_31 rfl (by decide)) H fun _ H=> nP (R_build TB_31 rfl (by decide)) H fun _ H=> nP (R_build TB_31 rfl (by decide)) H fun _ H=> nP (R_build TB_31 rfl (by decide)) H fun _ H=> nP (R_build TB_31 rfl (by decide)) H fun _ H=> nP (R_build TB_31 rfl (by decide)) H fun _ H=> vl_n <| H_mkSl TZ_29 (by decide) rfl H rfl fun t8 h H=> nS t8 rfl<|vl_e ?_; exact WPc_ret <| resH_of rfl<|H
def z22_.sh (h : Heap) (Q : Value → Heap → Prop) : Prop := z1x_.call #[] h fun b h=>slc 2 b none (some (.int .i64 3)) none fun d=>z28_.call #[(.int .i64 2), d] h fun g h=>lenV g fun i=>cmpI (fun a b=> a == b) i (.int .i64 3) fun j=>Q j h
theorem z22_.body (h : Heap) (Q : Value → Heap → Prop) (H : z22_.sh h Q) : z22_.call #[] h Q := by
 refine callsH_of (args := []) Tryz.func5 rfl rfl ?_; unfold z22_.sh at H; exact sR <| nS (.bool false) rfl<|vl_e <| sR <| vl_n <| H_call HB_22 H fun _ h H=> nP (R_slice TE_29 (by decide)) H fun _ H=> vl_n <| H_call HB_21 H fun _ h H=> nP (R_len Tryz.underlying25) H fun _ H=> nP R_eqI H fun t5 H=> nS t5 rfl<|vl_e <| WPc_ret <| resH_of rfl<|H
def z23_.sh (a0 : Value) (h : Heap) (Q : Value → Heap → Prop) : Prop := alloc [(.slice none 0 0), (.int .i64 0), (.bool false)] 27 h fun b h=>buildV [(.slice none 0 0), (.int .i64 0), (.bool false)] [(1, 1, a0), (2, 1, (.bool true))] fun d=>storeN 3 b d h fun h=>loadN 3 b h fun g=>Q g h
theorem z23_.body (a0 : Value) (h : Heap) (Q : Value → Heap → Prop) (H : z23_.sh a0 h Q) : z23_.call #[a0] h Q := by
 refine callsH_of (args := [a0]) Tryz.func6 rfl rfl ?_; unfold z23_.sh at H; exact sR <| vl_n <| H_alloc TV_27 H fun _ h H=> vl_e <| sR <| nM a0 rfl<|nP (R_build TB_27 rfl (by decide)) H fun _ H=> vl_n <| H_storeN TS_27 H fun h H=> vl_e <| WPc_ret <| resH_of rfl<|resL_N TN_27 <| loadN_imp H fun r2 H=> H
def z27_.sh (a0 a1 : Value) (h : Heap) (Q : Value → Heap → Prop) : Prop := remi a0 a1 fun b=>arith (· + ·) b a1 fun d=>remi d a1 fun g=>Q g h
theorem z27_.body (a0 a1 : Value) (h : Heap) (Q : Value → Heap → Prop) (H : z27_.sh a0 a1 h Q) : z27_.call #[a0, a1] h Q := by
 refine callsH_of (args := [a0, a1]) Tryz.func7 rfl rfl ?_; unfold z27_.sh at H; refine sR <| nS (.int .i64 0) rfl<|vl_e <| sR <| nM a0 rfl<|nM a1 rfl<|nP R_rem H fun _ H=> nM a1 rfl<|nP R_add H fun _ H=> nM a1 rfl<|nP R_rem H fun t11 H=> nS t11 rfl<|vl_e <| WPc_ret ?_; exact resH_of rfl<|H
def z1m_.j4 (s0 s1 s2 s8 s9 : Value) (h : Heap) (K1 : List Value → Heap → Prop) (Q : Value → Heap → Prop) : Prop := nilck s8 fun b=>fld 3 b fun d=>load1 d h fun g=>nilck g fun i=>load1 i h fun j=>idx 1 j s9 fun k=>z0t_.call #[s0, k, s2] h fun l h=>K1 [l] h
def z1m_.j3 (s0 s1 s2 s8 s9 : Value) (h : Heap) (K1 : List Value → Heap → Prop) (Q : Value → Heap → Prop) : Prop := z0q_.call #[s8] h fun b h=>ifV b (nilck s0 fun d=>fld 4 d fun g=>fld 0 g fun i=>load1 i h fun j=>Q (.tuple #[j, (.bool false)]) h) (z1m_.j4 s0 s1 s2 s8 s9 h K1 Q)
def z1m_.l2.b (c0 c1 c2 s8 : Value) (h : Heap) (K1 : List Value → Heap → Prop) (Q : Value → Heap → Prop) : Prop := z14_.call #[c0, s8, c1] h fun b h=>extr 0 b fun d=>extr 1 b fun g=>ifV g (nilck s8 fun i=>fld 2 i fun j=>load1 j h fun k=>idx 2 k d fun l=>fld 0 l fun m=>load1 m h fun n=>Q (.tuple #[n, (.bool true)]) h) (z1m_.j3 c0 c1 c2 s8 d h K1 Q)
def z1m_.j1 (s0 s1 s2 : Value) (h : Heap) (Q : Value → Heap → Prop) : Prop := nilck s0 fun b=>fld 2 b fun d=>z0t_.call #[s0, d, s2] h fun g h=>loopC (fun c s h K1=> z1m_.l2.b (c.getD 0 undef) (c.getD 1 undef) (c.getD 2 undef) (s.getD 0 undef) h K1 Q) [s0, s1, s2] [g] h
def z1m_.sh (a0 a1 a2 : Value) (h : Heap) (Q : Value → Heap → Prop) : Prop := nilck a0 fun b=>fld 2 b fun d=>load1 d h fun g=>eqNilP g fun i=>ifV i (nilck a0 fun j=>fld 4 j fun k=>fld 0 k fun l=>load1 l h fun m=>Q (.tuple #[m, (.bool false)]) h) (z1m_.j1 a0 a1 a2 h Q)
theorem z1m_.body (a0 a1 a2 : Value) (h : Heap) (Q : Value → Heap → Prop) (H : z1m_.sh a0 a1 a2 h Q) : z1m_.call #[a0, a1, a2] h Q := by
 refine callsH_of (args := [a0, a1, a2]) Tryz.func39 rfl rfl ?_; unfold z1m_.sh at H; refine sR <| nS (.int .i64 0) rfl<|nS (.bool false) rfl<|vl_e ?_; refine WPc_seq (fun e h=> z1m_.j1 (e 0) (e 1) (e 2) h Q) ?_ (fun e h H=> ?_)
 rotate_left
 · unfold z1m_.j1 at H
   refine sR <| nM (e 0) rfl<|nM (e 0) rfl<|nB TF_84_2 H fun _ _ H=> nM (e 2) rfl<|vl_n <| H_call HB_61 H fun t26 h H=> nS t26 rfl<|vl_e <| WPc_block ?_; refine loop_at (fun e=> [e 8]) (fun e=> [e 0, e 1, e 2]) H rfl rfl ?_; intro K1 e1 h H hin1
   replace H : z1m_.l2.b (e1 0) (e1 1) (e1 2) (e1 8) h K1 Q := H
   unfold z1m_.l2.b at H; clear hin1; refine WPc_block <| sR <| nM (e1 0) rfl<|nM (e1 8) rfl<|nM (e1 1) rfl<|vl_n <| H_call HB_62 H fun t31 h H=> nM t31 rfl<|nP R_ext H fun t32 H=> nP R_ext H fun t33 H=> nS t32 rfl<|nS t33 rfl<|vl_e ?_; refine WPc_seq (fun e h=> z1m_.j3 (e 0) (e 1) (e 2) (e 8) (e 9) h K1 Q ∧ [e1 0, e1 1, e1 2] = [e 0, e 1, e 2]) ?_ (fun e h ⟨H, hq1⟩=> ?_)
   rotate_left
   · unfold z1m_.j3 at H
     refine WPc_seq (fun e h=> z1m_.j4 (e 0) (e 1) (e 2) (e 8) (e 9) h K1 Q ∧ [e1 0, e1 1, e1 2] = [e 0, e 1, e 2]) ?_ (fun e h ⟨H, hq1⟩=> ?_)
     rotate_left
     · unfold z1m_.j4 at H
       refine W_region (by kernel_rfl) <| nM (e 0) rfl<|nM (e 8) rfl<|nT TF_91_3 T1_89 H fun _ _ _ H=> nP R_nil H fun _ H=> nL T1_92 H fun _ H=> nM (e 9) rfl<|nP (R_idx TE_92) H fun _ H=> nM (e 2) rfl<|vl_n <| H_call HB_61 H fun t60 h H=> nS t60 rfl<|vl_e ?_; exact ⟨H, hq1⟩
     refine sR <| nM (e 8) rfl<|vl_n <| H_call HB_44 H fun _ h H=> vl_e ?_; refine cI H (fun H=> ?_) fun H=> ?_
     · exact sR <| nM (e 0) rfl<|nB TF_84_4 H fun _ _ H=> nP (R_fld TF_82_0) H fun _ H=> nL T1_3 H fun t49 H=> nS t49 rfl<|nS (.bool false) rfl<|vl_e <| WPc_ret <| resH_of rfl<|H
     · refine WPc_skip ?_
       exact ⟨H, hq1⟩
   refine sR <| nM t33 rfl<|vl_e ?_; refine cI H (fun H=> ?_) fun H=> ?_
   · exact sR <| nM (e1 8) rfl<|nT TF_91_2 T1_88 H fun _ _ _ H=> nM t32 rfl<|nP (R_idx TE_88) H fun _ H=> nP (R_fld TF_82_0) H fun _ H=> nL T1_3 H fun t42 H=> nS t42 rfl<|nS (.bool true) rfl<|vl_e <| WPc_ret <| resH_of rfl<|H
   · refine WPc_skip ?_
     exact ⟨H, rfl⟩
 refine sR <| nM a0 rfl<|nT TF_84_2 T1_80 H fun _ _ _ H=> nP (R_eqNilP Tryz.underlying80 rfl) H fun _ H=> vl_e ?_; refine cI H (fun H=> ?_) fun H=> ?_
 · exact sR <| nM a0 rfl<|nB TF_84_4 H fun _ _ H=> nP (R_fld TF_82_0) H fun _ H=> nL T1_3 H fun t20 H=> nS t20 rfl<|nS (.bool false) rfl<|vl_e <| WPc_ret <| resH_of rfl<|H
 · exact WPc_skip <| H
def z1j_.sh (a0 a1 : Value) (h : Heap) (Q : Value → Heap → Prop) : Prop := z1m_.call #[a0, a1, (.bool false)] h fun b h=>extr 0 b fun d=>extr 1 b fun g=>Q (.tuple #[d, g]) h
theorem z1j_.body (a0 a1 : Value) (h : Heap) (Q : Value → Heap → Prop) (H : z1j_.sh a0 a1 h Q) : z1j_.call #[a0, a1] h Q := by
 refine callsH_of (args := [a0, a1]) Tryz.func24 rfl rfl ?_; unfold z1j_.sh at H; refine sR <| nS (.int .i64 0) rfl<|nS (.bool false) rfl<|vl_e <| sR <| nM a0 rfl<|nM a1 rfl<|vl_n <| H_call HB_39 H fun _ h H=> nP R_ext H fun t9 H=> nP R_ext H fun t10 H=> nS t9 rfl<|nS t10 rfl<|vl_e <| WPc_ret ?_; exact resH_of rfl<|H
def z29_.j1 (s2 s4 : Value) (h : Heap) (Q : Value → Heap → Prop) : Prop := loadN 2 s2 h fun b=>buildV [(.int .i64 0), (.int .i64 0), (.bool false)] [(0, 2, b), (2, 1, (.bool true))] fun d=>storeN 3 s4 d h fun h=>loadN 3 s4 h fun g=>Q g h
def z29_.sh (a0 a1 : Value) (h : Heap) (Q : Value → Heap → Prop) : Prop := box 31 a0 h fun b h=>alloc [(.int .i64 0), (.int .i64 0), (.bool false)] 38 h fun d h=>notV a1 fun g=>ifV g (buildV [(.int .i64 0), (.int .i64 0), (.bool false)] [] fun i=>storeN 3 d i h fun h=>loadN 3 d h fun j=>Q j h) (z29_.j1 b d h Q)
theorem z29_.body (a0 a1 : Value) (h : Heap) (Q : Value → Heap → Prop) (H : z29_.sh a0 a1 h Q) : z29_.call #[a0, a1] h Q := by
 refine callsH_of (args := [a0, a1]) Tryz.func40 rfl rfl ?_; unfold z29_.sh at H; refine sR <| vl_n <| H_box H fun _ h H=> vl_n <| H_alloc TV_38 H fun _ h H=> vl_e ?_; refine WPc_seq (fun e h=> z29_.j1 (e 2) (e 4) h Q) ?_ (fun e h H=> ?_)
 rotate_left
 · unfold z29_.j1 at H
   exact sR <| nLN TN_31 H fun _ H=> nP (R_build TB_38 rfl (by decide)) H fun _ H=> vl_n <| H_storeN TS_38 H fun h H=> vl_e <| WPc_ret <| resH_of rfl<|resL_N TN_38 <| loadN_imp H fun r4 H=> H
 refine sR <| nM a1 rfl<|nP R_not H fun _ H=> vl_e ?_; refine cI H (fun H=> ?_) fun H=> ?_
 · exact sR <| nP (R_build TB_38 rfl (by decide)) H fun _ H=> vl_n <| H_storeN TS_38 H fun h H=> vl_e <| WPc_ret <| resH_of rfl<|resL_N TN_38 <| loadN_imp H fun r4 H=> H
 · exact WPc_skip <| H
def z2g_.sh (a0 a1 a2 : Value) (h : Heap) (Q : Value → Heap → Prop) : Prop := alloc [(.int .i64 0), (.int .i64 0), (.bool false)] 38 h fun b h=>buildV [(.int .i64 0), (.int .i64 0)] [(0, 1, a0), (1, 1, a1)] fun d=>z29_.call #[d, a2] h fun g h=>storeN 3 b g h fun h=>loadN 3 b h fun i=>Q i h
theorem z2g_.body (a0 a1 a2 : Value) (h : Heap) (Q : Value → Heap → Prop) (H : z2g_.sh a0 a1 a2 h Q) : z2g_.call #[a0, a1, a2] h Q := by
 refine callsH_of (args := [a0, a1, a2]) Tryz.func25 rfl rfl ?_; unfold z2g_.sh at H; refine sR <| vl_n <| H_alloc TV_38 H fun _ h H=> vl_e <| sR <| nM a0 rfl<|nM a1 rfl<|nP (R_build TB_31 rfl (by decide)) H fun _ H=> nM a2 rfl<|vl_n <| H_call HB_40 H fun _ h H=> vl_n <| H_storeN TS_38 H fun h H=> vl_e <| WPc_ret <| resH_of rfl<|resL_N TN_38 ?_; exact loadN_imp H fun r6 H=> H
def z2d_.j1 (s8 : Value) (h : Heap) (Q : Value → Heap → Prop) : Prop := Q s8 h
def z2d_.j4 (s7 s8 s16 s17 s18 : Value) (h : Heap) (K1 : List Value → Heap → Prop) (Q : Value → Heap → Prop) : Prop := arith (· + ·) s18 (.int .i64 1) fun b=>K1 [s8, b] h
def z2d_.j3 (s7 s8 s16 s17 s18 : Value) (h : Heap) (K1 : List Value → Heap → Prop) (Q : Value → Heap → Prop) : Prop := idx 1 s16 s18 fun b=>load1 b h fun d=>z1j_.call #[s7, d] h fun g h=>extr 0 g fun i=>extr 1 g fun j=>z2g_.call #[d, i, j] h fun k h=>mkSl (if 1 * 3 = 0 then [] else zeros [(.int .i64 0), (.int .i64 0), (.bool false)] 1) 1 [(0 * 3, 3, k)] 38 h fun l h=>app 38 3 24 [(.int .i64 0), (.int .i64 0), (.bool false)] s8 l h fun m h=>z2d_.j4 s7 m s16 s17 s18 h K1 Q
def z2d_.l2.b (c7 c16 c17 s8 s18 : Value) (h : Heap) (K1 : List Value → Heap → Prop) (Q : Value → Heap → Prop) : Prop := cmpI (fun a b=> decide (a < b)) s18 c17 fun b=>ifV b (z2d_.j3 c7 s8 c16 c17 s18 h K1 Q) (z2d_.j1 s8 h Q)
def z2d_.sh (a0 a1 a2 : Value) (h : Heap) (Q : Value → Heap → Prop) : Prop := z1u_.call #[a0, a1] h fun b h=>lenV a2 fun d=>loopC (fun c s h K1=> z2d_.l2.b (c.getD 0 undef) (c.getD 1 undef) (c.getD 2 undef) (s.getD 0 undef) (s.getD 1 undef) h K1 Q) [b, a2, d] [(.slice none 0 0), (.int .i64 0)] h
theorem z2d_.body (a0 a1 a2 : Value) (h : Heap) (Q : Value → Heap → Prop) (H : z2d_.sh a0 a1 a2 h Q) : z2d_.call #[a0, a1, a2] h Q := by
 refine callsH_of (args := [a0, a1, a2]) Tryz.func8 rfl rfl ?_; unfold z2d_.sh at H; refine sR <| nS (.slice none 0 0) rfl<|vl_e <| sR <| nM a0 rfl<|nM a1 rfl<|vl_n <| H_call HB_23 H fun t15 h H=> nS t15 rfl<|vl_e <| sR <| nS (.slice none 0 0) rfl<|vl_e ?_; refine WPc_seq (fun e h=> z2d_.j1 (e 8) h Q) ?_ (fun e h H=> ?_)
 rotate_left
 · unfold z2d_.j1 at H
   exact sR <| nM (e 8) rfl<|nS (e 8) rfl<|vl_e <| WPc_ret <| resH_of rfl<|H
 refine sR <| nM a2 rfl<|nP (R_len Tryz.underlying25) H fun _ H=> nM (.int .i64 0) rfl<|vl_e <| WPc_block ?_; refine loop_at (fun e=> [e 8, e 18]) (fun e=> [e 7, e 16, e 17]) H rfl rfl ?_; intro K1 e1 h H hin1
 replace H : z2d_.l2.b (e1 7) (e1 16) (e1 17) (e1 8) (e1 18) h K1 Q := H
 unfold z2d_.l2.b at H; clear hin1; refine sR <| nP R_lss H fun _ H=> vl_e ?_; refine WPc_seq (fun e h=> z2d_.j3 (e 7) (e 8) (e 16) (e 17) (e 18) h K1 Q ∧ [e1 7, e1 16, e1 17] = [e 7, e 16, e 17]) ?_ (fun e h ⟨H, hq1⟩=> ?_)
 rotate_left
 · unfold z2d_.j3 at H
   refine WPc_seq (fun e h=> z2d_.j4 (e 7) (e 8) (e 16) (e 17) (e 18) h K1 Q ∧ [e1 7, e1 16, e1 17] = [e 7, e 16, e 17]) ?_ (fun e h ⟨H, hq1⟩=> ?_)
   rotate_left
   · unfold z2d_.j4 at H
     refine W_region (by kernel_rfl) <| nP R_add H fun t35 H=> nM t35 rfl<|vl_e ?_; exact ⟨H, hq1⟩
   refine WPc_block <| sR <| nP (R_idx TE_25) H fun _ H=> nL T1_3 H fun t21 H=> nS t21 rfl<|vl_e <| sR <| nM (e 7) rfl<|nM t21 rfl<|vl_n <| H_call HB_24 H fun t25 h H=> nM t25 rfl<|nP R_ext H fun t26 H=> nP R_ext H fun t27 H=> nS t26 rfl ?_; refine nS t27 rfl<|vl_e <| W_region (by kernel_rfl) <| nM (e 8) rfl<|nM t21 rfl<|nM t26 rfl<|nM t27 rfl<|vl_n <| H_call HB_25 H fun _ h H=> vl_n <| H_mkSl TZ_35 (by decide) rfl H rfl fun _ h H=> vl_n <| H_app TZ_35 TU_35 H fun t34 h H=> nS t34 rfl<|vl_e ?_; exact ⟨H, hq1⟩
 refine cI H (fun H=> ?_) fun H=> ?_
 · refine WPc_skip ?_
   exact ⟨H, rfl⟩
 · refine WPc_exit ?_
   exact H
def z10_.j1 (s0 s1 : Value) (h : Heap) (Q : Value → Heap → Prop) : Prop := z0w_.call #[s1] h fun b h=>extr 0 b fun d=>extr 1 b fun g=>nilck s0 fun i=>fld 10 i fun j=>store1 j d h fun h=>nilck s0 fun k=>fld 9 k fun l=>store1 l g h fun h=>nilck s0 fun m=>fld 7 m fun n=>loadN 2 n h fun o=>extr 0 (.tuple #[.nilIface, .bool false]) fun p=>extr 1 (.tuple #[.nilIface, .bool false]) fun q=>nilck s0 fun u=>fld 4 u fun v=>store1 v q h fun h=>nilck s0 fun w=>fld 4 w fun x=>load1 x h fun y=>notV y fun z=>ifV z (nilck s0 fun b0=>fld 7 b0 fun b1=>loadN 2 b1 h fun b2=>extr 0 (.tuple #[.nilIface, .bool false]) fun b3=>extr 1 (.tuple #[.nilIface, .bool false]) fun b4=>nilck s0 fun b5=>fld 5 b5 fun b6=>store1 b6 b4 h fun h=>Q (.tuple #[]) h) (Q (.tuple #[]) h)
def z10_.sh (a0 a1 : Value) (h : Heap) (Q : Value → Heap → Prop) : Prop := nilck a0 fun b=>fld 10 b fun d=>load1 d h fun g=>cmpI (fun a b=> a != b) g (.int .i64 0) fun i=>ifV i (Q (.tuple #[]) h) (z10_.j1 a0 a1 h Q)
theorem z10_.body (a0 a1 : Value) (h : Heap) (Q : Value → Heap → Prop) (H : z10_.sh a0 a1 h Q) : z10_.call #[a0, a1] h Q := by
 refine callsH_of (args := [a0, a1]) Tryz.func71 rfl rfl ?_; unfold z10_.sh at H; refine WPc_seq (fun e h=> z10_.j1 (e 0) (e 1) h Q) ?_ (fun e h H=> ?_)
 rotate_left
 · unfold z10_.j1 at H
   refine sR <| nM (e 0) rfl<|nM (e 0) rfl<|nM (e 1) rfl<|vl_n <| H_call HB_68 H fun t13 h H=> nM t13 rfl<|nP R_ext H fun _ H=> nP R_ext H fun _ H=> nB TF_128_9 H fun _ _ H=> vl_n <| H_store1 TS_3 H fun h H=> nB TF_128_8 H fun _ _ H=> vl_n <| H_store1 TS_3 H fun h H=> ?_; refine vl_e <| sR <| nM (e 0) rfl<|nM (e 0) rfl<|nB TF_128_7 H fun _ _ H=> nLN TN_31 H fun _ H=> nA (R_mkI Tryz.underlying31 (by intro k hk; cases hk)) <| nA (R_ta (t := 31) Tryz.underlying139 Tryz.type31 (missing_some rfl) Tryz.type139 rfl rfl) <| nM (.tuple #[.nilIface, .bool false]) rfl<|nP R_ext H fun _ H=> nP R_ext H fun _ H=> nB TF_128_4 H fun _ _ H=> ?_; refine vl_n <| H_store1 TS_4 H fun h H=> vl_e <| sR <| nM (e 0) rfl<|nT TF_128_4 T1_4 H fun _ _ _ H=> nP R_not H fun _ H=> vl_e ?_; refine cI H (fun H=> ?_) fun H=> ?_
   · refine W_region (by kernel_rfl) <| nM (e 0) rfl<|nM (e 0) rfl<|nB TF_128_7 H fun _ _ H=> nLN TN_31 H fun _ H=> nA (R_mkI Tryz.underlying31 (by intro k hk; cases hk)) <| nA (R_ta (t := 31) Tryz.underlying142 Tryz.type31 (missing_some rfl) Tryz.type142 rfl rfl) <| nM (.tuple #[.nilIface, .bool false]) rfl<|nP R_ext H fun _ H=> nP R_ext H fun _ H=> nB TF_128_5 H fun _ _ H=> vl_n <| H_store1 TS_4 H fun h H=> ?_
     exact vl_e <| resH_of rfl<|H
   · exact WPc_skip <| resH_of rfl<|H
 refine sR <| nM a0 rfl<|nT TF_128_9 T1_3 H fun _ _ _ H=> nP R_neI H fun _ H=> vl_e ?_; refine cI H (fun H=> ?_) fun H=> ?_
 · exact WPc_ret <| resH_of rfl<|H
 · exact WPc_skip <| H
def z1i_.sh (a0 : Value) (h : Heap) (Q : Value → Heap → Prop) : Prop := nilck a0 fun b=>fld 3 b fun d=>load1 d h fun g=>eqNilP g fun i=>Q i h
theorem z1i_.body (a0 : Value) (h : Heap) (Q : Value → Heap → Prop) (H : z1i_.sh a0 h Q) : z1i_.call #[a0] h Q := by
 refine callsH_of (args := [a0]) Tryz.func87 rfl rfl ?_; unfold z1i_.sh at H; exact sR <| nS (.bool false) rfl<|vl_e <| sR <| nM a0 rfl<|nT TF_149_3 T1_147 H fun _ _ _ H=> nP (R_eqNilP Tryz.underlying147 rfl) H fun t7 H=> nS t7 rfl<|vl_e <| WPc_ret <| resH_of rfl<|H
def z0f_.j1 (s1 : Value) (h : Heap) (Q : Value → Heap → Prop) : Prop := nilck s1 fun b=>load1 b h fun d=>Q d h
def z0f_.sh (a0 a1 a2 : Value) (h : Heap) (Q : Value → Heap → Prop) : Prop := br a2 true (nilck a1 fun b=>load1 b h fun d=>nilck d fun g=>fld 0 g fun i=>load1 i h fun j=>nilck a0 fun k=>fld 0 k fun l=>load1 l h fun m=>cmpI (fun a b=> a != b) j m fun n=>ifV n (nilck a1 fun o=>load1 o h fun p=>z0y_.call #[a0, p] h fun q h=>nilck a1 fun u=>store1 u q h fun h=>z0f_.j1 a1 h Q) (z0f_.j1 a1 h Q)) (z0f_.j1 a1 h Q)
theorem z0f_.body (a0 a1 a2 : Value) (h : Heap) (Q : Value → Heap → Prop) (H : z0f_.sh a0 a1 a2 h Q) : z0f_.call #[a0, a1, a2] h Q := by
 refine callsH_of (args := [a0, a1, a2]) Tryz.func85 rfl rfl ?_; unfold z0f_.sh at H; refine sR <| nS (.pointer none) rfl<|vl_e ?_; refine WPc_seq (fun e h=> z0f_.j1 (e 1) h Q) ?_ (fun e h H=> ?_)
 rotate_left
 · unfold z0f_.j1 at H
   exact sR <| nM (e 1) rfl<|nP R_nil H fun _ H=> nL T1_126 H fun t30 H=> nS t30 rfl<|vl_e <| WPc_ret <| resH_of rfl<|H
 refine WPc_seq' <| W_drawn [0,1,3,7,15,31,63,127,3,259,771,1795,4095,8191] (Tk 0<|Tk 1<|Tk 2<|Tk 3<|Tk 4<|Tk 5<|Tk 6<|Tk 7<|Tk 8<|Tk 9<|Tk 10<|Tk 11<|Tk 12<|Tk 13 .done) mixed (by kernel_rfl) <| pM a2 rfl rfl<|pM a2 rfl rfl ?_; obtain ⟨b, hb, H1, H2⟩ := H
 cases b
 · have H := H2 rfl
   clear H1 H2; refine tk_s rfl rfl (nbT hb) ?_; refine tk_s rfl rfl (nbT hb) ?_; refine tk_s rfl rfl (nbT hb) ?_; refine tk_s rfl rfl (nbT hb) ?_; refine tk_s rfl rfl (nbT hb) ?_; refine tk_s rfl rfl (nbT hb) ?_; refine tk_s rfl rfl (nbT hb) ?_; refine tk_s rfl rfl (nbT hb) ?_; refine tk_s rfl rfl (nbT hb) ?_; refine tk_s rfl rfl (nbT hb) ?_; refine tk_s rfl rfl (nbT hb) ?_; refine pA rfl (R_pickC (v := (.bool false)) false hb rfl) <| vp_done ?_; refine WPc_cond (t := false) rfl (fun hh=> by cases hh) (fun _=> ?_)
   exact WPc_skip <| H
 · have H := H1 rfl
   clear H1 H2; refine tkPy rfl rfl hb ?_; refine R_move (v := a1) rfl ⟨fun _=> trivial, ?_⟩
   refine tkPy rfl rfl hb ?_; refine R_nil H fun _ H=> ⟨fun _=> trivial, ?_⟩
   refine tkLy rfl rfl hb ?_; refine R_load1 T1_126 H fun _ _ _ _ H=> ?_; refine tkPy rfl rfl hb ?_; refine R_nil H fun _ H=> ⟨fun _=> trivial, ?_⟩
   refine tkPy rfl rfl hb ?_; refine R_fld TF_149_0 H fun _ H=> ⟨fun _=> trivial, ?_⟩
   refine tkLy rfl rfl hb ?_; refine R_load1 T1_78 H fun _ _ _ _ H=> ?_; refine tkPy rfl rfl hb ?_; refine R_move (v := a0) rfl ⟨fun _=> trivial, ?_⟩
   refine tkPy rfl rfl hb ?_; refine R_nil H fun _ H=> ⟨fun _=> trivial, ?_⟩
   refine tkPy rfl rfl hb ?_; refine R_fld TF_128_0 H fun _ H=> ⟨fun _=> trivial, ?_⟩
   refine tkLy rfl rfl hb ?_; refine R_load1 T1_78 H fun _ _ _ _ H=> ?_; refine tkPy rfl rfl hb ?_; refine R_neI H fun t19 H=> ⟨fun _=> trivial, ?_⟩
   refine pA rfl (R_pickC (v := t19) true hb rfl) <| vp_done ?_; refine cI H (fun H=> ?_) fun H=> ?_
   · exact W_region (by kernel_rfl) <| nM a1 rfl<|nM a0 rfl<|nM a1 rfl<|nP R_nil H fun _ H=> nL T1_126 H fun _ H=> vl_n <| H_call HB_94 H fun _ h H=> nP R_nil H fun _ H=> vl_n <| H_store1 TS_126 H fun h H=> vl_e <| H
   · exact WPc_skip <| H
def z0g_.j1 (s5 : Value) (h : Heap) (Q : Value → Heap → Prop) : Prop := Q s5 h
def z0g_.sh (a0 a1 : Value) (h : Heap) (Q : Value → Heap → Prop) : Prop := nilck a0 fun b=>fld 0 b fun d=>load1 d h fun g=>buildV [(.int .u64 0), (.int .i64 0), (.slice none 0 0), (.pointer none)] [(0, 1, g)] fun i=>box 149 i h fun j h=>notV a1 fun k=>ifV k (alloc [(.slice none 0 0)] 146 h fun l h=>nilck j fun m=>fld 3 m fun n=>store1 n l h fun h=>z0g_.j1 j h Q) (z0g_.j1 j h Q)
theorem z0g_.body (a0 a1 : Value) (h : Heap) (Q : Value → Heap → Prop) (H : z0g_.sh a0 a1 h Q) : z0g_.call #[a0, a1] h Q := by
 refine callsH_of (args := [a0, a1]) Tryz.func90 rfl rfl ?_; unfold z0g_.sh at H; refine sR <| nS (.pointer none) rfl<|vl_e <| sR <| nM a0 rfl<|nT TF_128_0 T1_78 H fun _ _ _ H=> nP (R_build TB_149 rfl (by decide)) H fun _ H=> vl_n <| H_box H fun t11 h H=> nS t11 rfl<|vl_e ?_; refine WPc_seq (fun e h=> z0g_.j1 (e 5) h Q) ?_ (fun e h H=> ?_)
 rotate_left
 · unfold z0g_.j1 at H
   exact sR <| nM (e 5) rfl<|nS (e 5) rfl<|vl_e <| WPc_ret <| resH_of rfl<|H
 refine sR <| nM a1 rfl<|nP R_not H fun _ H=> vl_e ?_; refine cI H (fun H=> ?_) fun H=> ?_
 · exact W_region (by kernel_rfl) <| nM t11 rfl<|vl_n <| H_alloc TV_146 H fun _ h H=> nB TF_149_3 H fun _ _ H=> vl_n <| H_store1 TS_147 H fun h H=> vl_e <| H
 · exact WPc_skip <| H
def z0a_.j3 (s0 s2 : Value) (h : Heap) (K1 : List Value → Heap → Prop) (Q : Value → Heap → Prop) : Prop := arith (· + ·) s2 (.int .i64 1) fun b=>K1 [b] h
def z0a_.j2 (s0 s2 : Value) (h : Heap) (K1 : List Value → Heap → Prop) (Q : Value → Heap → Prop) : Prop := nilck s0 fun b=>fld 1 b fun d=>load1 d h fun g=>nilck s0 fun i=>fld 3 i fun j=>load1 j h fun k=>nilck k fun l=>load1 l h fun m=>idx 1 m s2 fun n=>load1 n h fun o=>nilck o fun p=>fld 1 p fun q=>load1 q h fun u=>arith (· + ·) g u fun v=>nilck s0 fun w=>fld 1 w fun x=>store1 x v h fun h=>z0a_.j3 s0 s2 h K1 Q
def z0a_.l1.b (c0 s2 : Value) (h : Heap) (K1 : List Value → Heap → Prop) (Q : Value → Heap → Prop) : Prop := nilck c0 fun b=>fld 3 b fun d=>load1 d h fun g=>nilck g fun i=>load1 i h fun j=>lenV j fun k=>cmpI (fun a b=> decide (a < b)) s2 k fun l=>ifV l (z0a_.j2 c0 s2 h K1 Q) (Q (.tuple #[]) h)
def z0a_.sh (a0 : Value) (h : Heap) (Q : Value → Heap → Prop) : Prop := nilck a0 fun b=>fld 2 b fun d=>load1 d h fun g=>lenV g fun i=>nilck a0 fun j=>fld 1 j fun k=>store1 k i h fun h=>z1i_.call #[a0] h fun l h=>notV l fun m=>ifV m (loopC (fun c s h K1=> z0a_.l1.b (c.getD 0 undef) (s.getD 0 undef) h K1 Q) [a0] [(.int .i64 0)] h) (Q (.tuple #[]) h)
theorem z0a_.body (a0 : Value) (h : Heap) (Q : Value → Heap → Prop) (H : z0a_.sh a0 h Q) : z0a_.call #[a0] h Q := by
 refine callsH_of (args := [a0]) Tryz.func93 rfl rfl ?_; unfold z0a_.sh at H; refine sR <| nM a0 rfl<|nM a0 rfl<|nT TF_149_2 T1_29 H fun _ _ _ H=> nP (R_len Tryz.underlying29) H fun _ H=> nB TF_149_1 H fun _ _ H=> vl_n <| H_store1 TS_3 H fun h H=> vl_e <| sR <| nM a0 rfl<|vl_n <| H_call HB_87 H fun _ h H=> ?_; refine nP R_not H fun _ H=> vl_e ?_; refine cI H (fun H=> ?_) fun H=> ?_
 · refine sR <| nS (.int .i64 0) rfl<|vl_e <| WPc_block ?_
   refine loop_at (fun e=> [e 2]) (fun e=> [e 0]) H rfl rfl ?_; intro K1 e1 h H hin1
   replace H : z0a_.l1.b (e1 0) (e1 2) h K1 Q := H
   unfold z0a_.l1.b at H; clear hin1; refine WPc_seq (fun e h=> z0a_.j2 (e 0) (e 2) h K1 Q ∧ [e1 0] = [e 0]) ?_ (fun e h ⟨H, hq1⟩=> ?_)
   rotate_left
   · unfold z0a_.j2 at H
     refine WPc_seq (fun e h=> z0a_.j3 (e 0) (e 2) h K1 Q ∧ [e1 0] = [e 0]) ?_ (fun e h ⟨H, hq1⟩=> ?_)
     rotate_left
     · unfold z0a_.j3 at H
       refine W_region (by kernel_rfl) <| nM (e 2) rfl<|nP R_add H fun t24 H=> nS t24 rfl<|vl_e ?_; exact ⟨H, hq1⟩
     refine WPc_block <| W_drawn [0,1,3,7,0,16,48,112,240,496,0,2032,4080,8176,16368,32752,65535,131071,262143,524287] (Tk 0<|Tk 1<|Tk 2<|Tk 3<|Tk 4<|Tk 5<|Tk 6<|Tk 7<|Tk 8<|Tk 9<|Tk 10<|Tk 11<|Tk 12<|Tk 13<|Tk 14<|Tk 15<|Tk 16<|Tk 17<|Tk 18<|Al 19 .done) mixed (by kernel_rfl) <| pM (e 0) rfl rfl<|pT rfl rfl rfl TF_149_1 T1_3 H fun _ _ _ _ _ H=> pM (e 0) rfl rfl<|pT rfl rfl rfl TF_149_3 T1_147 H fun _ _ _ _ _ H=> pP rfl R_nil H fun _ H=> pL rfl T1_146 H fun _ _ _ H=> pM (e 2) rfl rfl<|pP rfl (R_idx TE_146) H fun _ H=> ?_; refine pL rfl T1_126 H fun _ _ _ H=> pT rfl rfl rfl TF_149_1 T1_3 H fun _ _ _ _ _ H=> pP rfl R_add H fun _ H=> pB rfl rfl TF_149_1 H fun _ _ H=> aE rfl<|H_store1 TS_3 H fun h H=> ⟨(hskip rfl (hskip rfl (hskip rfl (hskip rfl (hskip rfl hnil))))), vp_done ?_⟩
     exact ⟨H, hq1⟩
   refine sR <| nM (e1 2) rfl<|nM (e1 0) rfl<|nT TF_149_3 T1_147 H fun _ _ _ H=> nP R_nil H fun _ H=> nL T1_146 H fun _ H=> nP (R_len Tryz.underlying146) H fun _ H=> nP R_lss H fun _ H=> vl_e ?_; refine cI H (fun H=> ?_) fun H=> ?_
   · refine WPc_skip ?_
     exact ⟨H, rfl⟩
   · refine WPc_exit ?_
     exact resH_of rfl<|H
 · exact WPc_skip <| resH_of rfl<|H
def z08_.j2 (s1 s4 s5 : Value) (h : Heap) (Q : Value → Heap → Prop) : Prop := z0a_.call #[s1] h fun b h=>loadN 2 s5 h fun d=>storeN 2 s5 d h fun h=>loadN 2 s5 h fun g=>Q (.tuple #[s4, g]) h
def z08_.j1 (s0 s1 s4 s5 s6 : Value) (h : Heap) (Q : Value → Heap → Prop) : Prop := z0a_.call #[s4] h fun b h=>nilck s1 fun d=>fld 2 d fun g=>load1 g h fun i=>nilck s0 fun j=>fld 7 j fun k=>loadN 2 k h fun l=>idx 2 i s6 fun m=>storeN 2 m l h fun h=>nilck s1 fun n=>fld 2 n fun o=>load1 o h fun p=>slc 2 p none (some s6) (some s6) fun q=>nilck s1 fun u=>fld 2 u fun v=>store1 v q h fun h=>z1i_.call #[s1] h fun w h=>notV w fun x=>ifV x (nilck s1 fun y=>fld 3 y fun z=>load1 z h fun b0=>nilck s1 fun b1=>fld 3 b1 fun b2=>load1 b2 h fun b3=>nilck b3 fun b4=>load1 b4 h fun b5=>arith (· + ·) s6 (.int .i64 1) fun b6=>arith (· + ·) s6 (.int .i64 1) fun b7=>slc 1 b5 none (some b6) (some b7) fun b8=>nilck b0 fun b9=>store1 b9 b8 h fun h=>z08_.j2 s1 s4 s5 h Q) (z08_.j2 s1 s4 s5 h Q)
def z08_.sh (a0 a1 : Value) (h : Heap) (Q : Value → Heap → Prop) : Prop := alloc [(.int .i64 0), (.int .i64 0)] 31 h fun b h=>nilck a0 fun d=>fld 9 d fun g=>load1 g h fun i=>divi i (.int .i64 2) fun j=>nilck a1 fun k=>fld 2 k fun l=>load1 l h fun m=>idx 2 m j fun n=>loadN 2 n h fun o=>storeN 2 b o h fun h=>z1i_.call #[a1] h fun p h=>z0g_.call #[a0, p] h fun q h=>nilck a1 fun u=>fld 2 u fun v=>load1 v h fun w=>arith (· + ·) j (.int .i64 1) fun x=>slc 2 w (some x) none none fun y=>nilck q fun z=>fld 2 z fun b0=>store1 b0 y h fun h=>z1i_.call #[a1] h fun b1 h=>notV b1 fun b2=>ifV b2 (nilck q fun b3=>fld 3 b3 fun b4=>load1 b4 h fun b5=>nilck a1 fun b6=>fld 3 b6 fun b7=>load1 b7 h fun b8=>nilck b8 fun b9=>load1 b9 h fun d0=>arith (· + ·) j (.int .i64 1) fun d1=>slc 1 d0 (some d1) none none fun d2=>nilck b5 fun d3=>store1 d3 d2 h fun h=>z08_.j1 a0 a1 q b j h Q) (z08_.j1 a0 a1 q b j h Q)
theorem z08_.body (a0 a1 : Value) (h : Heap) (Q : Value → Heap → Prop) (H : z08_.sh a0 a1 h Q) : z08_.call #[a0, a1] h Q := by
 refine callsH_of (args := [a0, a1]) Tryz.func92 rfl rfl ?_; unfold z08_.sh at H; refine sR <| nS (.pointer none) rfl<|vl_n <| H_alloc TV_31 H fun _ h H=> vl_e <| sR <| nM a0 rfl<|nT TF_128_8 T1_3 H fun _ _ _ H=> nP R_quo H fun t11 H=> nS t11 rfl<|vl_e <| sR <| nM a1 rfl ?_; refine nT TF_149_2 T1_29 H fun _ _ _ H=> nM t11 rfl<|nP (R_idx TE_29) H fun _ H=> nLN TN_31 H fun _ H=> vl_n <| H_storeN TS_31 H fun h H=> vl_e <| sR <| nM a0 rfl<|nM a1 rfl<|vl_n <| H_call HB_87 H fun _ h H=> vl_n <| H_call HB_90 H fun t22 h H=> nS t22 rfl ?_; refine vl_e <| sR <| nM t22 rfl<|nM a1 rfl<|nT TF_149_2 T1_29 H fun _ _ _ H=> nM t11 rfl<|nP R_add H fun _ H=> nP (R_slice TE_29 (by decide)) H fun _ H=> nB TF_149_2 H fun _ _ H=> vl_n <| H_store1 TS_29 H fun h H=> vl_e ?_; refine WPc_seq (fun e h=> z08_.j1 (e 0) (e 1) (e 4) (e 5) (e 6) h Q) ?_ (fun e h H=> ?_)
 rotate_left
 · unfold z08_.j1 at H
   refine sR <| nM (e 4) rfl<|vl_n <| H_call HB_93 H fun _ h H=> vl_e <| WPc_seq' <| W_drawn [0,1,3,7,0,0,32,96,224,511,1023] (Tk 0<|Tk 1<|Tk 2<|Tk 3<|Tk 4<|Tk 5<|Tk 6<|Tk 7<|Tk 8<|Tk 9<|Al 10 .done) mixed (by kernel_rfl) <| pM (e 1) rfl rfl<|pT rfl rfl rfl TF_149_2 T1_29 H fun _ _ _ _ _ H=> pM (e 6) rfl rfl<|pM (e 0) rfl rfl<|pB rfl rfl TF_128_7 H fun _ _ H=> ?_; refine tkL rfl<|R_loadN TN_31 H fun _ _ _ _ H _ _=> pP rfl (R_idx TE_29) H fun _ H=> aE rfl<|H_storeN TS_31 H fun h H=> ⟨(hskip rfl (hskip rfl hnil)), vp_done <| sR <| nM (e 1) rfl<|nM (e 1) rfl<|nT TF_149_2 T1_29 H fun _ _ _ H=> nM (e 6) rfl<|nM (e 6) rfl<|nP (R_slice TE_29 (by decide)) H fun _ H=> nP R_nil H fun _ H=> ?_⟩
   refine nP (R_fld TF_149_2) H fun _ H=> vl_n <| H_store1 TS_29 H fun h H=> vl_e ?_; refine WPc_seq (fun e h=> z08_.j2 (e 1) (e 4) (e 5) h Q) ?_ (fun e h H=> ?_)
   rotate_left
   · unfold z08_.j2 at H
     refine sR <| nM (e 1) rfl<|vl_n <| H_call HB_93 H fun _ h H=> vl_e <| WPc_seq' <| W_drawn [0,0,1,7] (Tk 0<|Tk 1<|Tk 2<|Al 3 .done) mixed (by kernel_rfl) <| pM (e 4) rfl rfl<|tkL rfl<|R_loadN TN_31 H fun _ _ _ _ H _ _=> pS (e 4) rfl rfl<|aE rfl<|H_storeN TS_31 H fun h H=> ⟨(hskip rfl hnil), vp_done <| WPc_ret <| resH_of rfl<|resL_t ?_⟩
     exact resL_N TN_31 <| loadN_imp H fun r5 H=> H
   refine sR <| nM (e 1) rfl<|vl_n <| H_call HB_87 H fun _ h H=> nP R_not H fun _ H=> vl_e ?_; refine cI H (fun H=> ?_) fun H=> ?_
   · refine W_drawn [0,1,3,7,0,16,48,112,240,496,0,1024,0,4096,16368,32767,65535] (Tk 0<|Tk 1<|Tk 2<|Tk 3<|Tk 4<|Tk 5<|Tk 6<|Tk 7<|Tk 8<|Tk 9<|Tk 10<|Tk 11<|Tk 12<|Tk 13<|Tk 14<|Tk 15<|Al 16 .done) mixed (by kernel_rfl) <| pM (e 1) rfl rfl<|pT rfl rfl rfl TF_149_3 T1_147 H fun _ _ _ _ _ H=> pM (e 1) rfl rfl<|pT rfl rfl rfl TF_149_3 T1_147 H fun _ _ _ _ _ H=> pP rfl R_nil H fun _ H=> pL rfl T1_146 H fun _ _ _ H=> pM (e 6) rfl rfl<|pP rfl R_add H fun _ H=> pM (e 6) rfl rfl ?_
     exact pP rfl R_add H fun _ H=> pP rfl (R_slice TE_146 (by decide)) H fun _ H=> pP rfl R_nil H fun _ H=> aE rfl<|H_store1 TS_146 H fun h H=> ⟨(hskip rfl (hskip rfl (hskip rfl hnil))), vp_done <| H⟩
   · exact WPc_skip <| H
 refine sR <| nM a1 rfl<|vl_n <| H_call HB_87 H fun _ h H=> nP R_not H fun _ H=> vl_e ?_; refine cI H (fun H=> ?_) fun H=> ?_
 · refine W_drawn [0,1,3,7,0,16,48,112,240,496,0,1024,4080,8191,16383] (Tk 0<|Tk 1<|Tk 2<|Tk 3<|Tk 4<|Tk 5<|Tk 6<|Tk 7<|Tk 8<|Tk 9<|Tk 10<|Tk 11<|Tk 12<|Tk 13<|Al 14 .done) mixed (by kernel_rfl) <| pM t22 rfl rfl<|pT rfl rfl rfl TF_149_3 T1_147 H fun _ _ _ _ _ H=> pM a1 rfl rfl<|pT rfl rfl rfl TF_149_3 T1_147 H fun _ _ _ _ _ H=> pP rfl R_nil H fun _ H=> pL rfl T1_146 H fun _ _ _ H=> pM t11 rfl rfl<|pP rfl R_add H fun _ H=> pP rfl (R_slice TE_146 (by decide)) H fun _ H=> ?_
   exact pP rfl R_nil H fun _ H=> aE rfl<|H_store1 TS_146 H fun h H=> ⟨(hskip rfl (hskip rfl (hskip rfl hnil))), vp_done <| H⟩
 · exact WPc_skip <| H
def z0e_.j2 (s8 : Value) (h : Heap) (Q : Value → Heap → Prop) : Prop := Q (.tuple #[s8, (.bool false)]) h
def z0e_.j1 (s0 s1 s5 s8 : Value) (h : Heap) (Q : Value → Heap → Prop) : Prop := cmpI (fun a b=> decide (a > b)) s8 (.int .i64 0) fun b=>br b true (nilck s0 fun d=>fld 6 d fun g=>load1 g h fun i=>nilck s1 fun j=>fld 2 j fun k=>load1 k h fun l=>arith (· - ·) s8 (.int .i64 1) fun m=>idx 2 l m fun n=>loadN 2 n h fun o=>loadN 2 s5 h fun p=>callV Tryz.prog i #[o, p] h fun q h=>notV q fun u=>ifV u (arith (· - ·) s8 (.int .i64 1) fun v=>Q (.tuple #[v, (.bool true)]) h) (z0e_.j2 s8 h Q)) (z0e_.j2 s8 h Q)
def z0e_.j4 (s0 s1 s5 s8 s9 : Value) (h : Heap) (K1 : List Value → Heap → Prop) (Q : Value → Heap → Prop) : Prop := arith (· + ·) s8 s9 fun b=>cvI .u64 b fun d=>shrV d (.int .u64 1) fun g=>cvI .i64 g fun i=>nilck s0 fun j=>fld 6 j fun k=>load1 k h fun l=>loadN 2 s5 h fun m=>nilck s1 fun n=>fld 2 n fun o=>load1 o h fun p=>idx 2 p i fun q=>loadN 2 q h fun u=>callV Tryz.prog l #[m, u] h fun v h=>notV v fun w=>ifV w (arith (· + ·) i (.int .i64 1) fun x=>K1 [x, s9] h) (K1 [s8, i] h)
def z0e_.l3.b (c0 c1 c5 s8 s9 : Value) (h : Heap) (K1 : List Value → Heap → Prop) (Q : Value → Heap → Prop) : Prop := cmpI (fun a b=> decide (a < b)) s8 s9 fun b=>ifV b (z0e_.j4 c0 c1 c5 s8 s9 h K1 Q) (z0e_.j1 c0 c1 c5 s8 h Q)
def z0e_.sh (a0 a1 a2 : Value) (h : Heap) (Q : Value → Heap → Prop) : Prop := box 31 a2 h fun b h=>nilck a1 fun d=>fld 2 d fun g=>load1 g h fun i=>lenV i fun j=>loopC (fun c s h K1=> z0e_.l3.b (c.getD 0 undef) (c.getD 1 undef) (c.getD 2 undef) (s.getD 0 undef) (s.getD 1 undef) h K1 Q) [a0, a1, b] [(.int .i64 0), j] h
theorem z0e_.body (a0 a1 a2 : Value) (h : Heap) (Q : Value → Heap → Prop) (H : z0e_.sh a0 a1 a2 h Q) : z0e_.call #[a0, a1, a2] h Q := by
 refine callsH_of (args := [a0, a1, a2]) Tryz.func95 rfl rfl ?_; unfold z0e_.sh at H; refine sR <| vl_n <| H_box H fun _ h H=> nS (.int .i64 0) rfl<|nS (.bool false) rfl<|vl_e <| WPc_seq' <| W_drawn [0,1,3,7,15,0,63] (Tk 0<|Tk 1<|Tk 2<|Tk 3<|Tk 4<|Tk 5<|Tk 6 .done) mixed (by kernel_rfl) <| pM a1 rfl rfl<|pT rfl rfl rfl TF_149_2 T1_29 H fun _ _ _ _ _ H=> pP rfl (R_len Tryz.underlying29) H fun t15 H=> pS (.int .i64 0) rfl rfl<|pS t15 rfl rfl ?_; refine vp_done ?_; refine WPc_seq (fun e h=> z0e_.j1 (e 0) (e 1) (e 5) (e 8) h Q) ?_ (fun e h H=> ?_)
 rotate_left
 · unfold z0e_.j1 at H
   refine WPc_seq (fun e h=> z0e_.j2 (e 8) h Q) ?_ (fun e h H=> ?_)
   rotate_left
   · unfold z0e_.j2 at H
     exact sR <| nM (e 8) rfl<|nS (e 8) rfl<|nS (.bool false) rfl<|vl_e <| WPc_ret <| resH_of rfl<|H
   refine WPc_seq' <| W_drawn [0,1,3,7,15,31,63,7,135,391,903,7,2055,8071,16263,7,65535,131071,262143] (Tk 0<|Tk 1<|Tk 2<|Tk 3<|Tk 4<|Tk 5<|Tk 6<|Tk 7<|Tk 8<|Tk 9<|Tk 10<|Tk 11<|Tk 12<|Tk 13<|Tk 14<|Tk 15<|Al 16<|Tk 17<|Tk 18 .done) mixed (by kernel_rfl) <| pM (e 8) rfl rfl<|pP rfl R_gtr H fun t43 H=> pM t43 rfl rfl ?_; obtain ⟨b, hb, H1, H2⟩ := H
   cases b
   · have H := H2 rfl
     clear H1 H2; refine tk_s rfl rfl (nbT hb) ?_; refine tk_s rfl rfl (nbT hb) ?_; refine tk_s rfl rfl (nbT hb) ?_; refine tk_s rfl rfl (nbT hb) ?_; refine tk_s rfl rfl (nbT hb) ?_; refine tk_s rfl rfl (nbT hb) ?_; refine tk_s rfl rfl (nbT hb) ?_; refine tk_s rfl rfl (nbT hb) ?_; refine tk_s rfl rfl (nbT hb) ?_; refine tk_s rfl rfl (nbT hb) ?_; refine tk_s rfl rfl (nbT hb) ?_; refine tk_s rfl rfl (nbT hb) ?_; refine tk_s rfl rfl (nbT hb) ?_; refine alt_s rfl rfl (nbT hb) ?_ vp_none
     refine tk_s rfl rfl (nbT hb) ?_; refine pA rfl (R_pickC (v := (.bool false)) false hb rfl) <| vp_done ?_; refine WPc_cond (t := false) rfl (fun hh=> by cases hh) (fun _=> ?_)
     exact WPc_skip <| H
   · have H := H1 rfl
     clear H1 H2; refine tkPy rfl rfl hb ?_; refine R_move (v := (e 0)) rfl ⟨fun _=> trivial, ?_⟩
     refine tkPy rfl rfl hb ?_; refine R_nil H fun _ H=> ⟨fun _=> trivial, ?_⟩
     refine tkPy rfl rfl hb ?_; refine R_fld TF_128_6 H fun _ H=> ⟨fun _=> trivial, ?_⟩
     refine tkLy rfl rfl hb ?_; refine R_load1 T1_103 H fun _ _ _ _ H=> ?_; refine tkPy rfl rfl hb ?_; refine R_move (v := (e 1)) rfl ⟨fun _=> trivial, ?_⟩
     refine tkPy rfl rfl hb ?_; refine R_nil H fun _ H=> ⟨fun _=> trivial, ?_⟩
     refine tkPy rfl rfl hb ?_; refine R_fld TF_149_2 H fun _ H=> ⟨fun _=> trivial, ?_⟩
     refine tkLy rfl rfl hb ?_; refine R_load1 T1_29 H fun _ _ _ _ H=> ?_; refine tkPy rfl rfl hb ?_; refine R_move (v := (e 8)) rfl ⟨fun _=> trivial, ?_⟩
     refine tkPy rfl rfl hb ?_; refine R_sub H fun _ H=> ⟨fun _=> trivial, ?_⟩
     refine tkPy rfl rfl hb ?_; refine R_idx TE_29 H fun _ H=> ⟨fun _=> trivial, ?_⟩
     refine tkLy rfl rfl hb ?_; refine R_loadN TN_31 H fun _ _ _ _ H _ _=> ?_; refine tkLy rfl rfl hb ?_; refine R_loadN TN_31 H fun _ _ _ _ H _ _=> ?_; refine alt_y rfl rfl hb ?_ vp_none
     refine H_callV H fun _ h H=> ⟨(hskip rfl (hskip rfl (hskip rfl (hskip rfl hnil)))), ?_⟩
     refine tkPy rfl rfl hb ?_; refine R_not H fun t59 H=> ⟨fun _=> trivial, ?_⟩
     refine pA rfl (R_pickC (v := t59) true hb rfl) <| vp_done ?_; refine cI H (fun H=> ?_) fun H=> ?_
     · exact sR <| nM (e 8) rfl<|nP R_sub H fun t62 H=> nS t62 rfl<|nS (.bool true) rfl<|vl_e <| WPc_ret <| resH_of rfl<|H
     · exact WPc_skip <| H
 refine WPc_block ?_; refine loop_at (fun e=> [e 8, e 9]) (fun e=> [e 0, e 1, e 5]) H rfl rfl ?_; intro K1 e1 h H hin1
 replace H : z0e_.l3.b (e1 0) (e1 1) (e1 5) (e1 8) (e1 9) h K1 Q := H
 unfold z0e_.l3.b at H; clear hin1; refine WPc_seq (fun e h=> z0e_.j4 (e 0) (e 1) (e 5) (e 8) (e 9) h K1 Q ∧ [e1 0, e1 1, e1 5] = [e 0, e 1, e 5]) ?_ (fun e h ⟨H, hq1⟩=> ?_)
 rotate_left
 · unfold z0e_.j4 at H
   refine WPc_block <| sR <| nM (e 8) rfl<|nM (e 9) rfl<|nP R_add H fun _ H=> nP (R_cvI Tryz.underlying3 Tryz.underlying40) H fun _ H=> nP R_shr H fun _ H=> nP (R_cvI Tryz.underlying40 Tryz.underlying3) H fun t24 H=> nS t24 rfl<|vl_e <| WPc_seq' <| W_drawn [0,1,3,7,0,0,32,96,224,0,992,2016,4095,8191] (Tk 0<|Tk 1<|Tk 2<|Tk 3<|Tk 4<|Tk 5<|Tk 6<|Tk 7<|Tk 8<|Tk 9<|Tk 10<|Tk 11<|Al 12<|Tk 13 .done) mixed (by kernel_rfl) <| pM (e 0) rfl rfl<|pP rfl R_nil H fun _ H=> ?_; refine pP rfl (R_fld TF_128_6) H fun _ H=> pL rfl T1_103 H fun _ _ _ H=> tkL rfl<|R_loadN TN_31 H fun _ _ _ _ H _ _=> pM (e 1) rfl rfl<|pT rfl rfl rfl TF_149_2 T1_29 H fun _ _ _ _ _ H=> pM t24 rfl rfl<|pP rfl (R_idx TE_29) H fun _ H=> tkL rfl<|R_loadN TN_31 H fun _ _ _ _ H _ _=> aE rfl<|H_callV H fun _ h H=> ⟨(hskip rfl (hskip rfl (hskip rfl (hskip rfl hnil)))), pP rfl R_not H fun _ H=> vp_done ?_⟩
   refine cI H (fun H=> ?_) fun H=> ?_
   · refine W_region (by kernel_rfl) <| nM t24 rfl<|nP R_add H fun t40 H=> nS t40 rfl<|vl_e ?_
     exact ⟨H, hq1⟩
   · refine W_region (by kernel_rfl) <| nM t24 rfl<|nS t24 rfl<|vl_e ?_
     exact ⟨H, hq1⟩
 refine sR <| nM (e1 8) rfl<|nM (e1 9) rfl<|nP R_lss H fun _ H=> vl_e ?_; refine cI H (fun H=> ?_) fun H=> ?_
 · refine WPc_skip ?_
   exact ⟨H, rfl⟩
 · refine WPc_exit ?_
   exact H
def z0x_.sh (a0 a1 a2 : Value) (h : Heap) (Q : Value → Heap → Prop) : Prop := box 31 a1 h fun b h=>box 31 a2 h fun d h=>nilck a0 fun g=>fld 6 g fun i=>load1 i h fun j=>loadN 2 b h fun k=>loadN 2 d h fun l=>callV Tryz.prog j #[k, l] h fun m h=>Q m h
theorem z0x_.body (a0 a1 a2 : Value) (h : Heap) (Q : Value → Heap → Prop) (H : z0x_.sh a0 a1 a2 h Q) : z0x_.call #[a0, a1, a2] h Q := by
 refine callsH_of (args := [a0, a1, a2]) Tryz.func98 rfl rfl ?_; unfold z0x_.sh at H; refine sR <| vl_n <| H_box H fun _ h H=> vl_n <| H_box H fun _ h H=> nS (.bool false) rfl<|vl_e <| WPc_seq' <| W_drawn [0,1,3,7,0,0,63,127] (Tk 0<|Tk 1<|Tk 2<|Tk 3<|Tk 4<|Tk 5<|Al 6<|Tk 7 .done) mixed (by kernel_rfl) <| pM a0 rfl rfl<|pT rfl rfl rfl TF_128_6 T1_103 H fun _ _ _ _ _ H=> tkL rfl<|R_loadN TN_31 H fun _ _ _ _ H _ _=> tkL rfl<|R_loadN TN_31 H fun _ _ _ _ H _ _=> aE rfl<|H_callV H fun t13 h H=> ⟨(hskip rfl (hskip rfl (hskip rfl hnil))), ?_⟩
 exact pS t13 rfl rfl<|vp_done <| WPc_ret <| resH_of rfl<|H
def z05_.j2 (s10 s11 : Value) (h : Heap) (Q : Value → Heap → Prop) : Prop := Q (.tuple #[s10, s11]) h
def z05_.j6 (s3 s10 s11 s16 : Value) (h : Heap) (K1 : List Value → Heap → Prop) (Q : Value → Heap → Prop) : Prop := arith (· + ·) s16 (.int .i64 1) fun b=>K1 [b] h
def z05_.j5 (s3 s10 s11 s16 : Value) (h : Heap) (K1 : List Value → Heap → Prop) (Q : Value → Heap → Prop) : Prop := nilck s3 fun b=>fld 0 b fun d=>idxA 8 1 d s16 fun g=>store1 g (.bool false) h fun h=>z05_.j6 s3 s10 s11 s16 h K1 Q
def z05_.l4.b (c3 c10 c11 s16 : Value) (h : Heap) (K1 : List Value → Heap → Prop) (Q : Value → Heap → Prop) : Prop := cmpI (fun a b=> decide (a < b)) s16 (.int .i64 8) fun b=>ifV b (z05_.j5 c3 c10 c11 s16 h K1 Q) (z05_.j2 c10 c11 h Q)
def z05_.j3 (s3 s4 s10 s11 s15 : Value) (h : Heap) (Q : Value → Heap → Prop) : Prop := nilck s3 fun b=>fld 8 b fun d=>idxA 8 1 d s4 fun g=>load1 g h fun i=>cmpI (fun a b=> a != b) s15 i fun j=>ifV j (nilck s3 fun k=>fld 8 k fun l=>idxA 8 1 l s4 fun m=>store1 m s15 h fun h=>arith (· + ·) s4 (.int .i64 1) fun n=>loopC (fun c s h K1=> z05_.l4.b (c.getD 0 undef) (c.getD 1 undef) (c.getD 2 undef) (s.getD 0 undef) h K1 Q) [s3, s10, s11] [n] h) (z05_.j2 s10 s11 h Q)
def z05_.j1 (s1 s3 s4 s10 s11 : Value) (h : Heap) (Q : Value → Heap → Prop) : Prop := cmpI (fun a b=> decide (a < b)) s4 (.int .i64 8) fun b=>ifV b (nilck s3 fun d=>fld 0 d fun g=>idxA 8 1 g s4 fun i=>store1 i (.bool true) h fun h=>z1i_.call #[s1] h fun j h=>br j true (ifV s11 (arith (· + ·) s10 (.int .i64 1) fun k=>cvI .u8 k fun l=>z05_.j3 s3 s4 s10 s11 l h Q) (cvI .u8 s10 fun m=>z05_.j3 s3 s4 s10 s11 m h Q)) (cvI .u8 s10 fun n=>z05_.j3 s3 s4 s10 s11 n h Q)) (z05_.j2 s10 s11 h Q)
def z05_.j8 (s0 s1 s3 s4 s7 s12 : Value) (h : Heap) (Q : Value → Heap → Prop) : Prop := cmpI (fun a b=> decide (a > b)) s12 (.int .i64 0) fun b=>br b true (nilck s1 fun d=>fld 2 d fun g=>load1 g h fun i=>arith (· - ·) s12 (.int .i64 1) fun j=>idx 2 i j fun k=>loadN 2 k h fun l=>loadN 2 s7 h fun m=>z0x_.call #[s0, l, m] h fun n h=>notV n fun o=>ifV o (arith (· - ·) s12 (.int .i64 1) fun p=>z05_.j1 s1 s3 s4 p (.bool true) h Q) (z05_.j1 s1 s3 s4 s12 (.bool false) h Q)) (z05_.j1 s1 s3 s4 s12 (.bool false) h Q)
def z05_.j10 (s0 s1 s3 s4 s7 s12 s13 : Value) (h : Heap) (K1 : List Value → Heap → Prop) (Q : Value → Heap → Prop) : Prop := arith (· + ·) s13 (.int .i64 1) fun b=>arith (· - ·) b s12 fun d=>divi d (.int .i64 2) fun g=>arith (· + ·) s12 g fun i=>loadN 2 s7 h fun j=>nilck s1 fun k=>fld 2 k fun l=>load1 l h fun m=>idx 2 m i fun n=>loadN 2 n h fun o=>z0x_.call #[s0, j, o] h fun p h=>notV p fun q=>ifV q (arith (· + ·) i (.int .i64 1) fun u=>K1 [u, s13] h) (arith (· - ·) i (.int .i64 1) fun v=>K1 [s12, v] h)
def z05_.l9.b (c0 c1 c3 c4 c7 s12 s13 : Value) (h : Heap) (K1 : List Value → Heap → Prop) (Q : Value → Heap → Prop) : Prop := cmpI (fun a b=> decide (a ≤ b)) s12 s13 fun b=>ifV b (z05_.j10 c0 c1 c3 c4 c7 s12 s13 h K1 Q) (z05_.j8 c0 c1 c3 c4 c7 s12 h Q)
def z05_.j7 (s0 s1 s3 s4 s7 s12 s13 : Value) (h : Heap) (Q : Value → Heap → Prop) : Prop := loopC (fun c s h K1=> z05_.l9.b (c.getD 0 undef) (c.getD 1 undef) (c.getD 2 undef) (c.getD 3 undef) (c.getD 4 undef) (s.getD 0 undef) (s.getD 1 undef) h K1 Q) [s0, s1, s3, s4, s7] [s12, s13] h
def z05_.j12 (s0 s1 s3 s4 s7 s10 s12 : Value) (h : Heap) (Q : Value → Heap → Prop) : Prop := arith (· - ·) s10 (.int .i64 1) fun b=>z05_.j7 s0 s1 s3 s4 s7 s12 b h Q
def z05_.j11 (s0 s1 s3 s4 s7 s10 s11 s12 s13 : Value) (h : Heap) (Q : Value → Heap → Prop) : Prop := loadN 2 s7 h fun b=>nilck s1 fun d=>fld 2 d fun g=>load1 g h fun i=>idx 2 i s10 fun j=>loadN 2 j h fun k=>z0x_.call #[s0, b, k] h fun l h=>ifV l (cmpI (fun a b=> a == b) s10 (.int .i64 0) fun m=>br m false (nilck s1 fun n=>fld 2 n fun o=>load1 o h fun p=>arith (· - ·) s10 (.int .i64 1) fun q=>idx 2 p q fun u=>loadN 2 u h fun v=>loadN 2 s7 h fun w=>z0x_.call #[s0, v, w] h fun x h=>ifV x (z05_.j1 s1 s3 s4 s10 s11 h Q) (z05_.j12 s0 s1 s3 s4 s7 s10 s12 h Q)) (z05_.j1 s1 s3 s4 s10 s11 h Q)) (nilck s1 fun y=>fld 2 y fun z=>load1 z h fun b0=>idx 2 b0 s10 fun b1=>loadN 2 b1 h fun b2=>loadN 2 s7 h fun b3=>z0x_.call #[s0, b2, b3] h fun b4 h=>ifV b4 (arith (· + ·) s10 (.int .i64 1) fun b5=>z05_.j7 s0 s1 s3 s4 s7 b5 s13 h Q) (z05_.j1 s1 s3 s4 s10 (.bool true) h Q))
def z05_.j13 (s0 s1 s3 s4 s7 s11 s12 s13 : Value) (h : Heap) (Q : Value → Heap → Prop) : Prop := nilck s1 fun b=>fld 2 b fun d=>load1 d h fun g=>lenV g fun i=>arith (· - ·) i (.int .i64 1) fun j=>z05_.j11 s0 s1 s3 s4 s7 j s11 s12 s13 h Q
def z05_.sh (a0 a1 a2 a3 a4 : Value) (h : Heap) (Q : Value → Heap → Prop) : Prop := box 31 a2 h fun b h=>nilck a1 fun d=>fld 2 d fun g=>load1 g h fun i=>lenV i fun j=>arith (· - ·) j (.int .i64 1) fun k=>cmpI (fun a b=> decide (a < b)) a4 (.int .i64 8) fun l=>br l true (nilck a3 fun m=>fld 0 m fun n=>idxA 8 1 n a4 fun o=>load1 o h fun p=>ifV p (nilck a3 fun q=>fld 8 q fun u=>idxA 8 1 u a4 fun v=>load1 v h fun w=>cvI .i64 w fun x=>nilck a1 fun y=>fld 2 y fun z=>load1 z h fun b0=>lenV b0 fun b1=>cmpI (fun a b=> decide (a ≥ b)) x b1 fun b2=>ifV b2 (nilck a1 fun b3=>fld 2 b3 fun b4=>load1 b4 h fun b5=>nilck a1 fun b6=>fld 2 b6 fun b7=>load1 b7 h fun b8=>lenV b8 fun b9=>arith (· - ·) b9 (.int .i64 1) fun d0=>idx 2 b5 d0 fun d1=>loadN 2 d1 h fun d2=>loadN 2 b h fun d3=>z0x_.call #[a0, d2, d3] h fun d4 h=>ifV d4 (nilck a1 fun d5=>fld 2 d5 fun d6=>load1 d6 h fun d7=>lenV d7 fun d8=>z05_.j1 a1 a3 a4 d8 (.bool false) h Q) (z05_.j13 a0 a1 a3 a4 b (.bool false) (.int .i64 0) k h Q)) (z05_.j11 a0 a1 a3 a4 b x (.bool false) (.int .i64 0) k h Q)) (z05_.j7 a0 a1 a3 a4 b (.int .i64 0) k h Q)) (z05_.j7 a0 a1 a3 a4 b (.int .i64 0) k h Q)
theorem z05_.body (a0 a1 a2 a3 a4 : Value) (h : Heap) (Q : Value → Heap → Prop) (H : z05_.sh a0 a1 a2 a3 a4 h Q) : z05_.call #[a0, a1, a2, a3, a4] h Q := by
 refine callsH_of (args := [a0, a1, a2, a3, a4]) Tryz.func96 rfl rfl ?_; unfold z05_.sh at H; refine sR <| vl_n <| H_box H fun _ h H=> nS (.int .i64 0) rfl<|nS (.bool false) rfl<|vl_e ?_; refine WPc_scope1 0 (fun e h=> z05_.j1 (e 1) (e 3) (e 4) (e 10) (e 11) h Q) rfl (fun pass=> ?_) (fun e h H=> ?_)
 rotate_left
 · unfold z05_.j1 at H
   refine WPc_seq (fun e h=> z05_.j2 (e 10) (e 11) h Q) ?_ (fun e h H=> ?_)
   rotate_left
   · unfold z05_.j2 at H
     exact sR <| nM (e 10) rfl<|nM (e 11) rfl<|nS (e 10) rfl<|nS (e 11) rfl<|vl_e <| WPc_ret <| resH_of rfl<|H
   refine sR <| nM (e 4) rfl<|nP R_lss H fun _ H=> vl_e ?_; refine cI H (fun H=> ?_) fun H=> ?_
   · refine sR <| nM (e 3) rfl<|nM (e 4) rfl<|nB TF_164_0 H fun _ _ H=> nP (R_idxA TA_161) H fun _ H=> vl_n <| H_store1 TS_4 H fun h H=> vl_e <| sR <| nS (.int .u8 0) rfl<|vl_e ?_
     refine WPc_seq (fun e h=> z05_.j3 (e 3) (e 4) (e 10) (e 11) (e 15) h Q) ?_ (fun e h H=> ?_)
     rotate_left
     · unfold z05_.j3 at H
       refine sR <| nM (e 15) rfl<|nM (e 3) rfl<|nM (e 4) rfl<|nB TF_164_1 H fun _ _ H=> nP (R_idxA TA_162) H fun _ H=> nL T1_5 H fun _ H=> nP R_neI H fun _ H=> vl_e ?_; refine cI H (fun H=> ?_) fun H=> ?_
       · refine sR <| nM (e 3) rfl<|nM (e 4) rfl<|nM (e 15) rfl<|nB TF_164_1 H fun _ _ H=> nP (R_idxA TA_162) H fun _ H=> vl_n <| H_store1 TS_5 H fun h H=> vl_e <| sR <| nM (e 4) rfl<|nP R_add H fun t188 H=> nS t188 rfl<|vl_e ?_
         refine WPc_block ?_; refine loop_at (fun e=> [e 16]) (fun e=> [e 3, e 10, e 11]) H rfl rfl ?_; intro K1 e1 h H hin1
         replace H : z05_.l4.b (e1 3) (e1 10) (e1 11) (e1 16) h K1 Q := H
         unfold z05_.l4.b at H; clear hin1; refine WPc_seq (fun e h=> z05_.j5 (e 3) (e 10) (e 11) (e 16) h K1 Q ∧ [e1 3, e1 10, e1 11] = [e 3, e 10, e 11]) ?_ (fun e h ⟨H, hq1⟩=> ?_)
         rotate_left
         · unfold z05_.j5 at H
           refine WPc_seq (fun e h=> z05_.j6 (e 3) (e 10) (e 11) (e 16) h K1 Q ∧ [e1 3, e1 10, e1 11] = [e 3, e 10, e 11]) ?_ (fun e h ⟨H, hq1⟩=> ?_)
           rotate_left
           · unfold z05_.j6 at H
             refine W_region (by kernel_rfl) <| nM (e 16) rfl<|nP R_add H fun t192 H=> nS t192 rfl<|vl_e ?_; exact ⟨H, hq1⟩
           refine WPc_block <| W_region (by kernel_rfl) <| nM (e 3) rfl<|nM (e 16) rfl<|nB TF_164_0 H fun _ _ H=> nP (R_idxA TA_161) H fun _ H=> vl_n <| H_store1 TS_4 H fun h H=> vl_e ?_; exact ⟨H, hq1⟩
         refine sR <| nM (e1 16) rfl<|nP R_lss H fun _ H=> vl_e ?_; refine cI H (fun H=> ?_) fun H=> ?_
         · refine WPc_skip ?_
           exact ⟨H, rfl⟩
         · refine WPc_exit ?_
           exact H
       · exact WPc_skip <| H
     refine sR <| nM (e 1) rfl<|vl_n <| H_call HB_87 H fun t164 h H=> nM t164 rfl ?_; obtain ⟨b_2, hb, H1, H2⟩ := H
     cases b_2
     · have H := H2 rfl
       clear H1 H2; refine vl_s rfl (nbT hb) ?_; refine nA (R_pickC (v := (.bool false)) false hb rfl) <| vl_e ?_; refine WPc_cond (t := false) rfl (fun hh=> by cases hh) (fun _=> ?_)
       exact W_region (by kernel_rfl) <| nM (e 10) rfl<|nP (R_cvI Tryz.underlying3 Tryz.underlying5) H fun t172 H=> nS t172 rfl<|vl_e <| H
     · have H := H1 rfl
       clear H1 H2; refine vl_y rfl hb ?_; refine H_of_R (R_move (v := (e 11)) rfl ?_)
       refine nA (R_pickC (v := (e 11)) true hb rfl) <| vl_e ?_; refine cI H (fun H=> ?_) fun H=> ?_
       · exact W_region (by kernel_rfl) <| nM (e 10) rfl<|nP R_add H fun _ H=> nP (R_cvI Tryz.underlying3 Tryz.underlying5) H fun t170 H=> nS t170 rfl<|vl_e <| H
       · exact W_region (by kernel_rfl) <| nM (e 10) rfl<|nP (R_cvI Tryz.underlying3 Tryz.underlying5) H fun t172_2 H=> nS t172_2 rfl<|vl_e <| H
   · exact WPc_skip <| H
 refine sR <| nS (.int .i64 0) rfl<|vl_e <| sR <| nM a1 rfl<|nT TF_149_2 T1_29 H fun _ _ _ H=> nP (R_len Tryz.underlying29) H fun _ H=> nP R_sub H fun t22 H=> nS t22 rfl<|vl_e ?_; refine WPc_seq (fun e h=> z05_.j7 (e 0) (e 1) (e 3) (e 4) (e 7) (e 12) (e 13) h Q) ?_ (fun e h H=> ?_)
 rotate_left
 · unfold z05_.j7 at H
   refine WPc_seq (fun e h=> z05_.j8 (e 0) (e 1) (e 3) (e 4) (e 7) (e 12) h Q) ?_ (fun e h H=> ?_)
   rotate_left
   · unfold z05_.j8 at H
     refine WPc_seq' <| WPc_seq' <| W_drawn [0,1,3,7,7,23,55,119,7,263,1015,2039,7,8191,16383,32767] (Tk 0<|Tk 1<|Tk 2<|Tk 3<|Tk 4<|Tk 5<|Tk 6<|Tk 7<|Tk 8<|Tk 9<|Tk 10<|Tk 11<|Tk 12<|Al 13<|Tk 14<|Tk 15 .done) mixed (by kernel_rfl) <| pM (e 12) rfl rfl<|pP rfl R_gtr H fun t138 H=> pM t138 rfl rfl ?_; obtain ⟨b, hb, H1, H2⟩ := H
     cases b
     · have H := H2 rfl
       clear H1 H2; refine tk_s rfl rfl (nbT hb) ?_; refine tk_s rfl rfl (nbT hb) ?_; refine tk_s rfl rfl (nbT hb) ?_; refine tk_s rfl rfl (nbT hb) ?_; refine tk_s rfl rfl (nbT hb) ?_; refine tk_s rfl rfl (nbT hb) ?_; refine tk_s rfl rfl (nbT hb) ?_; refine tk_s rfl rfl (nbT hb) ?_; refine tk_s rfl rfl (nbT hb) ?_; refine tk_s rfl rfl (nbT hb) ?_; refine alt_s rfl rfl (nbT hb) ?_ vp_none
       refine tk_s rfl rfl (nbT hb) ?_; refine pA rfl (R_pickC (v := (.bool false)) false hb rfl) <| vp_done ?_; refine WPc_cond (t := false) rfl (fun hh=> by cases hh) (fun _=> ?_)
       refine sR <| nM (e 12) rfl<|nS (e 12) rfl<|vl_e <| W_region (by kernel_rfl) <| nS (.bool false) rfl<|vl_e ?_; refine WPc_seq' (WPc_label ?_)
       refine pass _ _ ?_; exact H
     · have H := H1 rfl
       clear H1 H2; refine tkPy rfl rfl hb ?_; refine R_move (v := (e 0)) rfl ⟨fun _=> trivial, ?_⟩
       refine tkPy rfl rfl hb ?_; refine R_move (v := (e 1)) rfl ⟨fun _=> trivial, ?_⟩
       refine tkPy rfl rfl hb ?_; refine R_nil H fun _ H=> ⟨fun _=> trivial, ?_⟩
       refine tkPy rfl rfl hb ?_; refine R_fld TF_149_2 H fun _ H=> ⟨fun _=> trivial, ?_⟩
       refine tkLy rfl rfl hb ?_; refine R_load1 T1_29 H fun _ _ _ _ H=> ?_; refine tkPy rfl rfl hb ?_; refine R_move (v := (e 12)) rfl ⟨fun _=> trivial, ?_⟩
       refine tkPy rfl rfl hb ?_; refine R_sub H fun _ H=> ⟨fun _=> trivial, ?_⟩
       refine tkPy rfl rfl hb ?_; refine R_idx TE_29 H fun _ H=> ⟨fun _=> trivial, ?_⟩
       refine tkLy rfl rfl hb ?_; refine R_loadN TN_31 H fun _ _ _ _ H _ _=> ?_; refine tkLy rfl rfl hb ?_; refine R_loadN TN_31 H fun _ _ _ _ H _ _=> ?_; refine alt_y rfl rfl hb ?_ vp_none
       refine H_call HB_98 H fun _ h H=> ⟨(hskip rfl (hskip rfl (hskip rfl hnil))), ?_⟩
       refine tkPy rfl rfl hb ?_; refine R_not H fun t151 H=> ⟨fun _=> trivial, ?_⟩
       refine pA rfl (R_pickC (v := t151) true hb rfl) <| vp_done ?_; refine cI H (fun H=> ?_) fun H=> ?_
       · refine sR <| nM (e 12) rfl<|nP R_sub H fun t154 H=> nS t154 rfl<|vl_e <| W_region (by kernel_rfl) <| nS (.bool true) rfl<|vl_e ?_
         refine WPc_seq' (WPc_label ?_)
         refine pass _ _ ?_; exact H
       · refine sR <| nM (e 12) rfl<|nS (e 12) rfl<|vl_e <| W_region (by kernel_rfl) <| nS (.bool false) rfl<|vl_e ?_
         refine WPc_seq' (WPc_label ?_)
         refine pass _ _ ?_; exact H
   refine WPc_block ?_; refine loop_at (fun e=> [e 12, e 13]) (fun e=> [e 0, e 1, e 3, e 4, e 7]) H rfl rfl ?_; intro K1 e1 h H hin1
   replace H : z05_.l9.b (e1 0) (e1 1) (e1 3) (e1 4) (e1 7) (e1 12) (e1 13) h K1 Q := H
   unfold z05_.l9.b at H; clear hin1; refine WPc_seq (fun e h=> z05_.j10 (e 0) (e 1) (e 3) (e 4) (e 7) (e 12) (e 13) h K1 Q ∧ [e1 0, e1 1, e1 3, e1 4, e1 7] = [e 0, e 1, e 3, e 4, e 7]) ?_ (fun e h ⟨H, hq1⟩=> ?_)
   rotate_left
   · unfold z05_.j10 at H
     refine WPc_block <| sR <| nM (e 12) rfl<|nM (e 13) rfl<|nP R_add H fun _ H=> nM (e 12) rfl<|nP R_sub H fun _ H=> nP R_quo H fun _ H=> nP R_add H fun t121 H=> nS t121 rfl<|vl_e <| WPc_seq' <| W_drawn [0,0,0,4,12,28,0,124,252,511,1023] (Tk 0<|Tk 1<|Tk 2<|Tk 3<|Tk 4<|Tk 5<|Tk 6<|Tk 7<|Tk 8<|Al 9<|Tk 10 .done) mixed (by kernel_rfl) <| pM (e 0) rfl rfl ?_; refine tkL rfl<|R_loadN TN_31 H fun _ _ _ _ H _ _=> pM (e 1) rfl rfl<|pT rfl rfl rfl TF_149_2 T1_29 H fun _ _ _ _ _ H=> pM t121 rfl rfl<|pP rfl (R_idx TE_29) H fun _ H=> tkL rfl<|R_loadN TN_31 H fun _ _ _ _ H _ _=> aE rfl<|H_call HB_98 H fun _ h H=> ⟨(hskip rfl (hskip rfl (hskip rfl hnil))), pP rfl R_not H fun _ H=> vp_done ?_⟩
     refine cI H (fun H=> ?_) fun H=> ?_
     · refine W_region (by kernel_rfl) <| nM t121 rfl<|nP R_add H fun t134 H=> nS t134 rfl<|vl_e ?_
       exact ⟨H, hq1⟩
     · refine W_region (by kernel_rfl) <| nM t121 rfl<|nP R_sub H fun t136 H=> nS t136 rfl<|vl_e ?_
       exact ⟨H, hq1⟩
   refine sR <| nM (e1 12) rfl<|nM (e1 13) rfl<|nP R_leq H fun _ H=> vl_e ?_; refine cI H (fun H=> ?_) fun H=> ?_
   · refine WPc_skip ?_
     exact ⟨H, rfl⟩
   · refine WPc_exit ?_
     exact H
 refine sR <| nM a4 rfl<|nP R_lss H fun t24 H=> nM t24 rfl ?_; obtain ⟨b, hb, H1, H2⟩ := H
 cases b
 · have H := H2 rfl
   clear H1 H2; refine vl_s rfl (nbT hb) ?_; refine vl_s rfl (nbT hb) ?_; refine vl_s rfl (nbT hb) ?_; refine vl_s rfl (nbT hb) ?_; refine vl_s rfl (nbT hb) ?_; refine vl_s rfl (nbT hb) ?_; refine nA (R_pickC (v := (.bool false)) false hb rfl) <| vl_e ?_; refine WPc_cond (t := false) rfl (fun hh=> by cases hh) (fun _=> ?_)
   exact WPc_skip <| H
 · have H := H1 rfl
   clear H1 H2; refine vl_y rfl hb ?_; refine H_of_R (R_move (v := a3) rfl ?_)
   refine vl_y rfl hb ?_; refine H_of_R (R_move (v := a4) rfl ?_)
   refine vl_y rfl hb ?_; refine H_of_R (R_nil H fun _ H=> ?_)
   refine vl_y rfl hb ?_; refine H_of_R (R_fld TF_164_0 H fun _ H=> ?_)
   refine vl_y rfl hb ?_; refine H_of_R (R_idxA TA_161 H fun _ H=> ?_)
   refine vl_y rfl hb ?_; refine H_of_R (R_load1 T1_4 H fun _ t31 _ _ H=> ?_)
   refine nA (R_pickC (v := t31) true hb rfl) <| vl_e ?_; refine cI H (fun H=> ?_) fun H=> ?_
   · refine sR <| nM a3 rfl<|nM a4 rfl<|nB TF_164_1 H fun _ _ H=> nP (R_idxA TA_162) H fun _ H=> nL T1_5 H fun _ H=> nP (R_cvI Tryz.underlying5 Tryz.underlying3) H fun t39 H=> nS t39 rfl<|vl_e ?_
     refine WPc_seq (fun e h=> z05_.j11 (e 0) (e 1) (e 3) (e 4) (e 7) (e 10) (e 11) (e 12) (e 13) h Q) ?_ (fun e h H=> ?_)
     rotate_left
     · unfold z05_.j11 at H
       refine WPc_seq' <| W_drawn [0,0,0,4,12,28,0,124,252,511] (Tk 0<|Tk 1<|Tk 2<|Tk 3<|Tk 4<|Tk 5<|Tk 6<|Tk 7<|Tk 8<|Al 9 .done) mixed (by kernel_rfl) <| pM (e 0) rfl rfl<|tkL rfl<|R_loadN TN_31 H fun _ _ _ _ H _ _=> pM (e 1) rfl rfl<|pT rfl rfl rfl TF_149_2 T1_29 H fun _ _ _ _ _ H=> pM (e 10) rfl rfl<|pP rfl (R_idx TE_29) H fun _ H=> tkL rfl<|R_loadN TN_31 H fun _ _ _ _ H _ _=> aE rfl<|H_call HB_98 H fun _ h H=> ⟨(hskip rfl (hskip rfl (hskip rfl hnil))), vp_done ?_⟩
       refine cI H (fun H=> ?_) fun H=> ?_
       · refine WPc_seq (fun e h=> z05_.j12 (e 0) (e 1) (e 3) (e 4) (e 7) (e 10) (e 12) h Q) ?_ (fun e h H=> ?_)
         rotate_left
         · unfold z05_.j12 at H
           exact W_region (by kernel_rfl) <| nM (e 10) rfl<|nP R_sub H fun t99 H=> nS t99 rfl<|vl_e <| H
         refine WPc_seq' <| W_drawn [0,1,3,7,7,23,55,119,7,263,1015,2039,7,8191,16383] (Tk 0<|Tk 1<|Tk 2<|Tk 3<|Tk 4<|Tk 5<|Tk 6<|Tk 7<|Tk 8<|Tk 9<|Tk 10<|Tk 11<|Tk 12<|Al 13<|Tk 14 .done) mixed (by kernel_rfl) <| pM (e 10) rfl rfl<|pP rfl R_eqI H fun t84 H=> pM t84 rfl rfl ?_; obtain ⟨b_2, hb, H1, H2⟩ := H
         cases b_2
         · have H := H1 rfl
           clear H1 H2; refine tkPy rfl rfl hb ?_; refine R_move (v := (e 0)) rfl ⟨fun _=> trivial, ?_⟩
           refine tkPy rfl rfl hb ?_; refine R_move (v := (e 1)) rfl ⟨fun _=> trivial, ?_⟩
           refine tkPy rfl rfl hb ?_; refine R_nil H fun _ H=> ⟨fun _=> trivial, ?_⟩
           refine tkPy rfl rfl hb ?_; refine R_fld TF_149_2 H fun _ H=> ⟨fun _=> trivial, ?_⟩
           refine tkLy rfl rfl hb ?_; refine R_load1 T1_29 H fun _ _ _ _ H=> ?_; refine tkPy rfl rfl hb ?_; refine R_move (v := (e 10)) rfl ⟨fun _=> trivial, ?_⟩
           refine tkPy rfl rfl hb ?_; refine R_sub H fun _ H=> ⟨fun _=> trivial, ?_⟩
           refine tkPy rfl rfl hb ?_; refine R_idx TE_29 H fun _ H=> ⟨fun _=> trivial, ?_⟩
           refine tkLy rfl rfl hb ?_; refine R_loadN TN_31 H fun _ _ _ _ H _ _=> ?_; refine tkLy rfl rfl hb ?_; refine R_loadN TN_31 H fun _ _ _ _ H _ _=> ?_; refine alt_y rfl rfl hb ?_ vp_none
           refine H_call HB_98 H fun t96 h H=> ⟨(hskip rfl (hskip rfl (hskip rfl hnil))), ?_⟩
           refine pA rfl (R_pickC (v := t96) false hb rfl) <| vp_done ?_; refine cI H (fun H=> ?_) fun H=> ?_
           · refine WPc_goto ⟨rfl, ?_⟩
             exact H
           · exact WPc_skip <| H
         · have H := H2 rfl
           clear H1 H2; refine tk_s rfl rfl (nbF hb) ?_; refine tk_s rfl rfl (nbF hb) ?_; refine tk_s rfl rfl (nbF hb) ?_; refine tk_s rfl rfl (nbF hb) ?_; refine tk_s rfl rfl (nbF hb) ?_; refine tk_s rfl rfl (nbF hb) ?_; refine tk_s rfl rfl (nbF hb) ?_; refine tk_s rfl rfl (nbF hb) ?_; refine tk_s rfl rfl (nbF hb) ?_; refine tk_s rfl rfl (nbF hb) ?_; refine alt_s rfl rfl (nbF hb) ?_ vp_none
           refine pA rfl (R_pickC (v := (.bool true)) true hb rfl) <| vp_done ?_; refine WPc_cond (t := true) rfl (fun _=> ?_) (fun hh=> by cases hh)
           refine WPc_goto ⟨rfl, ?_⟩
           exact H
       · refine WPc_seq' <| W_drawn [0,0,2,6,14,0,62,126,0,511] (Tk 0<|Tk 1<|Tk 2<|Tk 3<|Tk 4<|Tk 5<|Tk 6<|Tk 7<|Tk 8<|Al 9 .done) mixed (by kernel_rfl) <| pM (e 0) rfl rfl<|pM (e 1) rfl rfl<|pT rfl rfl rfl TF_149_2 T1_29 H fun _ _ _ _ _ H=> pM (e 10) rfl rfl<|pP rfl (R_idx TE_29) H fun _ H=> tkL rfl<|R_loadN TN_31 H fun _ _ _ _ H _ _=> tkL rfl<|R_loadN TN_31 H fun _ _ _ _ H _ _=> aE rfl<|H_call HB_98 H fun _ h H=> ⟨(hskip rfl (hskip rfl (hskip rfl hnil))), vp_done ?_⟩
         refine cI H (fun H=> ?_) fun H=> ?_
         · exact W_region (by kernel_rfl) <| nM (e 10) rfl<|nP R_add H fun t111 H=> nS t111 rfl<|vl_e <| H
         · refine sR <| nS (.bool true) rfl<|vl_e ?_
           refine WPc_goto ⟨rfl, ?_⟩
           exact H
     refine sR <| nM t39 rfl<|nM a1 rfl<|nT TF_149_2 T1_29 H fun _ _ _ H=> nP (R_len Tryz.underlying29) H fun _ H=> nP R_geq H fun _ H=> vl_e ?_; refine cI H (fun H=> ?_) fun H=> ?_
     · refine WPc_seq (fun e h=> z05_.j13 (e 0) (e 1) (e 3) (e 4) (e 7) (e 11) (e 12) (e 13) h Q) ?_ (fun e h H=> ?_)
       rotate_left
       · unfold z05_.j13 at H
         exact W_region (by kernel_rfl) <| nM (e 1) rfl<|nT TF_149_2 T1_29 H fun _ _ _ H=> nP (R_len Tryz.underlying29) H fun _ H=> nP R_sub H fun t72 H=> nS t72 rfl<|vl_e <| H
       refine WPc_seq' <| W_drawn [0,0,2,6,14,0,32,96,224,480,992,2046,4094,0,16383] (Tk 0<|Tk 1<|Tk 2<|Tk 3<|Tk 4<|Tk 5<|Tk 6<|Tk 7<|Tk 8<|Tk 9<|Tk 10<|Tk 11<|Tk 12<|Tk 13<|Al 14 .done) mixed (by kernel_rfl) <| pM a0 rfl rfl<|pM a1 rfl rfl<|pT rfl rfl rfl TF_149_2 T1_29 H fun _ _ _ _ _ H=> pM a1 rfl rfl<|pT rfl rfl rfl TF_149_2 T1_29 H fun _ _ _ _ _ H=> pP rfl (R_len Tryz.underlying29) H fun _ H=> pP rfl R_sub H fun _ H=> pP rfl (R_idx TE_29) H fun _ H=> ?_; refine tkL rfl<|R_loadN TN_31 H fun _ _ _ _ H _ _=> tkL rfl<|R_loadN TN_31 H fun _ _ _ _ H _ _=> aE rfl<|H_call HB_98 H fun _ h H=> ⟨(hskip rfl (hskip rfl (hskip rfl (hskip rfl hnil)))), vp_done ?_⟩
       refine cI H (fun H=> ?_) fun H=> ?_
       · refine sR <| nM a1 rfl<|nT TF_149_2 T1_29 H fun _ _ _ H=> nP (R_len Tryz.underlying29) H fun t66 H=> nS t66 rfl<|vl_e ?_
         refine WPc_goto ⟨rfl, ?_⟩
         exact H
       · exact WPc_skip <| H
     · exact WPc_skip <| H
   · exact WPc_skip <| H
def z0h_.j6 (s10 s11 : Value) (h : Heap) (Q : Value → Heap → Prop) : Prop := loadN 2 s10 h fun b=>storeN 2 s10 b h fun h=>loadN 2 s10 h fun d=>Q (.tuple #[d, s11, (.bool false)]) h
def z0h_.j5 (s10 s11 s13 : Value) (h : Heap) (Q : Value → Heap → Prop) : Prop := notV s11 fun b=>ifV b (load1 s13 h fun d=>nilck d fun g=>fld 1 g fun i=>load1 i h fun j=>arith (· + ·) j (.int .i64 1) fun k=>nilck d fun l=>fld 1 l fun m=>store1 m k h fun h=>z0h_.j6 s10 s11 h Q) (z0h_.j6 s10 s11 h Q)
def z0h_.j7 (s0 s3 s4 s7 s10 s13 s14 : Value) (h : Heap) (Q : Value → Heap → Prop) : Prop := load1 s13 h fun b=>nilck b fun d=>fld 3 d fun g=>load1 g h fun i=>nilck i fun j=>load1 j h fun k=>idx 1 k s14 fun l=>load1 l h fun m=>z08_.call #[s0, m] h fun n h=>extr 0 n fun o=>extr 1 n fun p=>alloc [(.int .i64 0), (.int .i64 0)] 31 h fun q h=>storeN 2 q p h fun h=>load1 s13 h fun u=>nilck u fun v=>fld 3 v fun w=>load1 w h fun x=>load1 s13 h fun y=>nilck y fun z=>fld 3 z fun b0=>load1 b0 h fun b1=>nilck b1 fun b2=>load1 b2 h fun b3=>mkSl (if 1 * 1 = 0 then [] else zeros [(.pointer none)] 1) 1 [(0 * 1, 1, (.pointer none))] 126 h fun b4 h=>still1 s13 u h ∧ still1 w x h ∧ still1 s13 y h ∧ still1 b0 b1 h ∧ still1 b2 b3 h ∧ app 126 1 8 [(.pointer none)] b3 b4 h fun b5 h=>still1 s13 u h ∧ still1 w x h ∧ nilck x fun b6=>store1 b6 b5 h fun h=>load1 s13 h fun b7=>nilck b7 fun b8=>fld 3 b8 fun b9=>load1 b9 h fun d0=>nilck d0 fun d1=>load1 d1 h fun d2=>arith (· + ·) s14 (.int .i64 1) fun d3=>slc 1 d2 (some d3) none none fun d4=>load1 s13 h fun d5=>nilck d5 fun d6=>fld 3 d6 fun d7=>load1 d7 h fun d8=>nilck d8 fun d9=>load1 d9 h fun g0=>slc 1 g0 (some s14) none none fun g1=>cpy 1 d4 g1 h fun g2 h=>load1 s13 h fun g3=>nilck g3 fun g4=>fld 3 g4 fun g5=>load1 g5 h fun g6=>nilck g6 fun g7=>load1 g7 h fun g8=>arith (· + ·) s14 (.int .i64 1) fun g9=>idx 1 g8 g9 fun i0=>store1 i0 o h fun h=>load1 s13 h fun i1=>load1 s13 h fun i2=>nilck i2 fun i3=>fld 2 i3 fun i4=>load1 i4 h fun i5=>nilck s0 fun i6=>fld 7 i6 fun i7=>loadN 2 i7 h fun i8=>mkSl (if 1 * 2 = 0 then [] else zeros [(.int .i64 0), (.int .i64 0)] 1) 1 [(0 * 2, 2, i8)] 31 h fun i9 h=>still1 s13 i1 h ∧ still1 s13 i2 h ∧ still1 i4 i5 h ∧ app 31 2 16 [(.int .i64 0), (.int .i64 0)] i5 i9 h fun j0 h=>still1 s13 i1 h ∧ nilck i1 fun j1=>fld 2 j1 fun j2=>store1 j2 j0 h fun h=>load1 s13 h fun j3=>nilck j3 fun j4=>fld 2 j4 fun j5=>load1 j5 h fun j6=>arith (· + ·) s14 (.int .i64 1) fun j7=>slc 2 j6 (some j7) none none fun j8=>load1 s13 h fun j9=>nilck j9 fun k0=>fld 2 k0 fun k1=>load1 k1 h fun k2=>slc 2 k2 (some s14) none none fun k3=>cpy 2 j8 k3 h fun k4 h=>load1 s13 h fun k5=>nilck k5 fun k6=>fld 2 k6 fun k7=>load1 k7 h fun k8=>loadN 2 q h fun k9=>idx 2 k8 s14 fun l0=>storeN 2 l0 k9 h fun h=>loadN 2 s7 h fun l1=>z0h_.call #[s0, s13, l1, s3, s4] h fun l2 h=>extr 0 l2 fun l3=>extr 1 l2 fun l4=>extr 2 l2 fun l5=>storeN 2 s10 l3 h fun h=>loadN 2 s10 h fun l6=>Q (.tuple #[l6, l4, l5]) h
def z0h_.j4 (s0 s3 s4 s7 s10 s13 s14 : Value) (h : Heap) (Q : Value → Heap → Prop) : Prop := load1 s13 h fun b=>nilck b fun d=>fld 3 d fun g=>load1 g h fun i=>nilck i fun j=>load1 j h fun k=>idx 1 k s14 fun l=>loadN 2 s7 h fun m=>arith (· + ·) s4 (.int .i64 1) fun n=>z0h_.call #[s0, l, m, s3, n] h fun o h=>extr 0 o fun p=>extr 1 o fun q=>extr 2 o fun u=>storeN 2 s10 p h fun h=>ifV u (load1 s13 h fun v=>nilck v fun w=>fld 2 w fun x=>load1 x h fun y=>lenV y fun z=>nilck s0 fun b0=>fld 9 b0 fun b1=>load1 b1 h fun b2=>cmpI (fun a b=> a == b) z b2 fun b3=>ifV b3 (nilck s0 fun b4=>fld 7 b4 fun b5=>loadN 2 b5 h fun b6=>storeN 2 s10 b6 h fun h=>loadN 2 s10 h fun b7=>Q (.tuple #[b7, (.bool false), (.bool true)]) h) (z0h_.j7 s0 s3 s4 s7 s10 s13 s14 h Q)) (z0h_.j5 s10 q s13 h Q)
def z0h_.j8 (s0 s7 s10 s13 s14 : Value) (h : Heap) (Q : Value → Heap → Prop) : Prop := load1 s13 h fun b=>load1 s13 h fun d=>nilck d fun g=>fld 2 g fun i=>load1 i h fun j=>nilck s0 fun k=>fld 7 k fun l=>loadN 2 l h fun m=>mkSl (if 1 * 2 = 0 then [] else zeros [(.int .i64 0), (.int .i64 0)] 1) 1 [(0 * 2, 2, m)] 31 h fun n h=>still1 s13 b h ∧ still1 s13 d h ∧ still1 i j h ∧ app 31 2 16 [(.int .i64 0), (.int .i64 0)] j n h fun o h=>still1 s13 b h ∧ nilck b fun p=>fld 2 p fun q=>store1 q o h fun h=>load1 s13 h fun u=>nilck u fun v=>fld 2 v fun w=>load1 w h fun x=>arith (· + ·) s14 (.int .i64 1) fun y=>slc 2 x (some y) none none fun z=>load1 s13 h fun b0=>nilck b0 fun b1=>fld 2 b1 fun b2=>load1 b2 h fun b3=>slc 2 b3 (some s14) none none fun b4=>cpy 2 z b4 h fun b5 h=>load1 s13 h fun b6=>nilck b6 fun b7=>fld 2 b7 fun b8=>load1 b8 h fun b9=>loadN 2 s7 h fun d0=>idx 2 b9 s14 fun d1=>storeN 2 d1 d0 h fun h=>load1 s13 h fun d2=>nilck d2 fun d3=>fld 1 d3 fun d4=>load1 d4 h fun d5=>arith (· + ·) d5 (.int .i64 1) fun d6=>nilck d2 fun d7=>fld 1 d7 fun d8=>store1 d8 d6 h fun h=>nilck s0 fun d9=>fld 7 d9 fun g0=>loadN 2 g0 h fun g1=>storeN 2 s10 g1 h fun h=>loadN 2 s10 h fun g2=>Q (.tuple #[g2, (.bool false), (.bool false)]) h
def z0h_.j3 (s0 s3 s4 s7 s10 s13 s14 : Value) (h : Heap) (Q : Value → Heap → Prop) : Prop := load1 s13 h fun b=>z1i_.call #[b] h fun d h=>ifV d (load1 s13 h fun g=>nilck g fun i=>fld 2 i fun j=>load1 j h fun k=>lenV k fun l=>nilck s0 fun m=>fld 9 m fun n=>load1 n h fun o=>cmpI (fun a b=> a == b) l o fun p=>ifV p (nilck s0 fun q=>fld 7 q fun u=>loadN 2 u h fun v=>storeN 2 s10 v h fun h=>loadN 2 s10 h fun w=>Q (.tuple #[w, (.bool false), (.bool true)]) h) (z0h_.j8 s0 s7 s10 s13 s14 h Q)) (z0h_.j4 s0 s3 s4 s7 s10 s13 s14 h Q)
def z0h_.j2 (s0 s3 s4 s7 s10 s13 s14 s15 : Value) (h : Heap) (Q : Value → Heap → Prop) : Prop := ifV s15 (load1 s13 h fun b=>nilck b fun d=>fld 2 d fun g=>load1 g h fun i=>idx 2 i s14 fun j=>loadN 2 j h fun k=>storeN 2 s10 k h fun h=>load1 s13 h fun l=>nilck l fun m=>fld 2 m fun n=>load1 n h fun o=>loadN 2 s7 h fun p=>idx 2 o s14 fun q=>storeN 2 q p h fun h=>loadN 2 s10 h fun u=>storeN 2 s10 u h fun h=>loadN 2 s10 h fun v=>Q (.tuple #[v, (.bool true), (.bool false)]) h) (z0h_.j3 s0 s3 s4 s7 s10 s13 s14 h Q)
def z0h_.j1 (s0 s1 s3 s4 s7 s10 : Value) (h : Heap) (Q : Value → Heap → Prop) : Prop := nilck s1 fun b=>load1 b h fun d=>alloc [(.pointer none)] 126 h fun g h=>store1 g d h fun h=>eqNilP s3 fun i=>ifV i (load1 g h fun j=>loadN 2 s7 h fun k=>z0e_.call #[s0, j, k] h fun l h=>extr 0 l fun m=>extr 1 l fun n=>z0h_.j2 s0 s3 s4 s7 s10 g m n h Q) (load1 g h fun o=>loadN 2 s7 h fun p=>z05_.call #[s0, o, p, s3, s4] h fun q h=>extr 0 q fun u=>extr 1 q fun v=>z0h_.j2 s0 s3 s4 s7 s10 g u v h Q)
def z0h_.sh (a0 a1 a2 a3 a4 : Value) (h : Heap) (Q : Value → Heap → Prop) : Prop := box 31 a2 h fun b h=>alloc [(.int .i64 0), (.int .i64 0)] 31 h fun d h=>nilck a1 fun g=>load1 g h fun i=>nilck i fun j=>fld 0 j fun k=>load1 k h fun l=>nilck a0 fun m=>fld 0 m fun n=>load1 n h fun o=>cmpI (fun a b=> a != b) l o fun p=>ifV p (nilck a1 fun q=>load1 q h fun u=>z0y_.call #[a0, u] h fun v h=>nilck a1 fun w=>store1 w v h fun h=>z0h_.j1 a0 a1 a3 a4 b d h Q) (z0h_.j1 a0 a1 a3 a4 b d h Q)
theorem z0h_.body (a0 a1 a2 a3 a4 : Value) (h : Heap) (Q : Value → Heap → Prop) (H : z0h_.sh a0 a1 a2 a3 a4 h Q) : z0h_.call #[a0, a1, a2, a3, a4] h Q := by
 refine callsH_of (args := [a0, a1, a2, a3, a4]) Tryz.func91 rfl rfl ?_; unfold z0h_.sh at H; refine sR <| vl_n <| H_box H fun _ h H=> vl_n <| H_alloc TV_31 H fun _ h H=> nS (.bool false) rfl<|nS (.bool false) rfl<|vl_e ?_; refine WPc_seq (fun e h=> z0h_.j1 (e 0) (e 1) (e 3) (e 4) (e 7) (e 10) h Q) ?_ (fun e h H=> ?_)
 rotate_left
 · unfold z0h_.j1 at H
   refine sR <| nM (e 1) rfl<|nP R_nil H fun _ H=> nL T1_126 H fun _ H=> vl_n <| H_alloc TV_126 H fun _ h H=> vl_n <| H_store1 TS_126 H fun h H=> vl_e <| sR <| nS (.int .i64 0) rfl<|vl_e <| sR <| nS (.bool false) rfl<|vl_e ?_; refine WPc_seq (fun e h=> z0h_.j2 (e 0) (e 3) (e 4) (e 7) (e 10) (e 13) (e 14) (e 15) h Q) ?_ (fun e h H=> ?_)
   rotate_left
   · unfold z0h_.j2 at H
     refine WPc_seq (fun e h=> z0h_.j3 (e 0) (e 3) (e 4) (e 7) (e 10) (e 13) (e 14) h Q) ?_ (fun e h H=> ?_)
     rotate_left
     · unfold z0h_.j3 at H
       refine WPc_seq (fun e h=> z0h_.j4 (e 0) (e 3) (e 4) (e 7) (e 10) (e 13) (e 14) h Q) ?_ (fun e h H=> ?_)
       rotate_left
       · unfold z0h_.j4 at H
         refine WPc_seq' <| W_drawn [0,0,2,6,14,30,62,0,254,0,0,0,2048,8191,16383,32767,32767,32767,65535,393215,1048575] (Tk 0<|Tk 1<|Tk 2<|Tk 3<|Tk 4<|Tk 5<|Tk 6<|Tk 7<|Tk 8<|Tk 9<|Tk 10<|Tk 11<|Tk 12<|Al 13<|Tk 14<|Tk 15<|Tk 16<|Tk 17<|Al 18<|Tk 19<|Tk 20 .done) mixed (by kernel_rfl) <| pM (e 0) rfl rfl<|pL rfl T1_126 H fun _ _ _ H=> pT rfl rfl rfl TF_149_3 T1_147 H fun _ _ _ _ _ H=> pP rfl R_nil H fun _ H=> pL rfl T1_146 H fun _ _ _ H=> pM (e 14) rfl rfl<|pP rfl (R_idx TE_146) H fun _ H=> tkL rfl<|R_loadN TN_31 H fun _ _ _ _ H _ _=> pM (e 3) rfl rfl<|pM (e 4) rfl rfl ?_; refine pP rfl R_add H fun _ H=> aE rfl<|H_call HB_91 H fun t148 h H=> ⟨(hskip rfl (hskip rfl (hskip rfl (hskip rfl hnil)))), pM t148 rfl rfl<|pP rfl R_ext H fun _ H=> pP rfl R_ext H fun t150 H=> pP rfl R_ext H fun t151 H=> aE rfl<|H_storeN TS_31 H fun h H=> ⟨hnil, pS t150 rfl rfl<|pS t151 rfl rfl<|vp_done ?_⟩⟩
         refine WPc_seq (fun e h=> z0h_.j5 (e 10) (e 11) (e 13) h Q) ?_ (fun e h H=> ?_)
         rotate_left
         · unfold z0h_.j5 at H
           refine WPc_seq (fun e h=> z0h_.j6 (e 10) (e 11) h Q) ?_ (fun e h H=> ?_)
           rotate_left
           · unfold z0h_.j6 at H
             exact sR <| nLN TN_31 H fun _ H=> nM (e 11) rfl<|vl_n <| H_storeN TS_31 H fun h H=> nS (e 11) rfl<|nS (.bool false) rfl<|vl_e <| WPc_ret <| resH_of rfl<|resL_N TN_31 <| loadN_imp H fun r10 H=> resL_t <| resL_t <| H
           refine sR <| nM (e 11) rfl<|nP R_not H fun _ H=> vl_e ?_; refine cI H (fun H=> ?_) fun H=> ?_
           · exact W_region (by kernel_rfl) <| nL T1_126 H fun _ H=> nT TF_149_1 T1_3 H fun _ _ _ H=> nP R_add H fun _ H=> nB TF_149_1 H fun _ _ H=> vl_n <| H_store1 TS_3 H fun h H=> vl_e <| H
           · exact WPc_skip <| H
         refine sR <| nM t151 rfl<|vl_e ?_; refine cI H (fun H=> ?_) fun H=> ?_
         · refine WPc_seq (fun e h=> z0h_.j7 (e 0) (e 3) (e 4) (e 7) (e 10) (e 13) (e 14) h Q) ?_ (fun e h H=> ?_)
           rotate_left
           · unfold z0h_.j7 at H
             refine sR <| nM (e 0) rfl<|nL T1_126 H fun _ H=> nT TF_149_3 T1_147 H fun _ _ _ H=> nP R_nil H fun _ H=> nL T1_146 H fun _ H=> nM (e 14) rfl<|nP (R_idx TE_146) H fun _ H=> nL T1_126 H fun _ H=> vl_n <| H_call HB_92 H fun t178 h H=> nM t178 rfl<|nP R_ext H fun t179 H=> ?_; refine nP R_ext H fun _ H=> vl_n <| H_alloc TV_31 H fun _ h H=> nS t179 rfl<|vl_n <| H_storeN TS_31 H fun h H=> vl_e <| WPc_seq' <| W_drawn [0,1,3,7,0,16,48,112,240,496,0,2032,4095,8191] (Tk 0<|Tk 1<|Tk 2<|Tk 3<|Tk 4<|Tk 5<|Tk 6<|Tk 7<|Tk 8<|Tk 9<|Al 10<|Al 11<|Tk 12<|Al 13 .done) mixed (by kernel_rfl) <| pL rfl T1_126 H fun _ _ hat181 H=> pT rfl rfl rfl TF_149_3 T1_147 H fun _ _ _ _ hat184 H=> pL rfl T1_126 H fun _ _ hat185 H=> pB rfl rfl TF_149_3 H fun _ _ H=> ?_; refine pL rfl T1_147 H fun _ _ hat188 H=> pP rfl R_nil H fun _ H=> pL rfl T1_146 H fun _ _ hat190 H=> aE rfl<|H_mkSl TZ_146 (by decide) rfl H rfl fun _ h ⟨S, S_2, S_3, S_4, S_5, H⟩=> ⟨(hcons rfl (still_1 S_5 hat190) (hcons rfl (still_1 S_4 hat188) (hcons rfl (still_1 S_3 hat185) (hcons rfl (still_1 S_2 hat184) (hcons rfl (still_1 S hat181) hnil))))), aE rfl<|H_app TZ_146 TU_146 H fun _ h ⟨S_6, S_7, H⟩=> ⟨(hskip rfl (hskip rfl (hskip rfl (hcons rfl (still_1 S_7 hat184) (hcons rfl (still_1 S_6 hat181) hnil))))), pP rfl R_nil H fun _ H=> aE rfl<|H_store1 TS_146 H fun h H=> ⟨(hskip rfl (hskip rfl hnil)), vp_done <| WPc_seq' <| W_drawn [0,1,3,7,15,31,0,64,255,0,512,1536,3584,7680,15872,0,65024,131071] (Tk 0<|Tk 1<|Tk 2<|Tk 3<|Tk 4<|Tk 5<|Tk 6<|Tk 7<|Tk 8<|Tk 9<|Tk 10<|Tk 11<|Tk 12<|Tk 13<|Tk 14<|Tk 15<|Tk 16<|Al 17 .done) mixed (by kernel_rfl) <| pL rfl T1_126 H fun _ _ _ H=> pT rfl rfl rfl TF_149_3 T1_147 H fun _ _ _ _ _ H=> ?_⟩⟩⟩
             refine pP rfl R_nil H fun _ H=> pL rfl T1_146 H fun _ _ _ H=> pM (e 14) rfl rfl<|pP rfl R_add H fun _ H=> pP rfl (R_slice TE_146 (by decide)) H fun _ H=> pL rfl T1_126 H fun _ _ _ H=> pT rfl rfl rfl TF_149_3 T1_147 H fun _ _ _ _ _ H=> pP rfl R_nil H fun _ H=> pL rfl T1_146 H fun _ _ _ H=> pM (e 14) rfl rfl<|pP rfl (R_slice TE_146 (by decide)) H fun _ H=> aE rfl<|H_cpy TE_146 H fun _ h H=> ⟨(hskip rfl (hskip rfl (hskip rfl (hskip rfl (hskip rfl (hskip rfl hnil)))))), ?_⟩
             refine vp_done <| sR <| nL T1_126 H fun _ H=> nT TF_149_3 T1_147 H fun _ _ _ H=> nP R_nil H fun _ H=> nL T1_146 H fun _ H=> nM (e 14) rfl<|nP R_add H fun _ H=> nM t179 rfl<|nP (R_idx TE_146) H fun _ H=> vl_n <| H_store1 TS_126 H fun h H=> vl_e ?_; refine WPc_seq' <| W_drawn [0,0,2,6,14,0,32,96,224,480,1022,2047,4095,8191] (Tk 0<|Tk 1<|Tk 2<|Tk 3<|Tk 4<|Tk 5<|Tk 6<|Tk 7<|Tk 8<|Al 9<|Al 10<|Tk 11<|Tk 12<|Al 13 .done) mixed (by kernel_rfl) <| pL rfl T1_126 H fun _ _ hat222 H=> pL rfl T1_126 H fun _ _ hat223 H=> pT rfl rfl rfl TF_149_2 T1_29 H fun _ _ _ _ hat226 H=> pM (e 0) rfl rfl<|pB rfl rfl TF_128_7 H fun _ _ H=> tkL rfl<|R_loadN TN_31 H fun _ _ _ _ H _ _=> aE rfl<|H_mkSl TZ_29 (by decide) rfl H rfl fun _ h ⟨S_8, S_9, S_10, H⟩=> ⟨(hskip rfl (hcons rfl (still_1 S_10 hat226) (hcons rfl (still_1 S_9 hat223) (hcons rfl (still_1 S_8 hat222) hnil)))), aE rfl<|H_app TZ_29 TU_29 H fun _ h ⟨S_11, H⟩=> ⟨(hskip rfl (hskip rfl (hcons rfl (still_1 S_11 hat222) hnil))), pP rfl R_nil H fun _ H=> ?_⟩⟩
             refine pP rfl (R_fld TF_149_2) H fun _ H=> aE rfl<|H_store1 TS_29 H fun h H=> ⟨(hskip rfl hnil), vp_done <| WPc_seq' <| W_drawn [0,1,3,7,0,16,63,0,128,384,896,0,3968,8191] (Tk 0<|Tk 1<|Tk 2<|Tk 3<|Tk 4<|Tk 5<|Tk 6<|Tk 7<|Tk 8<|Tk 9<|Tk 10<|Tk 11<|Tk 12<|Al 13 .done) mixed (by kernel_rfl) <| pL rfl T1_126 H fun _ _ _ H=> pT rfl rfl rfl TF_149_2 T1_29 H fun _ _ _ _ _ H=> pM (e 14) rfl rfl<|pP rfl R_add H fun _ H=> pP rfl (R_slice TE_29 (by decide)) H fun _ H=> pL rfl T1_126 H fun _ _ _ H=> pP rfl R_nil H fun _ H=> ?_⟩
             refine pP rfl (R_fld TF_149_2) H fun _ H=> pL rfl T1_29 H fun _ _ _ H=> pM (e 14) rfl rfl<|pP rfl (R_slice TE_29 (by decide)) H fun _ H=> aE rfl<|H_cpy TE_29 H fun _ h H=> ⟨(hskip rfl (hskip rfl (hskip rfl (hskip rfl hnil)))), vp_done <| WPc_seq' <| W_drawn [0,1,3,7,0,0,63,127] (Tk 0<|Tk 1<|Tk 2<|Tk 3<|Tk 4<|Tk 5<|Tk 6<|Al 7 .done) mixed (by kernel_rfl) <| pL rfl T1_126 H fun _ _ _ H=> pT rfl rfl rfl TF_149_2 T1_29 H fun _ _ _ _ _ H=> pM (e 14) rfl rfl<|tkL rfl<|R_loadN TN_31 H fun _ _ _ _ H _ _=> ?_⟩
             refine pP rfl (R_idx TE_29) H fun _ H=> aE rfl<|H_storeN TS_31 H fun h H=> ⟨(hskip rfl (hskip rfl (hskip rfl hnil))), vp_done <| sR <| nM (e 0) rfl<|nLN TN_31 H fun _ H=> nM (e 3) rfl<|nM (e 4) rfl<|vl_n <| H_call HB_91 H fun _ h H=> nP R_ext H fun _ H=> nP R_ext H fun t262 H=> nP R_ext H fun t263 H=> vl_n <| H_storeN TS_31 H fun h H=> nS t262 rfl ?_⟩
             exact nS t263 rfl<|vl_e <| WPc_ret <| resH_of rfl<|resL_N TN_31 <| loadN_imp H fun r10 H=> resL_t <| resL_t <| H
           refine WPc_seq' <| W_drawn [0,1,3,7,15,0,32,96,224,511] (Tk 0<|Tk 1<|Tk 2<|Tk 3<|Tk 4<|Tk 5<|Tk 6<|Tk 7<|Tk 8<|Tk 9 .done) mixed (by kernel_rfl) <| pL rfl T1_126 H fun _ _ _ H=> pT rfl rfl rfl TF_149_2 T1_29 H fun _ _ _ _ _ H=> pP rfl (R_len Tryz.underlying29) H fun _ H=> pM (e 0) rfl rfl<|pT rfl rfl rfl TF_128_8 T1_3 H fun _ _ _ _ _ H=> pP rfl R_eqI H fun _ H=> vp_done ?_; refine cI H (fun H=> ?_) fun H=> ?_
           · refine sR <| nM (e 0) rfl<|nB TF_128_7 H fun _ _ H=> nLN TN_31 H fun _ H=> vl_n <| H_storeN TS_31 H fun h H=> nS (.bool false) rfl<|nS (.bool true) rfl<|vl_e <| WPc_ret <| resH_of rfl<|resL_N TN_31 <| loadN_imp H fun r10 H=> resL_t ?_
             exact resL_t <| H
           · exact WPc_skip <| H
         · exact WPc_skip <| H
       refine sR <| nL T1_126 H fun _ H=> vl_n <| H_call HB_87 H fun _ h H=> vl_e ?_; refine cI H (fun H=> ?_) fun H=> ?_
       · refine WPc_seq (fun e h=> z0h_.j8 (e 0) (e 7) (e 10) (e 13) (e 14) h Q) ?_ (fun e h H=> ?_)
         rotate_left
         · unfold z0h_.j8 at H
           refine WPc_seq' <| W_drawn [0,0,2,6,14,0,32,96,224,480,1022,2047,4095,8191] (Tk 0<|Tk 1<|Tk 2<|Tk 3<|Tk 4<|Tk 5<|Tk 6<|Tk 7<|Tk 8<|Al 9<|Al 10<|Tk 11<|Tk 12<|Al 13 .done) mixed (by kernel_rfl) <| pL rfl T1_126 H fun _ _ hat89 H=> pL rfl T1_126 H fun _ _ hat90 H=> pT rfl rfl rfl TF_149_2 T1_29 H fun _ _ _ _ hat93 H=> pM (e 0) rfl rfl<|pB rfl rfl TF_128_7 H fun _ _ H=> tkL rfl<|R_loadN TN_31 H fun _ _ _ _ H _ _=> aE rfl<|H_mkSl TZ_29 (by decide) rfl H rfl fun _ h ⟨S, S_2, S_3, H⟩=> ⟨(hskip rfl (hcons rfl (still_1 S_3 hat93) (hcons rfl (still_1 S_2 hat90) (hcons rfl (still_1 S hat89) hnil)))), aE rfl<|H_app TZ_29 TU_29 H fun _ h ⟨S_4, H⟩=> ⟨(hskip rfl (hskip rfl (hcons rfl (still_1 S_4 hat89) hnil))), pP rfl R_nil H fun _ H=> ?_⟩⟩
           refine pP rfl (R_fld TF_149_2) H fun _ H=> aE rfl<|H_store1 TS_29 H fun h H=> ⟨(hskip rfl hnil), vp_done <| WPc_seq' <| W_drawn [0,1,3,7,0,16,63,0,128,384,896,0,3968,8191] (Tk 0<|Tk 1<|Tk 2<|Tk 3<|Tk 4<|Tk 5<|Tk 6<|Tk 7<|Tk 8<|Tk 9<|Tk 10<|Tk 11<|Tk 12<|Al 13 .done) mixed (by kernel_rfl) <| pL rfl T1_126 H fun _ _ _ H=> pT rfl rfl rfl TF_149_2 T1_29 H fun _ _ _ _ _ H=> pM (e 14) rfl rfl<|pP rfl R_add H fun _ H=> pP rfl (R_slice TE_29 (by decide)) H fun _ H=> pL rfl T1_126 H fun _ _ _ H=> pP rfl R_nil H fun _ H=> ?_⟩
           refine pP rfl (R_fld TF_149_2) H fun _ H=> pL rfl T1_29 H fun _ _ _ H=> pM (e 14) rfl rfl<|pP rfl (R_slice TE_29 (by decide)) H fun _ H=> aE rfl<|H_cpy TE_29 H fun _ h H=> ⟨(hskip rfl (hskip rfl (hskip rfl (hskip rfl hnil)))), vp_done <| WPc_seq' <| W_drawn [0,1,3,7,0,0,63,127] (Tk 0<|Tk 1<|Tk 2<|Tk 3<|Tk 4<|Tk 5<|Tk 6<|Al 7 .done) mixed (by kernel_rfl) <| pL rfl T1_126 H fun _ _ _ H=> pT rfl rfl rfl TF_149_2 T1_29 H fun _ _ _ _ _ H=> pM (e 14) rfl rfl<|tkL rfl<|R_loadN TN_31 H fun _ _ _ _ H _ _=> ?_⟩
           refine pP rfl (R_idx TE_29) H fun _ H=> aE rfl<|H_storeN TS_31 H fun h H=> ⟨(hskip rfl (hskip rfl (hskip rfl hnil))), vp_done <| sR <| nL T1_126 H fun _ H=> nT TF_149_1 T1_3 H fun _ _ _ H=> nP R_add H fun _ H=> nB TF_149_1 H fun _ _ H=> vl_n <| H_store1 TS_3 H fun h H=> vl_e <| sR ?_⟩
           exact nM (e 0) rfl<|nB TF_128_7 H fun _ _ H=> nLN TN_31 H fun _ H=> vl_n <| H_storeN TS_31 H fun h H=> nS (.bool false) rfl<|nS (.bool false) rfl<|vl_e <| WPc_ret <| resH_of rfl<|resL_N TN_31 <| loadN_imp H fun r10 H=> resL_t <| resL_t <| H
         refine WPc_seq' <| W_drawn [0,1,3,7,15,0,32,96,224,511] (Tk 0<|Tk 1<|Tk 2<|Tk 3<|Tk 4<|Tk 5<|Tk 6<|Tk 7<|Tk 8<|Tk 9 .done) mixed (by kernel_rfl) <| pL rfl T1_126 H fun _ _ _ H=> pT rfl rfl rfl TF_149_2 T1_29 H fun _ _ _ _ _ H=> pP rfl (R_len Tryz.underlying29) H fun _ H=> pM (e 0) rfl rfl<|pT rfl rfl rfl TF_128_8 T1_3 H fun _ _ _ _ _ H=> pP rfl R_eqI H fun _ H=> vp_done ?_; refine cI H (fun H=> ?_) fun H=> ?_
         · refine sR <| nM (e 0) rfl<|nB TF_128_7 H fun _ _ H=> nLN TN_31 H fun _ H=> vl_n <| H_storeN TS_31 H fun h H=> nS (.bool false) rfl<|nS (.bool true) rfl<|vl_e <| WPc_ret <| resH_of rfl<|resL_N TN_31 <| loadN_imp H fun r10 H=> resL_t ?_
           exact resL_t <| H
         · exact WPc_skip <| H
       · exact WPc_skip <| H
     refine sR <| nM (e 15) rfl<|vl_e ?_; refine cI H (fun H=> ?_) fun H=> ?_
     · refine sR <| nL T1_126 H fun _ H=> nT TF_149_2 T1_29 H fun _ _ _ H=> nM (e 14) rfl<|nP (R_idx TE_29) H fun _ H=> nLN TN_31 H fun _ H=> vl_n <| H_storeN TS_31 H fun h H=> vl_e <| WPc_seq' <| W_drawn [0,1,3,7,0,0,63,127] (Tk 0<|Tk 1<|Tk 2<|Tk 3<|Tk 4<|Tk 5<|Tk 6<|Al 7 .done) mixed (by kernel_rfl) <| pL rfl T1_126 H fun _ _ _ H=> pP rfl R_nil H fun _ H=> ?_
       refine pP rfl (R_fld TF_149_2) H fun _ H=> pL rfl T1_29 H fun _ _ _ H=> pM (e 14) rfl rfl<|tkL rfl<|R_loadN TN_31 H fun _ _ _ _ H _ _=> pP rfl (R_idx TE_29) H fun _ H=> aE rfl<|H_storeN TS_31 H fun h H=> ⟨(hskip rfl (hskip rfl (hskip rfl hnil))), vp_done <| sR <| nLN TN_31 H fun _ H=> vl_n <| H_storeN TS_31 H fun h H=> nS (.bool true) rfl<|nS (.bool false) rfl<|vl_e <| WPc_ret ?_⟩
       exact resH_of rfl<|resL_N TN_31 <| loadN_imp H fun r10 H=> resL_t <| resL_t <| H
     · exact WPc_skip <| H
   refine sR <| nM (e 3) rfl<|nP (R_eqNilP Tryz.underlying130 rfl) H fun _ H=> vl_e ?_; refine cI H (fun H=> ?_) fun H=> ?_
   · exact W_region (by kernel_rfl) <| nM (e 0) rfl<|nL T1_126 H fun _ H=> nLN TN_31 H fun _ H=> vl_n <| H_call HB_95 H fun t45 h H=> nM t45 rfl<|nP R_ext H fun t46 H=> nP R_ext H fun t47 H=> nS t46 rfl<|nS t47 rfl<|vl_e <| H
   · exact W_region (by kernel_rfl) <| nM (e 0) rfl<|nL T1_126 H fun _ H=> nLN TN_31 H fun _ H=> nM (e 3) rfl<|nM (e 4) rfl<|vl_n <| H_call HB_96 H fun t54 h H=> nM t54 rfl<|nP R_ext H fun t55 H=> nP R_ext H fun t56 H=> nS t55 rfl<|nS t56 rfl<|vl_e <| H
 refine WPc_seq' <| W_drawn [0,1,3,7,15,31,0,64,192,448,1023] (Tk 0<|Tk 1<|Tk 2<|Tk 3<|Tk 4<|Tk 5<|Tk 6<|Tk 7<|Tk 8<|Tk 9<|Tk 10 .done) mixed (by kernel_rfl) <| pM a1 rfl rfl<|pP rfl R_nil H fun _ H=> pL rfl T1_126 H fun _ _ _ H=> pT rfl rfl rfl TF_149_0 T1_78 H fun _ _ _ _ _ H=> pM a0 rfl rfl<|pT rfl rfl rfl TF_128_0 T1_78 H fun _ _ _ _ _ H=> pP rfl R_neI H fun _ H=> vp_done ?_; refine cI H (fun H=> ?_) fun H=> ?_
 · exact W_region (by kernel_rfl) <| nM a1 rfl<|nM a0 rfl<|nM a1 rfl<|nP R_nil H fun _ H=> nL T1_126 H fun _ H=> vl_n <| H_call HB_94 H fun _ h H=> nP R_nil H fun _ H=> vl_n <| H_store1 TS_126 H fun h H=> vl_e <| H
 · exact WPc_skip <| H
def z0i_.j3 (s0 s6 : Value) (h : Heap) (Q : Value → Heap → Prop) : Prop := nilck s0 fun b=>fld 3 b fun d=>load1 d h fun g=>arith (· + ·) g (.int .i64 1) fun i=>nilck s0 fun j=>fld 3 j fun k=>store1 k i h fun h=>nilck s0 fun l=>fld 7 l fun m=>loadN 2 m h fun n=>storeN 2 s6 n h fun h=>loadN 2 s6 h fun o=>Q (.tuple #[o, (.bool false)]) h
def z0i_.j2 (s0 s6 s7 : Value) (h : Heap) (Q : Value → Heap → Prop) : Prop := ifV s7 (loadN 2 s6 h fun b=>storeN 2 s6 b h fun h=>loadN 2 s6 h fun d=>Q (.tuple #[d, (.bool true)]) h) (z0i_.j3 s0 s6 h Q)
def z0i_.j1 (s0 s2 s4 s6 : Value) (h : Heap) (Q : Value → Heap → Prop) : Prop := nilck s0 fun b=>fld 2 b fun d=>loadN 2 s4 h fun g=>z0h_.call #[s0, d, g, s2, (.int .i64 0)] h fun i h=>extr 0 i fun j=>extr 1 i fun k=>extr 2 i fun l=>storeN 2 s6 j h fun h=>ifV l (nilck s0 fun m=>fld 2 m fun n=>z0f_.call #[s0, n, (.bool true)] h fun o h=>z08_.call #[s0, o] h fun p h=>extr 0 p fun q=>extr 1 p fun u=>alloc [(.int .i64 0), (.int .i64 0)] 31 h fun v h=>storeN 2 v u h fun h=>z0g_.call #[s0, (.bool false)] h fun w h=>nilck s0 fun x=>fld 2 x fun y=>store1 y w h fun h=>nilck s0 fun z=>fld 2 z fun b0=>load1 b0 h fun b1=>nilck b1 fun b2=>fld 3 b2 fun b3=>load1 b3 h fun b4=>nilck s0 fun b5=>fld 9 b5 fun b6=>load1 b6 h fun b7=>arith (· + ·) b7 (.int .i64 1) fun b8=>mks 126 1 8 [(.pointer none)] (.int .i64 0) b8 h fun b9 h=>still1 b0 b1 h ∧ still1 b3 b4 h ∧ nilck b4 fun d0=>store1 d0 b9 h fun h=>nilck s0 fun d1=>fld 2 d1 fun d2=>load1 d2 h fun d3=>nilck d3 fun d4=>fld 3 d4 fun d5=>load1 d5 h fun d6=>(mkSl (if 0 * 1 = 0 then [] else zeros [(.pointer none)] 0) 0 [] 126 h fun d7 h=>still1 d2 d3 h ∧ still1 d5 d6 h ∧ mkSl (if 2 * 1 = 0 then [] else zeros [(.pointer none)] 2) 2 [(0 * 1, 1, o), (1 * 1, 1, q)] 126 h fun d8 h=>still1 d2 d3 h ∧ still1 d5 d6 h ∧ app 126 1 8 [(.pointer none)] d7 d8 h fun d9 h=>still1 d2 d3 h ∧ still1 d5 d6 h ∧ nilck d6 fun g0=>store1 g0 d9 h fun h=>nilck s0 fun g1=>fld 2 g1 fun g2=>load1 g2 h fun g3=>loadN 2 v h fun g4=>(mkSl (if 0 * 2 = 0 then [] else zeros [(.int .i64 0), (.int .i64 0)] 0) 0 [] 31 h fun g5 h=>still1 g2 g3 h ∧ stillN 2 v g4 h ∧ mkSl (if 1 * 2 = 0 then [] else zeros [(.int .i64 0), (.int .i64 0)] 1) 1 [(0 * 2, 2, g4)] 31 h fun g6 h=>still1 g2 g3 h ∧ app 31 2 16 [(.int .i64 0), (.int .i64 0)] g5 g6 h fun g7 h=>still1 g2 g3 h ∧ nilck g3 fun g8=>fld 2 g8 fun g9=>store1 g9 g7 h fun h=>nilck s0 fun i0=>fld 2 i0 fun i1=>load1 i1 h fun i2=>z0a_.call #[i2] h fun i3 h=>loadN 2 s4 h fun i4=>z0i_.call #[s0, i4, s2] h fun i5 h=>extr 0 i5 fun i6=>extr 1 i5 fun i7=>storeN 2 s6 i6 h fun h=>loadN 2 s6 h fun i8=>Q (.tuple #[i8, i7]) h) ∧ (mkSl (if 1 * 2 = 0 then [] else zeros [(.int .i64 0), (.int .i64 0)] 1) 1 [(0 * 2, 2, g4)] 31 h fun i9 h=>still1 g2 g3 h ∧ mkSl (if 0 * 2 = 0 then [] else zeros [(.int .i64 0), (.int .i64 0)] 0) 0 [] 31 h fun j0 h=>still1 g2 g3 h ∧ app 31 2 16 [(.int .i64 0), (.int .i64 0)] j0 i9 h fun j1 h=>still1 g2 g3 h ∧ nilck g3 fun j2=>fld 2 j2 fun j3=>store1 j3 j1 h fun h=>nilck s0 fun j4=>fld 2 j4 fun j5=>load1 j5 h fun j6=>z0a_.call #[j6] h fun j7 h=>loadN 2 s4 h fun j8=>z0i_.call #[s0, j8, s2] h fun j9 h=>extr 0 j9 fun k0=>extr 1 j9 fun k1=>storeN 2 s6 k0 h fun h=>loadN 2 s6 h fun k2=>Q (.tuple #[k2, k1]) h)) ∧ (mkSl (if 2 * 1 = 0 then [] else zeros [(.pointer none)] 2) 2 [(0 * 1, 1, o), (1 * 1, 1, q)] 126 h fun k3 h=>still1 d2 d3 h ∧ still1 d5 d6 h ∧ mkSl (if 0 * 1 = 0 then [] else zeros [(.pointer none)] 0) 0 [] 126 h fun k4 h=>still1 d2 d3 h ∧ still1 d5 d6 h ∧ app 126 1 8 [(.pointer none)] k4 k3 h fun k5 h=>still1 d2 d3 h ∧ still1 d5 d6 h ∧ nilck d6 fun k6=>store1 k6 k5 h fun h=>nilck s0 fun k7=>fld 2 k7 fun k8=>load1 k8 h fun k9=>loadN 2 v h fun l0=>(mkSl (if 0 * 2 = 0 then [] else zeros [(.int .i64 0), (.int .i64 0)] 0) 0 [] 31 h fun l1 h=>still1 k8 k9 h ∧ stillN 2 v l0 h ∧ mkSl (if 1 * 2 = 0 then [] else zeros [(.int .i64 0), (.int .i64 0)] 1) 1 [(0 * 2, 2, l0)] 31 h fun l2 h=>still1 k8 k9 h ∧ app 31 2 16 [(.int .i64 0), (.int .i64 0)] l1 l2 h fun l3 h=>still1 k8 k9 h ∧ nilck k9 fun l4=>fld 2 l4 fun l5=>store1 l5 l3 h fun h=>nilck s0 fun l6=>fld 2 l6 fun l7=>load1 l7 h fun l8=>z0a_.call #[l8] h fun l9 h=>loadN 2 s4 h fun m0=>z0i_.call #[s0, m0, s2] h fun m1 h=>extr 0 m1 fun m2=>extr 1 m1 fun m3=>storeN 2 s6 m2 h fun h=>loadN 2 s6 h fun m4=>Q (.tuple #[m4, m3]) h) ∧ (mkSl (if 1 * 2 = 0 then [] else zeros [(.int .i64 0), (.int .i64 0)] 1) 1 [(0 * 2, 2, l0)] 31 h fun m5 h=>still1 k8 k9 h ∧ mkSl (if 0 * 2 = 0 then [] else zeros [(.int .i64 0), (.int .i64 0)] 0) 0 [] 31 h fun m6 h=>still1 k8 k9 h ∧ app 31 2 16 [(.int .i64 0), (.int .i64 0)] m6 m5 h fun m7 h=>still1 k8 k9 h ∧ nilck k9 fun m8=>fld 2 m8 fun m9=>store1 m9 m7 h fun h=>nilck s0 fun n0=>fld 2 n0 fun n1=>load1 n1 h fun n2=>z0a_.call #[n2] h fun n3 h=>loadN 2 s4 h fun n4=>z0i_.call #[s0, n4, s2] h fun n5 h=>extr 0 n5 fun n6=>extr 1 n5 fun n7=>storeN 2 s6 n6 h fun h=>loadN 2 s6 h fun n8=>Q (.tuple #[n8, n7]) h))) (z0i_.j2 s0 s6 k h Q)
def z0i_.sh (a0 a1 a2 : Value) (h : Heap) (Q : Value → Heap → Prop) : Prop := box 31 a1 h fun b h=>alloc [(.int .i64 0), (.int .i64 0)] 31 h fun d h=>nilck a0 fun g=>fld 2 g fun i=>load1 i h fun j=>eqNilP j fun k=>ifV k (z10_.call #[a0, (.int .i64 0)] h fun l h=>z0g_.call #[a0, (.bool true)] h fun m h=>nilck a0 fun n=>fld 2 n fun o=>store1 o m h fun h=>nilck a0 fun p=>fld 2 p fun q=>load1 q h fun u=>loadN 2 b h fun v=>(mkSl (if 0 * 2 = 0 then [] else zeros [(.int .i64 0), (.int .i64 0)] 0) 0 [] 31 h fun w h=>still1 q u h ∧ stillN 2 b v h ∧ mkSl (if 1 * 2 = 0 then [] else zeros [(.int .i64 0), (.int .i64 0)] 1) 1 [(0 * 2, 2, v)] 31 h fun x h=>still1 q u h ∧ app 31 2 16 [(.int .i64 0), (.int .i64 0)] w x h fun y h=>still1 q u h ∧ nilck u fun z=>fld 2 z fun b0=>store1 b0 y h fun h=>nilck a0 fun b1=>fld 2 b1 fun b2=>load1 b2 h fun b3=>nilck b3 fun b4=>fld 1 b4 fun b5=>store1 b5 (.int .i64 1) h fun h=>nilck a0 fun b6=>fld 3 b6 fun b7=>store1 b7 (.int .i64 1) h fun h=>nilck a0 fun b8=>fld 7 b8 fun b9=>loadN 2 b9 h fun d0=>storeN 2 d d0 h fun h=>loadN 2 d h fun d1=>Q (.tuple #[d1, (.bool false)]) h) ∧ (mkSl (if 1 * 2 = 0 then [] else zeros [(.int .i64 0), (.int .i64 0)] 1) 1 [(0 * 2, 2, v)] 31 h fun d2 h=>still1 q u h ∧ mkSl (if 0 * 2 = 0 then [] else zeros [(.int .i64 0), (.int .i64 0)] 0) 0 [] 31 h fun d3 h=>still1 q u h ∧ app 31 2 16 [(.int .i64 0), (.int .i64 0)] d3 d2 h fun d4 h=>still1 q u h ∧ nilck u fun d5=>fld 2 d5 fun d6=>store1 d6 d4 h fun h=>nilck a0 fun d7=>fld 2 d7 fun d8=>load1 d8 h fun d9=>nilck d9 fun g0=>fld 1 g0 fun g1=>store1 g1 (.int .i64 1) h fun h=>nilck a0 fun g2=>fld 3 g2 fun g3=>store1 g3 (.int .i64 1) h fun h=>nilck a0 fun g4=>fld 7 g4 fun g5=>loadN 2 g5 h fun g6=>storeN 2 d g6 h fun h=>loadN 2 d h fun g7=>Q (.tuple #[g7, (.bool false)]) h)) (z0i_.j1 a0 a2 b d h Q)
theorem z0i_.body (a0 a1 a2 : Value) (h : Heap) (Q : Value → Heap → Prop) (H : z0i_.sh a0 a1 a2 h Q) : z0i_.call #[a0, a1, a2] h Q := by
 refine callsH_of (args := [a0, a1, a2]) Tryz.func83 rfl rfl ?_; unfold z0i_.sh at H; refine sR <| vl_n <| H_box H fun _ h H=> vl_n <| H_alloc TV_31 H fun _ h H=> nS (.bool false) rfl<|vl_e ?_; refine WPc_seq (fun e h=> z0i_.j1 (e 0) (e 2) (e 4) (e 6) h Q) ?_ (fun e h H=> ?_)
 rotate_left
 · unfold z0i_.j1 at H
   refine WPc_seq' <| W_drawn [0,0,2,6,0,0,63,127,255,255,255,511,3071,8191] (Tk 0<|Tk 1<|Tk 2<|Tk 3<|Tk 4<|Tk 5<|Al 6<|Tk 7<|Tk 8<|Tk 9<|Tk 10<|Al 11<|Tk 12<|Tk 13 .done) mixed (by kernel_rfl) <| pM (e 0) rfl rfl<|pM (e 0) rfl rfl<|pB rfl rfl TF_128_2 H fun _ _ H=> tkL rfl<|R_loadN TN_31 H fun _ _ _ _ H _ _=> pM (e 2) rfl rfl<|aE rfl<|H_call HB_91 H fun t54 h H=> ⟨(hskip rfl hnil), pM t54 rfl rfl<|pP rfl R_ext H fun _ H=> pP rfl R_ext H fun t56 H=> pP rfl R_ext H fun t57 H=> aE rfl<|H_storeN TS_31 H fun h H=> ⟨hnil, ?_⟩⟩
   refine pS t56 rfl rfl<|pS t57 rfl rfl<|vp_done ?_; refine WPc_seq (fun e h=> z0i_.j2 (e 0) (e 6) (e 7) h Q) ?_ (fun e h H=> ?_)
   rotate_left
   · unfold z0i_.j2 at H
     refine WPc_seq (fun e h=> z0i_.j3 (e 0) (e 6) h Q) ?_ (fun e h H=> ?_)
     rotate_left
     · unfold z0i_.j3 at H
       refine sR <| nM (e 0) rfl<|nT TF_128_3 T1_3 H fun _ _ _ H=> nP R_add H fun _ H=> nB TF_128_3 H fun _ _ H=> vl_n <| H_store1 TS_3 H fun h H=> vl_e <| sR <| nM (e 0) rfl<|nB TF_128_7 H fun _ _ H=> ?_; exact nLN TN_31 H fun _ H=> vl_n <| H_storeN TS_31 H fun h H=> nS (.bool false) rfl<|vl_e <| WPc_ret <| resH_of rfl<|resL_N TN_31 <| loadN_imp H fun r6 H=> resL_t <| H
     refine sR <| nM (e 7) rfl<|vl_e ?_; refine cI H (fun H=> ?_) fun H=> ?_
     · exact sR <| nLN TN_31 H fun _ H=> vl_n <| H_storeN TS_31 H fun h H=> nS (.bool true) rfl<|vl_e <| WPc_ret <| resH_of rfl<|resL_N TN_31 <| loadN_imp H fun r6 H=> resL_t <| H
     · exact WPc_skip <| H
   refine sR <| nM t57 rfl<|vl_e ?_; refine cI H (fun H=> ?_) fun H=> ?_
   · refine sR <| nM (e 0) rfl<|nM (e 0) rfl<|nB TF_128_2 H fun _ _ H=> vl_n <| H_call HB_85 H fun t63 h H=> nS t63 rfl<|vl_e <| sR <| nM (e 0) rfl<|nM t63 rfl<|vl_n <| H_call HB_92 H fun t67 h H=> nM t67 rfl<|nP R_ext H fun t68 H=> ?_
     refine nP R_ext H fun _ H=> vl_n <| H_alloc TV_31 H fun _ h H=> nS t68 rfl<|vl_n <| H_storeN TS_31 H fun h H=> vl_e <| sR <| nM (e 0) rfl<|nM (e 0) rfl<|vl_n <| H_call HB_90 H fun _ h H=> nB TF_128_2 H fun _ _ H=> vl_n <| H_store1 TS_126 H fun h H=> vl_e <| WPc_seq' ?_; refine W_drawn [0,1,3,7,15,31,63,0,128,384,896,1920,3968,8191,16383] (Tk 0<|Tk 1<|Tk 2<|Tk 3<|Tk 4<|Tk 5<|Tk 6<|Tk 7<|Tk 8<|Tk 9<|Tk 10<|Tk 11<|Al 12<|Tk 13<|Al 14 .done) mixed (by kernel_rfl) <| pM (e 0) rfl rfl<|pT rfl rfl rfl TF_128_2 T1_126 H fun _ _ _ _ hat78 H=> pT rfl rfl rfl TF_149_3 T1_147 H fun _ _ _ _ hat81 H=> pM (e 0) rfl rfl<|pT rfl rfl rfl TF_128_8 T1_3 H fun _ _ _ _ _ H=> pP rfl R_add H fun _ H=> aE rfl<|H_mks TZ_146 rfl H fun _ h ⟨S, S_2, H⟩=> ⟨(hskip rfl (hcons rfl (still_1 S_2 hat81) (hcons rfl (still_1 S hat78) hnil))), ?_⟩
     refine pP rfl R_nil H fun _ H=> aE rfl<|H_store1 TS_146 H fun h H=> ⟨(hskip rfl (hskip rfl hnil)), vp_done <| WPc_seq' <| W_drawn [0, 1, 3, 7, 15, 31, 63, 0, 0, 0, 768, 1920, 4095, 8191] (.take 0 (.take 1 (.take 2 (.take 3 (.take 4 (.take 5 (.take 6 (.take 8 (.take 9 (.alt 7 (.alt 10 (.alt 11 (.take 12 (.alt 13 .done .none)) .none) .none) (.alt 10 (.alt 7 (.alt 11 (.take 12 (.alt 13 .done .none)) .none) .none) .none))))))))))) mixed (by kernel_rfl) <| pM (e 0) rfl rfl<|pT rfl rfl rfl TF_128_2 T1_126 H fun _ _ _ _ hat92 H=> pT rfl rfl rfl TF_149_3 T1_147 H fun _ _ _ _ hat95 H=> pM t63 rfl rfl<|pM t68 rfl rfl ?_⟩
     obtain ⟨HA0, HA1⟩ := H; refine alt_n rfl ?_ ?_
     · have H := HA0
       clear HA0 HA1; refine H_mkSl TZ_146 (by decide) rfl H rfl fun _ h ⟨S_3, S_4, H⟩=> ⟨(hcons rfl (still_1 S_4 hat95) (hcons rfl (still_1 S_3 hat92) hnil)), ?_⟩
       refine aE rfl<|H_mkSl TZ_146 (by decide) rfl H rfl fun _ h ⟨S_5, S_6, H⟩=> ⟨(hcons rfl (still_1 S_6 hat95) (hcons rfl (still_1 S_5 hat92) hnil)), aE rfl<|H_app TZ_146 TU_146 H fun _ h ⟨S_7, S_8, H⟩=> ⟨(hcons rfl (still_1 S_8 hat95) (hcons rfl (still_1 S_7 hat92) hnil)), pP rfl R_nil H fun _ H=> aE rfl<|H_store1 TS_146 H fun h H=> ⟨(hskip rfl (hskip rfl hnil)), vp_done <| WPc_seq' <| W_drawn [0, 1, 3, 7, 0, 0, 32, 112, 255, 511, 1023] (.take 0 (.take 1 (.take 2 (.take 3 (.take 5 (.alt 4 (.alt 6 (.alt 7 (.take 8 (.take 9 (.alt 10 .done .none))) .none) .none) (.alt 6 (.alt 4 (.alt 7 (.take 8 (.take 9 (.alt 10 .done .none))) .none) .none) .none))))))) mixed (by kernel_rfl) <| pM (e 0) rfl rfl<|pT rfl rfl rfl TF_128_2 T1_126 H fun _ _ _ _ hat105 H=> tkL rfl<|R_loadN TN_31 H fun _ _ hat107 _ H _ hSt107=> ?_⟩⟩⟩
       obtain ⟨HA0, HA1⟩ := H; refine alt_n rfl ?_ ?_
       · have H := HA0
         clear HA0 HA1; refine H_mkSl TZ_29 (by decide) rfl H rfl fun _ h ⟨S_9, S_10, H⟩=> ⟨(hcons rfl (hSt107 _ (still_N S_10 hat107 rfl)) (hcons rfl (still_1 S_9 hat105) hnil)), ?_⟩
         refine aE rfl<|H_mkSl TZ_29 (by decide) rfl H rfl fun _ h ⟨S_11, H⟩=> ⟨(hskip rfl (hcons rfl (still_1 S_11 hat105) hnil)), aE rfl<|H_app TZ_29 TU_29 H fun _ h ⟨S_12, H⟩=> ⟨(hcons rfl (still_1 S_12 hat105) hnil), pB rfl rfl TF_149_2 H fun _ _ H=> aE rfl<|H_store1 TS_29 H fun h H=> ⟨(hskip rfl hnil), vp_done <| sR <| nM (e 0) rfl<|nT TF_128_2 T1_126 H fun _ _ _ H=> vl_n <| H_call HB_93 H fun _ h H=> vl_e <| sR ?_⟩⟩⟩
         exact nM (e 0) rfl<|nLN TN_31 H fun _ H=> nM (e 2) rfl<|vl_n <| H_call HB_83 H fun _ h H=> nP R_ext H fun _ H=> nP R_ext H fun t122 H=> vl_n <| H_storeN TS_31 H fun h H=> nS t122 rfl<|vl_e <| WPc_ret <| resH_of rfl<|resL_N TN_31 <| loadN_imp H fun r6 H=> resL_t <| H
       refine alt_n rfl ?_ vp_none
       have H := HA1
       clear HA0 HA1; refine H_mkSl TZ_29 (by decide) rfl H rfl fun _ h ⟨S_13, H⟩=> ⟨(hskip rfl (hcons rfl (still_1 S_13 hat105) hnil)), ?_⟩
       refine aE rfl<|H_mkSl TZ_29 (by decide) rfl H rfl fun _ h ⟨S_14, H⟩=> ⟨(hcons rfl (still_1 S_14 hat105) hnil), aE rfl<|H_app TZ_29 TU_29 H fun _ h ⟨S_15, H⟩=> ⟨(hcons rfl (still_1 S_15 hat105) hnil), pB rfl rfl TF_149_2 H fun _ _ H=> aE rfl<|H_store1 TS_29 H fun h H=> ⟨(hskip rfl hnil), vp_done <| sR <| nM (e 0) rfl<|nT TF_128_2 T1_126 H fun _ _ _ H=> vl_n <| H_call HB_93 H fun _ h H=> vl_e <| sR ?_⟩⟩⟩
       exact nM (e 0) rfl<|nLN TN_31 H fun _ H=> nM (e 2) rfl<|vl_n <| H_call HB_83 H fun _ h H=> nP R_ext H fun _ H=> nP R_ext H fun t122_2 H=> vl_n <| H_storeN TS_31 H fun h H=> nS t122_2 rfl<|vl_e <| WPc_ret <| resH_of rfl<|resL_N TN_31 <| loadN_imp H fun r6_2 H=> resL_t <| H
     refine alt_n rfl ?_ vp_none
     have H := HA1
     clear HA0 HA1; refine H_mkSl TZ_146 (by decide) rfl H rfl fun _ h ⟨S_16, S_17, H⟩=> ⟨(hcons rfl (still_1 S_17 hat95) (hcons rfl (still_1 S_16 hat92) hnil)), ?_⟩
     refine aE rfl<|H_mkSl TZ_146 (by decide) rfl H rfl fun _ h ⟨S_18, S_19, H⟩=> ⟨(hcons rfl (still_1 S_19 hat95) (hcons rfl (still_1 S_18 hat92) hnil)), aE rfl<|H_app TZ_146 TU_146 H fun _ h ⟨S_20, S_21, H⟩=> ⟨(hcons rfl (still_1 S_21 hat95) (hcons rfl (still_1 S_20 hat92) hnil)), pP rfl R_nil H fun _ H=> aE rfl<|H_store1 TS_146 H fun h H=> ⟨(hskip rfl (hskip rfl hnil)), vp_done <| WPc_seq' <| W_drawn [0, 1, 3, 7, 0, 0, 32, 112, 255, 511, 1023] (.take 0 (.take 1 (.take 2 (.take 3 (.take 5 (.alt 4 (.alt 6 (.alt 7 (.take 8 (.take 9 (.alt 10 .done .none))) .none) .none) (.alt 6 (.alt 4 (.alt 7 (.take 8 (.take 9 (.alt 10 .done .none))) .none) .none) .none))))))) mixed (by kernel_rfl) <| pM (e 0) rfl rfl<|pT rfl rfl rfl TF_128_2 T1_126 H fun _ _ _ _ hat105_2 H=> tkL rfl<|R_loadN TN_31 H fun _ _ hat107_2 _ H _ hSt107_2=> ?_⟩⟩⟩
     obtain ⟨HA0, HA1⟩ := H; refine alt_n rfl ?_ ?_
     · have H := HA0
       clear HA0 HA1; refine H_mkSl TZ_29 (by decide) rfl H rfl fun _ h ⟨S_22, S_23, H⟩=> ⟨(hcons rfl (hSt107_2 _ (still_N S_23 hat107_2 rfl)) (hcons rfl (still_1 S_22 hat105_2) hnil)), ?_⟩
       refine aE rfl<|H_mkSl TZ_29 (by decide) rfl H rfl fun _ h ⟨S_24, H⟩=> ⟨(hskip rfl (hcons rfl (still_1 S_24 hat105_2) hnil)), aE rfl<|H_app TZ_29 TU_29 H fun _ h ⟨S_25, H⟩=> ⟨(hcons rfl (still_1 S_25 hat105_2) hnil), pB rfl rfl TF_149_2 H fun _ _ H=> aE rfl<|H_store1 TS_29 H fun h H=> ⟨(hskip rfl hnil), vp_done <| sR <| nM (e 0) rfl<|nT TF_128_2 T1_126 H fun _ _ _ H=> vl_n <| H_call HB_93 H fun _ h H=> vl_e <| sR ?_⟩⟩⟩
       exact nM (e 0) rfl<|nLN TN_31 H fun _ H=> nM (e 2) rfl<|vl_n <| H_call HB_83 H fun _ h H=> nP R_ext H fun _ H=> nP R_ext H fun t122_3 H=> vl_n <| H_storeN TS_31 H fun h H=> nS t122_3 rfl<|vl_e <| WPc_ret <| resH_of rfl<|resL_N TN_31 <| loadN_imp H fun r6_3 H=> resL_t <| H
     refine alt_n rfl ?_ vp_none
     have H := HA1
     clear HA0 HA1; refine H_mkSl TZ_29 (by decide) rfl H rfl fun _ h ⟨S_26, H⟩=> ⟨(hskip rfl (hcons rfl (still_1 S_26 hat105_2) hnil)), ?_⟩
     refine aE rfl<|H_mkSl TZ_29 (by decide) rfl H rfl fun _ h ⟨S_27, H⟩=> ⟨(hcons rfl (still_1 S_27 hat105_2) hnil), aE rfl<|H_app TZ_29 TU_29 H fun _ h ⟨S_28, H⟩=> ⟨(hcons rfl (still_1 S_28 hat105_2) hnil), pB rfl rfl TF_149_2 H fun _ _ H=> aE rfl<|H_store1 TS_29 H fun h H=> ⟨(hskip rfl hnil), vp_done <| sR <| nM (e 0) rfl<|nT TF_128_2 T1_126 H fun _ _ _ H=> vl_n <| H_call HB_93 H fun _ h H=> vl_e <| sR ?_⟩⟩⟩
     exact nM (e 0) rfl<|nLN TN_31 H fun _ H=> nM (e 2) rfl<|vl_n <| H_call HB_83 H fun _ h H=> nP R_ext H fun _ H=> nP R_ext H fun t122_4 H=> vl_n <| H_storeN TS_31 H fun h H=> nS t122_4 rfl<|vl_e <| WPc_ret <| resH_of rfl<|resL_N TN_31 <| loadN_imp H fun r6_4 H=> resL_t <| H
   · exact WPc_skip <| H
 refine sR <| nM a0 rfl<|nT TF_128_2 T1_126 H fun _ _ _ H=> nP (R_eqNilP Tryz.underlying126 rfl) H fun _ H=> vl_e ?_; refine cI H (fun H=> ?_) fun H=> ?_
 · refine sR <| nM a0 rfl<|vl_n <| H_call HB_71 H fun _ h H=> vl_e <| sR <| nM a0 rfl<|nM a0 rfl<|vl_n <| H_call HB_90 H fun _ h H=> nB TF_128_2 H fun _ _ H=> vl_n <| H_store1 TS_126 H fun h H=> vl_e <| WPc_seq' <| W_drawn [0, 1, 3, 7, 0, 0, 32, 112, 255, 511, 1023] (.take 0 (.take 1 (.take 2 (.take 3 (.take 5 (.alt 4 (.alt 6 (.alt 7 (.take 8 (.take 9 (.alt 10 .done .none))) .none) .none) (.alt 6 (.alt 4 (.alt 7 (.take 8 (.take 9 (.alt 10 .done .none))) .none) .none) .none))))))) mixed (by kernel_rfl) ?_
   refine pM a0 rfl rfl<|pT rfl rfl rfl TF_128_2 T1_126 H fun _ _ _ _ hat27 H=> tkL rfl<|R_loadN TN_31 H fun _ _ hat29 _ H _ hSt29=> ?_; obtain ⟨HA0, HA1⟩ := H; refine alt_n rfl ?_ ?_
   · have H := HA0
     clear HA0 HA1; refine H_mkSl TZ_29 (by decide) rfl H rfl fun _ h ⟨S, S_2, H⟩=> ⟨(hcons rfl (hSt29 _ (still_N S_2 hat29 rfl)) (hcons rfl (still_1 S hat27) hnil)), ?_⟩
     refine aE rfl<|H_mkSl TZ_29 (by decide) rfl H rfl fun _ h ⟨S_3, H⟩=> ⟨(hskip rfl (hcons rfl (still_1 S_3 hat27) hnil)), aE rfl<|H_app TZ_29 TU_29 H fun _ h ⟨S_4, H⟩=> ⟨(hcons rfl (still_1 S_4 hat27) hnil), pB rfl rfl TF_149_2 H fun _ _ H=> aE rfl<|H_store1 TS_29 H fun h H=> ⟨(hskip rfl hnil), vp_done <| sR <| nM a0 rfl<|nT TF_128_2 T1_126 H fun _ _ _ H=> nB TF_149_1 H fun _ _ H=> vl_n <| H_store1 TS_3 H fun h H=> ?_⟩⟩⟩
     refine vl_e <| sR <| nM a0 rfl<|nB TF_128_3 H fun _ _ H=> vl_n <| H_store1 TS_3 H fun h H=> vl_e <| sR <| nM a0 rfl<|nB TF_128_7 H fun _ _ H=> nLN TN_31 H fun _ H=> vl_n <| H_storeN TS_31 H fun h H=> nS (.bool false) rfl ?_; exact vl_e <| WPc_ret <| resH_of rfl<|resL_N TN_31 <| loadN_imp H fun r6 H=> resL_t <| H
   refine alt_n rfl ?_ vp_none
   have H := HA1
   clear HA0 HA1; refine H_mkSl TZ_29 (by decide) rfl H rfl fun _ h ⟨S_5, H⟩=> ⟨(hskip rfl (hcons rfl (still_1 S_5 hat27) hnil)), ?_⟩
   refine aE rfl<|H_mkSl TZ_29 (by decide) rfl H rfl fun _ h ⟨S_6, H⟩=> ⟨(hcons rfl (still_1 S_6 hat27) hnil), aE rfl<|H_app TZ_29 TU_29 H fun _ h ⟨S_7, H⟩=> ⟨(hcons rfl (still_1 S_7 hat27) hnil), pB rfl rfl TF_149_2 H fun _ _ H=> aE rfl<|H_store1 TS_29 H fun h H=> ⟨(hskip rfl hnil), vp_done <| sR <| nM a0 rfl<|nT TF_128_2 T1_126 H fun _ _ _ H=> nB TF_149_1 H fun _ _ H=> vl_n <| H_store1 TS_3 H fun h H=> ?_⟩⟩⟩
   refine vl_e <| sR <| nM a0 rfl<|nB TF_128_3 H fun _ _ H=> vl_n <| H_store1 TS_3 H fun h H=> vl_e <| sR <| nM a0 rfl<|nB TF_128_7 H fun _ _ H=> nLN TN_31 H fun _ H=> vl_n <| H_storeN TS_31 H fun h H=> nS (.bool false) rfl ?_; exact vl_e <| WPc_ret <| resH_of rfl<|resL_N TN_31 <| loadN_imp H fun r6_2 H=> resL_t <| H
 · exact WPc_skip <| H
def z0d_.sh (a0 a1 a2 : Value) (h : Heap) (Q : Value → Heap → Prop) : Prop := box 31 a1 h fun b h=>alloc [(.int .i64 0), (.int .i64 0)] 31 h fun d h=>loadN 2 b h fun g=>z0i_.call #[a0, g, a2] h fun i h=>extr 0 i fun j=>extr 1 i fun k=>storeN 2 d j h fun h=>loadN 2 d h fun l=>storeN 2 d l h fun h=>loadN 2 d h fun m=>Q (.tuple #[m, k]) h
theorem z0d_.body (a0 a1 a2 : Value) (h : Heap) (Q : Value → Heap → Prop) (H : z0d_.sh a0 a1 a2 h Q) : z0d_.call #[a0, a1, a2] h Q := by
 refine callsH_of (args := [a0, a1, a2]) Tryz.func69 rfl rfl ?_; unfold z0d_.sh at H; refine sR <| vl_n <| H_box H fun _ h H=> vl_n <| H_alloc TV_31 H fun _ h H=> nS (.bool false) rfl<|vl_e <| sR <| nM a0 rfl<|nLN TN_31 H fun _ H=> nM a2 rfl<|vl_n <| H_call HB_83 H fun t12 h H=> nM t12 rfl<|nP R_ext H fun _ H=> nP R_ext H fun t14 H=> vl_n <| H_storeN TS_31 H fun h H=> ?_; exact nS t14 rfl<|vl_e <| sR <| nLN TN_31 H fun _ H=> nM t14 rfl<|vl_n <| H_storeN TS_31 H fun h H=> nS t14 rfl<|vl_e <| WPc_ret <| resH_of rfl<|resL_N TN_31 <| loadN_imp H fun r6 H=> resL_t <| H
def z18_.sh (a0 a1 : Value) (h : Heap) (Q : Value → Heap → Prop) : Prop := box 31 a1 h fun b h=>alloc [(.int .i64 0), (.int .i64 0)] 31 h fun d h=>loadN 2 b h fun g=>z0d_.call #[a0, g, (.pointer none)] h fun i h=>extr 0 i fun j=>extr 1 i fun k=>storeN 2 d j h fun h=>loadN 2 d h fun l=>Q (.tuple #[l, k]) h
theorem z18_.body (a0 a1 : Value) (h : Heap) (Q : Value → Heap → Prop) (H : z18_.sh a0 a1 h Q) : z18_.call #[a0, a1] h Q := by
 refine callsH_of (args := [a0, a1]) Tryz.func52 rfl rfl ?_; unfold z18_.sh at H; refine sR <| vl_n <| H_box H fun _ h H=> vl_n <| H_alloc TV_31 H fun _ h H=> nS (.bool false) rfl<|vl_e <| sR <| nM a0 rfl<|nLN TN_31 H fun _ H=> vl_n <| H_call HB_69 H fun _ h H=> nP R_ext H fun _ H=> nP R_ext H fun t10 H=> vl_n <| H_storeN TS_31 H fun h H=> nS t10 rfl<|vl_e ?_; exact WPc_ret <| resH_of rfl<|resL_N TN_31 <| loadN_imp H fun r4 H=> resL_t <| H
def z25_.sh (a0 : Value) (h : Heap) (Q : Value → Heap → Prop) : Prop := nilck a0 fun b=>load1 b h fun d=>arith (· + ·) d (.int .u64 1) fun g=>nilck a0 fun i=>store1 i g h fun h=>nilck a0 fun j=>load1 j h fun k=>Q k h
theorem z25_.body (a0 : Value) (h : Heap) (Q : Value → Heap → Prop) (H : z25_.sh a0 h Q) : z25_.call #[a0] h Q := by
 refine callsH_of (args := [a0]) Tryz.func70 rfl rfl ?_; unfold z25_.sh at H; refine sR <| nS (.int .u64 0) rfl<|vl_e <| sR <| nM a0 rfl<|nP R_nil H fun _ H=> nL T1_78 H fun _ H=> nP R_add H fun _ H=> nP R_nil H fun _ H=> vl_n <| H_store1 TS_78 H fun h H=> vl_e <| sR <| nM a0 rfl<|nP R_nil H fun _ H=> ?_; exact nL T1_78 H fun t10 H=> nS t10 rfl<|vl_e <| WPc_ret <| resH_of rfl<|H
def z09_.sh (a0 a1 : Value) (h : Heap) (Q : Value → Heap → Prop) : Prop := box 106 a1 h fun b h=>alloc [(.int .u64 0), (.pointer none), (.pointer none), (.int .i64 0), (.bool false), (.bool false), .nilFunc, (.int .i64 0), (.int .i64 0), (.int .i64 0), (.int .i64 0)] 128 h fun d h=>alloc [(.int .u64 0)] 78 h fun g h=>nilck d fun i=>fld 1 i fun j=>store1 j g h fun h=>nilck d fun k=>fld 1 k fun l=>load1 l h fun m=>z25_.call #[m] h fun n h=>nilck d fun o=>fld 0 o fun p=>store1 p n h fun h=>nilck d fun q=>fld 6 q fun u=>store1 u a0 h fun h=>fld 0 b fun v=>load1 v h fun w=>z10_.call #[d, w] h fun x h=>Q d h
theorem z09_.body (a0 a1 : Value) (h : Heap) (Q : Value → Heap → Prop) (H : z09_.sh a0 a1 h Q) : z09_.call #[a0, a1] h Q := by
 refine callsH_of (args := [a0, a1]) Tryz.func53 rfl rfl ?_; unfold z09_.sh at H; refine sR <| vl_n <| H_box H fun _ h H=> nS (.pointer none) rfl<|vl_e <| sR <| vl_n <| H_alloc TV_128 H fun t6 h H=> nS t6 rfl<|vl_e <| sR <| nM t6 rfl<|vl_n <| H_alloc TV_78 H fun _ h H=> nB TF_128_1 H fun _ _ H=> vl_n <| H_store1 TS_79 H fun h H=> ?_; refine vl_e <| sR <| nM t6 rfl<|nM t6 rfl<|nT TF_128_1 T1_79 H fun _ _ _ H=> vl_n <| H_call HB_70 H fun _ h H=> nB TF_128_0 H fun _ _ H=> vl_n <| H_store1 TS_78 H fun h H=> vl_e <| sR <| nM t6 rfl ?_; refine nM a0 rfl<|nB TF_128_6 H fun _ _ H=> vl_n <| H_store1 TS_103 H fun h H=> vl_e <| sR <| nM t6 rfl<|nP (R_fld TF_106_0) H fun _ H=> nL T1_3 H fun _ H=> vl_n <| H_call HB_71 H fun _ h H=> vl_e <| sR <| nM t6 rfl<|nS t6 rfl ?_; exact vl_e <| WPc_ret <| resH_of rfl<|H
def z15_.j1 (s0 : Value) (h : Heap) (Q : Value → Heap → Prop) : Prop := mkSl (if 0 * 1 = 0 then [] else zeros [(.int .i64 0)] 0) 0 [] 3 h fun b h=>app 3 1 8 [(.int .i64 0)] b s0 h fun d h=>Q d h
def z15_.sh (a0 : Value) (h : Heap) (Q : Value → Heap → Prop) : Prop := eqNilS a0 fun b=>ifV b (Q (.slice none 0 0) h) (z15_.j1 a0 h Q)
theorem z15_.body (a0 : Value) (h : Heap) (Q : Value → Heap → Prop) (H : z15_.sh a0 h Q) : z15_.call #[a0] h Q := by
 refine callsH_of (args := [a0]) Tryz.func72 rfl rfl ?_; unfold z15_.sh at H; refine sR <| nS (.slice none 0 0) rfl<|vl_e ?_; refine WPc_seq (fun e h=> z15_.j1 (e 0) h Q) ?_ (fun e h H=> ?_)
 rotate_left
 · unfold z15_.j1 at H
   exact sR <| vl_n <| H_mkSl TZ_25 (by decide) rfl H rfl fun _ h H=> nM (e 0) rfl<|vl_n <| H_app TZ_25 TU_25 H fun t7 h H=> nS t7 rfl<|vl_e <| WPc_ret <| resH_of rfl<|H
 refine sR <| nM a0 rfl<|nP (R_eqNilS Tryz.underlying25 rfl) H fun _ H=> vl_e ?_; refine cI H (fun H=> ?_) fun H=> ?_
 · exact sR <| nS (.slice none 0 0) rfl<|vl_e <| WPc_ret <| resH_of rfl<|H
 · exact WPc_skip <| H
def z1g_.sh (a0 a1 : Value) (h : Heap) (Q : Value → Heap → Prop) : Prop := remi a0 a1 fun b=>arith (· + ·) b a1 fun d=>remi d a1 fun g=>Q g h
theorem z1g_.body (a0 a1 : Value) (h : Heap) (Q : Value → Heap → Prop) (H : z1g_.sh a0 a1 h Q) : z1g_.call #[a0, a1] h Q := by
 refine callsH_of (args := [a0, a1]) Tryz.func84 rfl rfl ?_; unfold z1g_.sh at H; refine sR <| nS (.int .i64 0) rfl<|vl_e <| sR <| nM a0 rfl<|nM a1 rfl<|nP R_rem H fun _ H=> nM a1 rfl<|nP R_add H fun _ H=> nM a1 rfl<|nP R_rem H fun t11 H=> nS t11 rfl<|vl_e <| WPc_ret ?_; exact resH_of rfl<|H
def z2h_.j1 (s0 s1 : Value) (h : Heap) (Q : Value → Heap → Prop) : Prop := lenV s0 fun b=>z1g_.call #[s1, b] h fun d h=>idx 1 s0 d fun g=>load1 g h fun i=>Q i h
def z2h_.sh (a0 a1 : Value) (h : Heap) (Q : Value → Heap → Prop) : Prop := lenV a0 fun b=>cmpI (fun a b=> a == b) b (.int .i64 0) fun d=>ifV d (Q a1 h) (z2h_.j1 a0 a1 h Q)
theorem z2h_.body (a0 a1 : Value) (h : Heap) (Q : Value → Heap → Prop) (H : z2h_.sh a0 a1 h Q) : z2h_.call #[a0, a1] h Q := by
 refine callsH_of (args := [a0, a1]) Tryz.func74 rfl rfl ?_; unfold z2h_.sh at H; refine sR <| nS (.int .i64 0) rfl<|vl_e ?_; refine WPc_seq (fun e h=> z2h_.j1 (e 0) (e 1) h Q) ?_ (fun e h H=> ?_)
 rotate_left
 · unfold z2h_.j1 at H
   exact sR <| nM (e 0) rfl<|nM (e 1) rfl<|nM (e 0) rfl<|nP (R_len Tryz.underlying25) H fun _ H=> vl_n <| H_call HB_84 H fun _ h H=> nP (R_idx TE_25) H fun _ H=> nL T1_3 H fun t15 H=> nS t15 rfl<|vl_e <| WPc_ret <| resH_of rfl<|H
 refine sR <| nM a0 rfl<|nP (R_len Tryz.underlying25) H fun _ H=> nP R_eqI H fun _ H=> vl_e ?_; refine cI H (fun H=> ?_) fun H=> ?_
 · exact sR <| nM a1 rfl<|nS a1 rfl<|vl_e <| WPc_ret <| resH_of rfl<|H
 · exact WPc_skip <| H
def z1f_.sh (a0 a1 f0 : Value) (h : Heap) (Q : Value → Heap → Prop) : Prop := box 31 a0 h fun b h=>box 31 a1 h fun d h=>load1 f0 h fun g=>fld 0 b fun i=>load1 i h fun j=>load1 f0 h fun k=>fld 0 d fun l=>load1 l h fun m=>z2h_.call #[g, j] h fun n h=>still1 f0 k h ∧ still1 l m h ∧ z2h_.call #[k, m] h fun o h=>cmpI (fun a b=> decide (a < b)) n o fun p=>Q p h
theorem z1f_.body (a0 a1 f0 : Value) (h : Heap) (Q : Value → Heap → Prop) (H : z1f_.sh a0 a1 f0 h Q) : z1f_.call #[a0, a1, f0] h Q := by
 refine callsH_of (args := [a0, a1, f0]) Tryz.func73 rfl rfl ?_; unfold z1f_.sh at H; refine sR <| vl_n <| H_box H fun _ h H=> vl_n <| H_box H fun _ h H=> nS (.bool false) rfl<|vl_e <| WPc_seq' <| W_drawn [0,0,2,7,0,0,32,127,255,511] (Tk 0<|Tk 1<|Tk 2<|Tk 4<|Tk 5<|Tk 6<|Al 3<|Al 7<|Tk 8<|Tk 9 .done) mixed (by kernel_rfl) <| pL rfl T1_25 H fun _ _ _ H=> pP rfl (R_fld TF_31_0) H fun _ H=> pL rfl T1_3 H fun _ _ _ H=> pL rfl T1_25 H fun _ _ hat10 H=> pP rfl (R_fld TF_31_0) H fun _ H=> pL rfl T1_3 H fun _ _ hat12 H=> aE rfl<|H_call HB_74 H fun _ h ⟨S, S_2, H⟩=> ⟨(hcons rfl (still_1 S_2 hat12) (hcons rfl (still_1 S hat10) (hskip rfl (hskip rfl hnil)))), ?_⟩
 exact aE rfl<|H_call HB_74 H fun _ h H=> ⟨(hskip rfl (hskip rfl hnil)), pP rfl R_lss H fun t14 H=> pS t14 rfl rfl<|vp_done <| WPc_ret <| resH_of rfl<|H⟩
def z21_.sh (a0 : Value) (h : Heap) (Q : Value → Heap → Prop) : Prop := z15_.call #[a0] h fun b h=>alloc [(.slice none 0 0)] 25 h fun d h=>store1 d b h fun h=>Q (.func (.func 73) #[] #[d]) h
theorem z21_.body (a0 : Value) (h : Heap) (Q : Value → Heap → Prop) (H : z21_.sh a0 h Q) : z21_.call #[a0] h Q := by
 refine callsH_of (args := [a0]) Tryz.func54 rfl rfl ?_; unfold z21_.sh at H; refine sR <| nS .nilFunc rfl<|vl_e <| sR <| nM a0 rfl<|vl_n <| H_call HB_72 H fun _ h H=> vl_n <| H_alloc TV_25 H fun t3 h H=> vl_n <| H_store1 TS_25 H fun h H=> vl_e <| sR <| nA (R_mkFn (v := (.func (.func 73) #[] #[t3])) rfl) <| nS (.func (.func 73) #[] #[t3]) rfl<|vl_e <| WPc_ret ?_; exact resH_of rfl<|H
def z1v_.sh (a0 : Value) (h : Heap) (Q : Value → Heap → Prop) : Prop := box 27 a0 h fun b h=>alloc [(.int .i64 0), (.bool false)] 106 h fun d h=>fld 1 b fun g=>load1 g h fun i=>fld 2 b fun j=>load1 j h fun k=>buildV [(.int .i64 0), (.bool false)] [(0, 1, i), (1, 1, k)] fun l=>storeN 2 d l h fun h=>loadN 2 d h fun m=>Q m h
theorem z1v_.body (a0 : Value) (h : Heap) (Q : Value → Heap → Prop) (H : z1v_.sh a0 h Q) : z1v_.call #[a0] h Q := by
 refine callsH_of (args := [a0]) Tryz.func55 rfl rfl ?_; unfold z1v_.sh at H; refine sR <| vl_n <| H_box H fun _ h H=> vl_n <| H_alloc TV_106 H fun _ h H=> vl_e <| sR <| nP (R_fld TF_27_1) H fun _ H=> nL T1_3 H fun _ H=> nP (R_fld TF_27_2) H fun _ H=> nL T1_4 H fun _ H=> nP (R_build TB_106 rfl (by decide)) H fun _ H=> vl_n <| H_storeN TS_106 H fun h H=> vl_e <| WPc_ret <| resH_of rfl ?_; exact resL_N TN_106 <| loadN_imp H fun r2 H=> H
def z2f_.j1 (s5 : Value) (h : Heap) (Q : Value → Heap → Prop) : Prop := Q s5 h
def z2f_.j4 (s5 s14 s15 s16 : Value) (h : Heap) (K1 : List Value → Heap → Prop) (Q : Value → Heap → Prop) : Prop := arith (· + ·) s16 (.int .i64 1) fun b=>K1 [b] h
def z2f_.j3 (s5 s14 s15 s16 : Value) (h : Heap) (K1 : List Value → Heap → Prop) (Q : Value → Heap → Prop) : Prop := idx 2 s14 s16 fun b=>loadN 2 b h fun d=>alloc [(.int .i64 0), (.int .i64 0)] 31 h fun g h=>storeN 2 g d h fun h=>loadN 2 g h fun i=>z18_.call #[s5, i] h fun j h=>z2f_.j4 s5 s14 s15 s16 h K1 Q
def z2f_.l2.b (c5 c14 c15 s16 : Value) (h : Heap) (K1 : List Value → Heap → Prop) (Q : Value → Heap → Prop) : Prop := cmpI (fun a b=> decide (a < b)) s16 c15 fun b=>ifV b (z2f_.j3 c5 c14 c15 s16 h K1 Q) (z2f_.j1 c5 h Q)
def z2f_.sh (a0 a1 : Value) (h : Heap) (Q : Value → Heap → Prop) : Prop := box 27 a0 h fun b h=>fld 0 b fun d=>load1 d h fun g=>loadN 3 b h fun i=>z21_.call #[g] h fun j h=>stillN 3 b i h ∧ z1v_.call #[i] h fun k h=>z09_.call #[j, k] h fun l h=>lenV a1 fun m=>loopC (fun c s h K1=> z2f_.l2.b (c.getD 0 undef) (c.getD 1 undef) (c.getD 2 undef) (s.getD 0 undef) h K1 Q) [l, a1, m] [(.int .i64 0)] h
theorem z2f_.body (a0 a1 : Value) (h : Heap) (Q : Value → Heap → Prop) (H : z2f_.sh a0 a1 h Q) : z2f_.call #[a0, a1] h Q := by
 refine callsH_of (args := [a0, a1]) Tryz.func31 rfl rfl ?_; unfold z2f_.sh at H; refine sR <| vl_n <| H_box H fun _ h H=> nS (.pointer none) rfl<|vl_e <| WPc_seq' <| W_drawn [0,1,3,0,15,31,63] (Tk 0<|Tk 1<|Tk 3<|Al 2<|Al 4<|Al 5<|Tk 6 .done) mixed (by kernel_rfl) <| pP rfl (R_fld TF_27_0) H fun _ H=> pL rfl T1_25 H fun _ _ _ H=> tkL rfl<|R_loadN TN_27 H fun _ _ hat11 _ H _ hSt11=> aE rfl<|H_call HB_54 H fun _ h ⟨S, H⟩=> ⟨(hcons rfl (hSt11 _ (still_N S hat11 rfl)) (hskip rfl hnil)), aE rfl<|H_call HB_55 H fun _ h H=> ⟨(hskip rfl hnil), aE rfl<|H_call HB_53 H fun t13 h H=> ⟨hnil, pS t13 rfl rfl<|vp_done ?_⟩⟩⟩
 refine WPc_seq (fun e h=> z2f_.j1 (e 5) h Q) ?_ (fun e h H=> ?_)
 rotate_left
 · unfold z2f_.j1 at H
   exact sR <| nM (e 5) rfl<|nS (e 5) rfl<|vl_e <| WPc_ret <| resH_of rfl<|H
 refine sR <| nM a1 rfl<|nP (R_len Tryz.underlying29) H fun _ H=> nM (.int .i64 0) rfl<|vl_e <| WPc_block ?_; refine loop_at (fun e=> [e 16]) (fun e=> [e 5, e 14, e 15]) H rfl rfl ?_; intro K1 e1 h H hin1
 replace H : z2f_.l2.b (e1 5) (e1 14) (e1 15) (e1 16) h K1 Q := H
 unfold z2f_.l2.b at H; clear hin1; refine sR <| nP R_lss H fun _ H=> vl_e ?_; refine WPc_seq (fun e h=> z2f_.j3 (e 5) (e 14) (e 15) (e 16) h K1 Q ∧ [e1 5, e1 14, e1 15] = [e 5, e 14, e 15]) ?_ (fun e h ⟨H, hq1⟩=> ?_)
 rotate_left
 · unfold z2f_.j3 at H
   refine WPc_seq (fun e h=> z2f_.j4 (e 5) (e 14) (e 15) (e 16) h K1 Q ∧ [e1 5, e1 14, e1 15] = [e 5, e 14, e 15]) ?_ (fun e h ⟨H, hq1⟩=> ?_)
   rotate_left
   · unfold z2f_.j4 at H
     refine W_region (by kernel_rfl) <| nP R_add H fun t23 H=> nM t23 rfl<|vl_e ?_; exact ⟨H, hq1⟩
   refine WPc_block <| sR <| nP (R_idx TE_29) H fun _ H=> nLN TN_31 H fun _ H=> vl_n <| H_alloc TV_31 H fun _ h H=> vl_n <| H_storeN TS_31 H fun h H=> vl_e <| W_region (by kernel_rfl) <| nM (e 5) rfl<|nLN TN_31 H fun _ H=> vl_n <| H_call HB_52 H fun _ h H=> vl_e ?_; exact ⟨H, hq1⟩
 refine cI H (fun H=> ?_) fun H=> ?_
 · refine WPc_skip ?_
   exact ⟨H, rfl⟩
 · refine WPc_exit ?_
   exact H
def z11_.sh (a0 a1 : Value) (h : Heap) (Q : Value → Heap → Prop) : Prop := Q (.bool false) h
theorem z11_.body (a0 a1 : Value) (h : Heap) (Q : Value → Heap → Prop) (H : z11_.sh a0 a1 h Q) : z11_.call #[a0, a1] h Q := by
 refine callsH_of (args := [a0, a1]) Tryz.func75 rfl rfl ?_; unfold z11_.sh at H; exact sR <| nS (.bool false) rfl<|vl_e <| sR <| nS (.bool false) rfl<|vl_e <| WPc_ret <| resH_of rfl<|H
def z0z_.j1 (s0 s1 s3 s4 s7 : Value) (h : Heap) (Q : Value → Heap → Prop) : Prop := loadN 2 s7 h fun b=>z05_.call #[s0, s1, b, s3, s4] h fun d h=>extr 0 d fun g=>extr 1 d fun i=>Q (.tuple #[g, i]) h
def z0z_.sh (a0 a1 a2 a3 a4 : Value) (h : Heap) (Q : Value → Heap → Prop) : Prop := box 31 a2 h fun b h=>eqNilP a3 fun d=>ifV d (loadN 2 b h fun g=>z0e_.call #[a0, a1, g] h fun i h=>extr 0 i fun j=>extr 1 i fun k=>Q (.tuple #[j, k]) h) (z0z_.j1 a0 a1 a3 a4 b h Q)
theorem z0z_.body (a0 a1 a2 a3 a4 : Value) (h : Heap) (Q : Value → Heap → Prop) (H : z0z_.sh a0 a1 a2 a3 a4 h Q) : z0z_.call #[a0, a1, a2, a3, a4] h Q := by
 refine callsH_of (args := [a0, a1, a2, a3, a4]) Tryz.func86 rfl rfl ?_; unfold z0z_.sh at H; refine sR <| vl_n <| H_box H fun _ h H=> nS (.int .i64 0) rfl<|nS (.bool false) rfl<|vl_e ?_; refine WPc_seq (fun e h=> z0z_.j1 (e 0) (e 1) (e 3) (e 4) (e 7) h Q) ?_ (fun e h H=> ?_)
 rotate_left
 · unfold z0z_.j1 at H
   exact sR <| nM (e 0) rfl<|nM (e 1) rfl<|nLN TN_31 H fun _ H=> nM (e 3) rfl<|nM (e 4) rfl<|vl_n <| H_call HB_96 H fun _ h H=> nP R_ext H fun t26 H=> nP R_ext H fun t27 H=> nS t26 rfl<|nS t27 rfl<|vl_e <| WPc_ret <| resH_of rfl<|H
 refine sR <| nM a3 rfl<|nP (R_eqNilP Tryz.underlying130 rfl) H fun _ H=> vl_e ?_; refine cI H (fun H=> ?_) fun H=> ?_
 · exact sR <| nM a0 rfl<|nM a1 rfl<|nLN TN_31 H fun _ H=> vl_n <| H_call HB_95 H fun _ h H=> nP R_ext H fun t18 H=> nP R_ext H fun t19 H=> nS t18 rfl<|nS t19 rfl<|vl_e <| WPc_ret <| resH_of rfl<|H
 · exact WPc_skip <| H
end Go.Proofs.YthpmeccnddchpaaGreat
end
