/-
  Texts of this claim, laid together: S15 S16 S17 S2 S3 S4 S5 S6 S7 S8 S9 Kz G0 Ga.
  Conditions: as each of them tells.
-/
import Derived.Test.YtgnnidefbeoibaaGreatRGAlikeB2
set_option linter.unusedVariables false
set_option linter.unusedSimpArgs false
open List (append_assoc length_map mem_cons_of_mem)
set_option maxRecDepth 100000
set_option maxHeartbeats 8000000
section
namespace Go.Proofs.YtgnnidefbeoibaaGreat
open Go.Hp
def z1g_.j2 (s0 s1 s2 : Value) (h : Heap) (Q : Value → Heap → Prop) : Prop := nilck s0 fun b=>fld 2 b fun d=>z0f_.call #[s0, d, s1, s2] h fun g h=>Q (.tuple #[]) h
def z1g_.j1 (s0 s1 s2 : Value) (h : Heap) (Q : Value → Heap → Prop) : Prop := nilck s0 fun b=>fld 2 b fun d=>load1 d h fun g=>eqNilP g fun i=>ifV i (Q (.tuple #[]) h) (z1g_.j2 s0 s1 s2 h Q)
def z1g_.sh (a0 a1 a2 : Value) (h : Heap) (Q : Value → Heap → Prop) : Prop := z1e_.call #[a0, a2] h fun b h=>ifV b (False) (z1g_.j1 a0 a1 a2 h Q)
theorem z1g_.body (a0 a1 a2 : Value) (h : Heap) (Q : Value → Heap → Prop) (H : z1g_.sh a0 a1 a2 h Q) : z1g_.call #[a0, a1, a2] h Q := by
 refine callsH_of (args := [a0, a1, a2]) Tryz.func111 rfl rfl ?_; unfold z1g_.sh at H; refine WPc_seq (fun e h=> z1g_.j1 (e 0) (e 1) (e 2) h Q) ?_ (fun e h H=> ?_)
 rotate_left
 · unfold z1g_.j1 at H
   refine WPc_seq (fun e h=> z1g_.j2 (e 0) (e 1) (e 2) h Q) ?_ (fun e h H=> ?_)
   rotate_left
   · unfold z1g_.j2 at H
     exact W_region (by kernel_rfl) <| nM (e 0) rfl<|nM (e 0) rfl<|nB TF_162_2 H fun _ _ H=> nM (e 1) rfl<|nM (e 2) rfl<|vl_n <| H_call HB_138 H fun _ h H=> vl_e <| resH_of rfl<|H
   refine sR <| nM (e 0) rfl<|nT TF_162_2 T1_76 H fun _ _ _ H=> nP (R_eqNilP Tryz.underlying76 rfl) H fun _ H=> vl_e ?_; refine cI H (fun H=> ?_) fun H=> ?_
   · exact WPc_ret <| resH_of rfl<|H
   · exact WPc_skip <| H
 refine sR <| nM a0 rfl<|nM a2 rfl<|vl_n <| H_call HB_102 H fun _ h H=> vl_e ?_; refine cI H (fun H=> ?_) fun H=> ?_
 · refine W_region (by kernel_rfl) <| nM a0 rfl<|nM a2 rfl ?_
   refine vl_n ?_; exact H.elim
 · exact WPc_skip <| H
def z19_.sh (a0 a1 : Value) (h : Heap) (Q : Value → Heap → Prop) : Prop := z1g_.call #[a0, a1, (.bool false)] h fun b h=>Q (.tuple #[]) h
theorem z19_.body (a0 a1 : Value) (h : Heap) (Q : Value → Heap → Prop) (H : z19_.sh a0 a1 h Q) : z19_.call #[a0, a1] h Q := by
 refine callsH_of (args := [a0, a1]) Tryz.func58 rfl rfl ?_; unfold z19_.sh at H; exact W_region (by kernel_rfl) <| nM a0 rfl<|nM a1 rfl<|vl_n <| H_call HB_111 H fun _ h H=> vl_e <| resH_of rfl<|H
def z24_.sh (a0 f0 : Value) (h : Heap) (Q : Value → Heap → Prop) : Prop := load1 f0 h fun b=>app 45 2 16 [(.int .i64 0), (.int .i64 0)] (.slice none 0 0) a0 h fun d h=>still1 f0 b h ∧ callV Tryz.prog b #[d] h fun g h=>Q g h
theorem z24_.body (a0 f0 : Value) (h : Heap) (Q : Value → Heap → Prop) (H : z24_.sh a0 f0 h Q) : z24_.call #[a0, f0] h Q := by
 refine callsH_of (args := [a0, f0]) Tryz.func59 rfl rfl ?_; unfold z24_.sh at H; exact sR <| nS (.bool false) rfl<|vl_e <| WPc_seq' <| W_drawn [0,0,2,7,15] (Tk 0<|Tk 1<|Al 2<|Al 3<|Tk 4 .done) mixed (by kernel_rfl) <| pL rfl T1_95 H fun _ _ hat4 H=> pM a0 rfl rfl<|aE rfl<|H_app TZ_25 TU_25 H fun _ h ⟨S, H⟩=> ⟨(hcons rfl (still_1 S hat4) hnil), aE rfl<|H_callV H fun t7 h H=> ⟨(hskip rfl hnil), pS t7 rfl rfl<|vp_done <| WPc_ret <| resH_of rfl<|H⟩⟩
def z2m_.sh (a0 a1 a2 : Value) (h : Heap) (Q : Value → Heap → Prop) : Prop := box 24 a0 h fun b h=>alloc [(.slice none 0 0)] 50 h fun d h=>z0r_.call #[d, a2] h fun g h=>alloc [.nilFunc] 95 h fun i h=>store1 i g h fun h=>loadN 3 b h fun j=>z2v_.call #[j, a1] h fun k h=>z19_.call #[k, (.func (.func 59) #[] #[i])] h fun l h=>load1 d h fun m=>Q m h
theorem z2m_.body (a0 a1 a2 : Value) (h : Heap) (Q : Value → Heap → Prop) (H : z2m_.sh a0 a1 a2 h Q) : z2m_.call #[a0, a1, a2] h Q := by
 refine callsH_of (args := [a0, a1, a2]) Tryz.func24 rfl rfl ?_; unfold z2m_.sh at H; refine sR <| vl_n <| H_box H fun _ h H=> nS (.slice none 0 0) rfl<|vl_e <| sR <| vl_n <| H_alloc TV_50 H fun _ h H=> vl_e <| sR <| nM a2 rfl<|vl_n <| H_call HB_57 H fun _ h H=> vl_n <| H_alloc TV_95 H fun t8 h H=> vl_n <| H_store1 TS_95 H fun h H=> vl_e <| sR ?_; exact nLN TN_24 H fun _ H=> nM a1 rfl<|vl_n <| H_call HB_43 H fun _ h H=> nA (R_mkFn (v := (.func (.func 59) #[] #[t8])) rfl) <| vl_n <| H_call HB_58 H fun _ h H=> vl_e <| sR <| nL T1_50 H fun t16 H=> nS t16 rfl<|vl_e <| WPc_ret <| resH_of rfl<|H
def z0j_.sh (a0 a1 : Value) (h : Heap) (Q : Value → Heap → Prop) : Prop := z1g_.call #[a0, a1, (.bool true)] h fun b h=>Q (.tuple #[]) h
theorem z0j_.body (a0 a1 : Value) (h : Heap) (Q : Value → Heap → Prop) (H : z0j_.sh a0 a1 h Q) : z0j_.call #[a0, a1] h Q := by
 refine callsH_of (args := [a0, a1]) Tryz.func60 rfl rfl ?_; unfold z0j_.sh at H; exact W_region (by kernel_rfl) <| nM a0 rfl<|nM a1 rfl<|vl_n <| H_call HB_111 H fun _ h H=> vl_e <| resH_of rfl<|H
def z1i_.sh (a0 f0 : Value) (h : Heap) (Q : Value → Heap → Prop) : Prop := load1 f0 h fun b=>app 45 2 16 [(.int .i64 0), (.int .i64 0)] (.slice none 0 0) a0 h fun d h=>still1 f0 b h ∧ callV Tryz.prog b #[d] h fun g h=>Q g h
theorem z1i_.body (a0 f0 : Value) (h : Heap) (Q : Value → Heap → Prop) (H : z1i_.sh a0 f0 h Q) : z1i_.call #[a0, f0] h Q := by
 refine callsH_of (args := [a0, f0]) Tryz.func61 rfl rfl ?_; unfold z1i_.sh at H; exact sR <| nS (.bool false) rfl<|vl_e <| WPc_seq' <| W_drawn [0,0,2,7,15] (Tk 0<|Tk 1<|Al 2<|Al 3<|Tk 4 .done) mixed (by kernel_rfl) <| pL rfl T1_95 H fun _ _ hat4 H=> pM a0 rfl rfl<|aE rfl<|H_app TZ_25 TU_25 H fun _ h ⟨S, H⟩=> ⟨(hcons rfl (still_1 S hat4) hnil), aE rfl<|H_callV H fun t7 h H=> ⟨(hskip rfl hnil), pS t7 rfl rfl<|vp_done <| WPc_ret <| resH_of rfl<|H⟩⟩
def z23_.sh (a0 a1 a2 : Value) (h : Heap) (Q : Value → Heap → Prop) : Prop := box 24 a0 h fun b h=>alloc [(.slice none 0 0)] 50 h fun d h=>z0r_.call #[d, a2] h fun g h=>alloc [.nilFunc] 95 h fun i h=>store1 i g h fun h=>loadN 3 b h fun j=>z2v_.call #[j, a1] h fun k h=>z0j_.call #[k, (.func (.func 61) #[] #[i])] h fun l h=>load1 d h fun m=>Q m h
theorem z23_.body (a0 a1 a2 : Value) (h : Heap) (Q : Value → Heap → Prop) (H : z23_.sh a0 a1 a2 h Q) : z23_.call #[a0, a1, a2] h Q := by
 refine callsH_of (args := [a0, a1, a2]) Tryz.func25 rfl rfl ?_; unfold z23_.sh at H; refine sR <| vl_n <| H_box H fun _ h H=> nS (.slice none 0 0) rfl<|vl_e <| sR <| vl_n <| H_alloc TV_50 H fun _ h H=> vl_e <| sR <| nM a2 rfl<|vl_n <| H_call HB_57 H fun _ h H=> vl_n <| H_alloc TV_95 H fun t8 h H=> vl_n <| H_store1 TS_95 H fun h H=> vl_e <| sR ?_; exact nLN TN_24 H fun _ H=> nM a1 rfl<|vl_n <| H_call HB_43 H fun _ h H=> nA (R_mkFn (v := (.func (.func 61) #[] #[t8])) rfl) <| vl_n <| H_call HB_60 H fun _ h H=> vl_e <| sR <| nL T1_50 H fun t16 H=> nS t16 rfl<|vl_e <| WPc_ret <| resH_of rfl<|H
def z0e_.j2 (s0 s2 s3 s9 : Value) (h : Heap) (Q : Value → Heap → Prop) : Prop := nilck s9 fun b=>fld 3 b fun d=>load1 d h fun g=>nilck g fun i=>load1 i h fun j=>nilck s9 fun k=>fld 3 k fun l=>load1 l h fun m=>nilck m fun n=>load1 n h fun o=>lenV o fun p=>arith (· - ·) p (.int .i64 1) fun q=>idx 1 j q fun u=>z0e_.call #[s0, u, s2, s3] h fun v h=>Q v h
def z0e_.j5 (s0 s2 s3 s9 s11 : Value) (h : Heap) (K1 : List Value → Heap → Prop) (Q : Value → Heap → Prop) : Prop := arith (· + ·) s11 (.int .i64 1) fun b=>K1 [b] h
def z0e_.j6 (s0 s2 s3 s9 s11 : Value) (h : Heap) (K1 : List Value → Heap → Prop) (Q : Value → Heap → Prop) : Prop := nilck s9 fun b=>fld 2 b fun d=>load1 d h fun g=>idx 2 g s11 fun i=>loadN 2 i h fun j=>callV Tryz.prog s2 #[j] h fun k h=>notV k fun l=>ifV l (Q (.bool false) h) (z0e_.j5 s0 s2 s3 s9 s11 h K1 Q)
def z0e_.j4 (s0 s2 s3 s9 s11 : Value) (h : Heap) (K1 : List Value → Heap → Prop) (Q : Value → Heap → Prop) : Prop := nilck s9 fun b=>fld 3 b fun d=>load1 d h fun g=>nilck g fun i=>load1 i h fun j=>idx 1 j s11 fun k=>z0e_.call #[s0, k, s2, s3] h fun l h=>notV l fun m=>ifV m (Q (.bool false) h) (z0e_.j6 s0 s2 s3 s9 s11 h K1 Q)
def z0e_.l3.b (c0 c2 c3 c9 s11 : Value) (h : Heap) (K1 : List Value → Heap → Prop) (Q : Value → Heap → Prop) : Prop := nilck c9 fun b=>fld 2 b fun d=>load1 d h fun g=>lenV g fun i=>cmpI (fun a b=> decide (a < b)) s11 i fun j=>ifV j (z0e_.j4 c0 c2 c3 c9 s11 h K1 Q) (z0e_.j2 c0 c2 c3 c9 h Q)
def z0e_.j1 (s0 s2 s3 s9 : Value) (h : Heap) (Q : Value → Heap → Prop) : Prop := loopC (fun c s h K1=> z0e_.l3.b (c.getD 0 undef) (c.getD 1 undef) (c.getD 2 undef) (c.getD 3 undef) (s.getD 0 undef) h K1 Q) [s0, s2, s3, s9] [(.int .i64 0)] h
def z0e_.j7 (h : Heap) (Q : Value → Heap → Prop) : Prop := Q (.bool true) h
def z0e_.j10 (s2 s9 s10 : Value) (h : Heap) (K1 : List Value → Heap → Prop) (Q : Value → Heap → Prop) : Prop := arith (· + ·) s10 (.int .i64 1) fun b=>K1 [b] h
def z0e_.j9 (s2 s9 s10 : Value) (h : Heap) (K1 : List Value → Heap → Prop) (Q : Value → Heap → Prop) : Prop := nilck s9 fun b=>fld 2 b fun d=>load1 d h fun g=>idx 2 g s10 fun i=>loadN 2 i h fun j=>callV Tryz.prog s2 #[j] h fun k h=>notV k fun l=>ifV l (Q (.bool false) h) (z0e_.j10 s2 s9 s10 h K1 Q)
def z0e_.l8.b (c2 c9 s10 : Value) (h : Heap) (K1 : List Value → Heap → Prop) (Q : Value → Heap → Prop) : Prop := nilck c9 fun b=>fld 2 b fun d=>load1 d h fun g=>lenV g fun i=>cmpI (fun a b=> decide (a < b)) s10 i fun j=>ifV j (z0e_.j9 c2 c9 s10 h K1 Q) (z0e_.j7 h Q)
def z0e_.sh (a0 a1 a2 a3 : Value) (h : Heap) (Q : Value → Heap → Prop) : Prop := z0l_.call #[a0, a1, a3] h fun b h=>z20_.call #[b] h fun d h=>ifV d (loopC (fun c s h K1=> z0e_.l8.b (c.getD 0 undef) (c.getD 1 undef) (s.getD 0 undef) h K1 Q) [a2, b] [(.int .i64 0)] h) (z0e_.j1 a0 a2 a3 b h Q)
theorem z0e_.body (a0 a1 a2 a3 : Value) (h : Heap) (Q : Value → Heap → Prop) (H : z0e_.sh a0 a1 a2 a3 h Q) : z0e_.call #[a0, a1, a2, a3] h Q := by
 refine callsH_of (args := [a0, a1, a2, a3]) Tryz.func139 rfl rfl ?_; unfold z0e_.sh at H; refine sR <| nS (.bool false) rfl<|vl_e <| sR <| nM a0 rfl<|nM a1 rfl<|nM a3 rfl<|vl_n <| H_call HB_103 H fun t15 h H=> nS t15 rfl<|vl_e ?_; refine WPc_seq (fun e h=> z0e_.j1 (e 0) (e 2) (e 3) (e 9) h Q) ?_ (fun e h H=> ?_)
 rotate_left
 · unfold z0e_.j1 at H
   refine WPc_seq (fun e h=> z0e_.j2 (e 0) (e 2) (e 3) (e 9) h Q) ?_ (fun e h H=> ?_)
   rotate_left
   · unfold z0e_.j2 at H
     refine WPc_seq' <| W_drawn [0,0,2,6,14,30,62,0,128,384,896,1920,3968,8064,16256,32766,0,0,262143,524287] (Tk 0<|Tk 1<|Tk 2<|Tk 3<|Tk 4<|Tk 5<|Tk 6<|Tk 7<|Tk 8<|Tk 9<|Tk 10<|Tk 11<|Tk 12<|Tk 13<|Tk 14<|Tk 15<|Tk 16<|Tk 17<|Al 18<|Tk 19 .done) mixed (by kernel_rfl) <| pM (e 0) rfl rfl<|pM (e 9) rfl rfl<|pT rfl rfl rfl TF_167_3 T1_165 H fun _ _ _ _ _ H=> pP rfl R_nil H fun _ H=> pL rfl T1_168 H fun _ _ _ H=> pM (e 9) rfl rfl<|pT rfl rfl rfl TF_167_3 T1_165 H fun _ _ _ _ _ H=> pP rfl R_nil H fun _ H=> ?_; exact pL rfl T1_168 H fun _ _ _ H=> pP rfl (R_len Tryz.underlying168) H fun _ H=> pP rfl R_sub H fun _ H=> pP rfl (R_idx TE_168) H fun _ H=> pM (e 2) rfl rfl<|pM (e 3) rfl rfl<|aE rfl<|H_call HB_139 H fun t87 h H=> ⟨(hskip rfl (hskip rfl (hskip rfl (hskip rfl hnil)))), pS t87 rfl rfl<|vp_done <| WPc_ret <| resH_of rfl<|H⟩
   refine sR <| nS (.int .i64 0) rfl<|vl_e <| WPc_block ?_; refine loop_at (fun e=> [e 11]) (fun e=> [e 0, e 2, e 3, e 9]) H rfl rfl ?_; intro K1 e1 h H hin1
   replace H : z0e_.l3.b (e1 0) (e1 2) (e1 3) (e1 9) (e1 11) h K1 Q := H
   unfold z0e_.l3.b at H; clear hin1; refine WPc_seq (fun e h=> z0e_.j4 (e 0) (e 2) (e 3) (e 9) (e 11) h K1 Q ∧ [e1 0, e1 2, e1 3, e1 9] = [e 0, e 2, e 3, e 9]) ?_ (fun e h ⟨H, hq1⟩=> ?_)
   rotate_left
   · unfold z0e_.j4 at H
     refine WPc_seq (fun e h=> z0e_.j5 (e 0) (e 2) (e 3) (e 9) (e 11) h K1 Q ∧ [e1 0, e1 2, e1 3, e1 9] = [e 0, e 2, e 3, e 9]) ?_ (fun e h ⟨H, hq1⟩=> ?_)
     rotate_left
     · unfold z0e_.j5 at H
       refine W_region (by kernel_rfl) <| nM (e 11) rfl<|nP R_add H fun t45 H=> nS t45 rfl<|vl_e ?_; exact ⟨H, hq1⟩
     refine WPc_block ?_; refine WPc_seq (fun e h=> z0e_.j6 (e 0) (e 2) (e 3) (e 9) (e 11) h K1 Q ∧ [e1 0, e1 2, e1 3, e1 9] = [e 0, e 2, e 3, e 9]) ?_ (fun e h ⟨H, hq1⟩=> ?_)
     rotate_left
     · unfold z0e_.j6 at H
       refine sR <| nM (e 2) rfl<|nM (e 9) rfl<|nT TF_167_2 T1_25 H fun _ _ _ H=> nM (e 11) rfl<|nP (R_idx TE_25) H fun _ H=> nLN TN_45 H fun _ H=> vl_n <| H_callV H fun _ h H=> nP R_not H fun _ H=> vl_e ?_; refine cI H (fun H=> ?_) fun H=> ?_
       · exact sR <| nS (.bool false) rfl<|vl_e <| WPc_ret <| resH_of rfl<|H
       · refine WPc_skip ?_
         exact ⟨H, hq1⟩
     refine sR <| nM (e 0) rfl<|nM (e 9) rfl<|nT TF_167_3 T1_165 H fun _ _ _ H=> nP R_nil H fun _ H=> nL T1_168 H fun _ H=> nM (e 11) rfl<|nP (R_idx TE_168) H fun _ H=> nM (e 2) rfl<|nM (e 3) rfl<|vl_n <| H_call HB_139 H fun _ h H=> nP R_not H fun _ H=> ?_; refine vl_e ?_; refine cI H (fun H=> ?_) fun H=> ?_
     · exact sR <| nS (.bool false) rfl<|vl_e <| WPc_ret <| resH_of rfl<|H
     · refine WPc_skip ?_
       exact ⟨H, hq1⟩
   refine sR <| nM (e1 11) rfl<|nM (e1 9) rfl<|nT TF_167_2 T1_25 H fun _ _ _ H=> nP (R_len Tryz.underlying25) H fun _ H=> nP R_lss H fun _ H=> vl_e ?_; refine cI H (fun H=> ?_) fun H=> ?_
   · refine WPc_skip ?_
     exact ⟨H, rfl⟩
   · refine WPc_exit ?_
     exact H
 refine sR <| nM t15 rfl<|vl_n <| H_call HB_104 H fun _ h H=> vl_e ?_; refine cI H (fun H=> ?_) fun H=> ?_
 · refine WPc_seq (fun e h=> z0e_.j7 h Q) ?_ (fun e h H=> ?_)
   rotate_left
   · unfold z0e_.j7 at H
     exact sR <| nS (.bool true) rfl<|vl_e <| WPc_ret <| resH_of rfl<|H
   refine sR <| nS (.int .i64 0) rfl<|vl_e <| WPc_block ?_; refine loop_at (fun e=> [e 10]) (fun e=> [e 2, e 9]) H rfl rfl ?_; intro K1 e1 h H hin1
   replace H : z0e_.l8.b (e1 2) (e1 9) (e1 10) h K1 Q := H
   unfold z0e_.l8.b at H; clear hin1; refine WPc_seq (fun e h=> z0e_.j9 (e 2) (e 9) (e 10) h K1 Q ∧ [e1 2, e1 9] = [e 2, e 9]) ?_ (fun e h ⟨H, hq1⟩=> ?_)
   rotate_left
   · unfold z0e_.j9 at H
     refine WPc_seq (fun e h=> z0e_.j10 (e 2) (e 9) (e 10) h K1 Q ∧ [e1 2, e1 9] = [e 2, e 9]) ?_ (fun e h ⟨H, hq1⟩=> ?_)
     rotate_left
     · unfold z0e_.j10 at H
       refine W_region (by kernel_rfl) <| nM (e 10) rfl<|nP R_add H fun t26 H=> nS t26 rfl<|vl_e ?_; exact ⟨H, hq1⟩
     refine WPc_block <| sR <| nM (e 2) rfl<|nM (e 9) rfl<|nT TF_167_2 T1_25 H fun _ _ _ H=> nM (e 10) rfl<|nP (R_idx TE_25) H fun _ H=> nLN TN_45 H fun _ H=> vl_n <| H_callV H fun _ h H=> nP R_not H fun _ H=> vl_e ?_; refine cI H (fun H=> ?_) fun H=> ?_
     · exact sR <| nS (.bool false) rfl<|vl_e <| WPc_ret <| resH_of rfl<|H
     · refine WPc_skip ?_
       exact ⟨H, hq1⟩
   refine sR <| nM (e1 10) rfl<|nM (e1 9) rfl<|nT TF_167_2 T1_25 H fun _ _ _ H=> nP (R_len Tryz.underlying25) H fun _ H=> nP R_lss H fun _ H=> vl_e ?_; refine cI H (fun H=> ?_) fun H=> ?_
   · refine WPc_skip ?_
     exact ⟨H, rfl⟩
   · refine WPc_exit ?_
     exact H
 · exact WPc_skip <| H
def z1f_.j2 (s0 s1 s2 : Value) (h : Heap) (Q : Value → Heap → Prop) : Prop := nilck s0 fun b=>fld 2 b fun d=>z0e_.call #[s0, d, s1, s2] h fun g h=>Q (.tuple #[]) h
def z1f_.j1 (s0 s1 s2 : Value) (h : Heap) (Q : Value → Heap → Prop) : Prop := nilck s0 fun b=>fld 2 b fun d=>load1 d h fun g=>eqNilP g fun i=>ifV i (Q (.tuple #[]) h) (z1f_.j2 s0 s1 s2 h Q)
def z1f_.sh (a0 a1 a2 : Value) (h : Heap) (Q : Value → Heap → Prop) : Prop := z1e_.call #[a0, a2] h fun b h=>ifV b (False) (z1f_.j1 a0 a1 a2 h Q)
theorem z1f_.body (a0 a1 a2 : Value) (h : Heap) (Q : Value → Heap → Prop) (H : z1f_.sh a0 a1 a2 h Q) : z1f_.call #[a0, a1, a2] h Q := by
 refine callsH_of (args := [a0, a1, a2]) Tryz.func112 rfl rfl ?_; unfold z1f_.sh at H; refine WPc_seq (fun e h=> z1f_.j1 (e 0) (e 1) (e 2) h Q) ?_ (fun e h H=> ?_)
 rotate_left
 · unfold z1f_.j1 at H
   refine WPc_seq (fun e h=> z1f_.j2 (e 0) (e 1) (e 2) h Q) ?_ (fun e h H=> ?_)
   rotate_left
   · unfold z1f_.j2 at H
     exact W_region (by kernel_rfl) <| nM (e 0) rfl<|nM (e 0) rfl<|nB TF_162_2 H fun _ _ H=> nM (e 1) rfl<|nM (e 2) rfl<|vl_n <| H_call HB_139 H fun _ h H=> vl_e <| resH_of rfl<|H
   refine sR <| nM (e 0) rfl<|nT TF_162_2 T1_76 H fun _ _ _ H=> nP (R_eqNilP Tryz.underlying76 rfl) H fun _ H=> vl_e ?_; refine cI H (fun H=> ?_) fun H=> ?_
   · exact WPc_ret <| resH_of rfl<|H
   · exact WPc_skip <| H
 refine sR <| nM a0 rfl<|nM a2 rfl<|vl_n <| H_call HB_102 H fun _ h H=> vl_e ?_; refine cI H (fun H=> ?_) fun H=> ?_
 · refine W_region (by kernel_rfl) <| nM a0 rfl<|nM a2 rfl ?_
   refine vl_n ?_; exact H.elim
 · exact WPc_skip <| H
def z18_.sh (a0 a1 : Value) (h : Heap) (Q : Value → Heap → Prop) : Prop := z1f_.call #[a0, a1, (.bool false)] h fun b h=>Q (.tuple #[]) h
theorem z18_.body (a0 a1 : Value) (h : Heap) (Q : Value → Heap → Prop) (H : z18_.sh a0 a1 h Q) : z18_.call #[a0, a1] h Q := by
 refine callsH_of (args := [a0, a1]) Tryz.func62 rfl rfl ?_; unfold z18_.sh at H; exact W_region (by kernel_rfl) <| nM a0 rfl<|nM a1 rfl<|vl_n <| H_call HB_112 H fun _ h H=> vl_e <| resH_of rfl<|H
def z1v_.sh (a0 f0 f1 : Value) (h : Heap) (Q : Value → Heap → Prop) : Prop := box 45 a0 h fun b h=>load1 f0 h fun d=>load1 f0 h fun g=>nilck g fun i=>load1 i h fun j=>loadN 2 b h fun k=>mkSl (if 1 * 2 = 0 then [] else zeros [(.int .i64 0), (.int .i64 0)] 1) 1 [(0 * 2, 2, k)] 45 h fun l h=>still1 f0 d h ∧ still1 f0 g h ∧ still1 i j h ∧ app 45 2 16 [(.int .i64 0), (.int .i64 0)] j l h fun m h=>still1 f0 d h ∧ nilck d fun n=>store1 n m h fun h=>load1 f1 h fun o=>cmpI (fun a b=> decide (a < b)) o (.int .i64 1) fun p=>br p false (load1 f0 h fun q=>nilck q fun u=>load1 u h fun v=>lenV v fun w=>load1 f1 h fun x=>cmpI (fun a b=> decide (a < b)) w x fun y=>Q y h) (Q (.bool true) h)
theorem z1v_.body (a0 f0 f1 : Value) (h : Heap) (Q : Value → Heap → Prop) (H : z1v_.sh a0 f0 f1 h Q) : z1v_.call #[a0, f0, f1] h Q := by
 refine callsH_of (args := [a0, f0, f1]) Tryz.func113 rfl rfl ?_; unfold z1v_.sh at H; refine sR <| vl_n <| H_box H fun _ h H=> nS (.bool false) rfl<|vl_e <| WPc_seq' <| W_drawn [0,0,2,6,0,16,62,127,255] (Tk 0<|Tk 1<|Tk 2<|Tk 3<|Tk 4<|Al 5<|Al 6<|Tk 7<|Al 8 .done) mixed (by kernel_rfl) <| pL rfl T1_102 H fun _ _ hat5 H=> pL rfl T1_102 H fun _ _ hat6 H=> pP rfl R_nil H fun _ H=> pL rfl T1_25 H fun _ _ hat8 H=> tkL rfl<|R_loadN TN_45 H fun _ _ _ _ H _ _=> aE rfl<|H_mkSl TZ_25 (by decide) rfl H rfl fun _ h ⟨S, S_2, S_3, H⟩=> ⟨(hskip rfl (hcons rfl (still_1 S_3 hat8) (hcons rfl (still_1 S_2 hat6) (hcons rfl (still_1 S hat5) hnil)))), aE rfl<|H_app TZ_25 TU_25 H fun _ h ⟨S_4, H⟩=> ⟨(hskip rfl (hskip rfl (hcons rfl (still_1 S_4 hat5) hnil))), pP rfl R_nil H fun _ H=> ?_⟩⟩
 refine aE rfl<|H_store1 TS_25 H fun h H=> ⟨(hskip rfl hnil), vp_done <| WPc_seq' <| W_drawn [0,1,3,7,15,31,63,7,255,511,1023] (Tk 0<|Tk 1<|Tk 2<|Tk 3<|Tk 4<|Tk 5<|Tk 6<|Tk 7<|Tk 8<|Tk 9<|Tk 10 .done) mixed (by kernel_rfl) <| pL rfl T1_3 H fun _ _ _ H=> pP rfl R_lss H fun t14 H=> pM t14 rfl rfl ?_⟩
 obtain ⟨b, hb, H1, H2⟩ := H
 cases b
 · have H := H1 rfl
   clear H1 H2; refine tkLy rfl rfl hb ?_; refine R_load1 T1_102 H fun _ _ _ _ H=> ?_; refine tkPy rfl rfl hb ?_; refine R_nil H fun _ H=> ⟨fun _=> trivial, ?_⟩
   refine tkLy rfl rfl hb ?_; refine R_load1 T1_25 H fun _ _ _ _ H=> ?_; refine tkPy rfl rfl hb ?_; refine R_len Tryz.underlying25 H fun _ H=> ⟨fun _=> trivial, ?_⟩
   refine tkLy rfl rfl hb ?_; refine R_load1 T1_3 H fun _ _ _ _ H=> ?_; refine tkPy rfl rfl hb ?_; refine R_lss H fun t21 H=> ⟨fun _=> trivial, ?_⟩
   exact pA rfl (R_pickC (v := t21) false hb rfl) <| pS t21 rfl rfl<|vp_done <| WPc_ret <| resH_of rfl<|H
 · have H := H2 rfl
   clear H1 H2; refine tk_s rfl rfl (nbF hb) ?_; refine tk_s rfl rfl (nbF hb) ?_; refine tk_s rfl rfl (nbF hb) ?_; refine tk_s rfl rfl (nbF hb) ?_; refine tk_s rfl rfl (nbF hb) ?_; refine tk_s rfl rfl (nbF hb) ?_; exact pA rfl (R_pickC (v := (.bool true)) true hb rfl) <| pS (.bool true) rfl rfl<|vp_done <| WPc_ret <| resH_of rfl<|H
def z28_.sh (a0 a1 : Value) (h : Heap) (Q : Value → Heap → Prop) : Prop := box 102 a0 h fun b h=>box 3 a1 h fun d h=>Q (.func (.func 113) #[] #[b, d]) h
theorem z28_.body (a0 a1 : Value) (h : Heap) (Q : Value → Heap → Prop) (H : z28_.sh a0 a1 h Q) : z28_.call #[a0, a1] h Q := by
 refine callsH_of (args := [a0, a1]) Tryz.func63 rfl rfl ?_; unfold z28_.sh at H; exact sR <| vl_n <| H_box H fun t2 h H=> vl_n <| H_box H fun t3 h H=> nS .nilFunc rfl<|vl_e <| sR <| nA (R_mkFn (v := (.func (.func 113) #[] #[t2, t3])) rfl) <| nS (.func (.func 113) #[] #[t2, t3]) rfl<|vl_e <| WPc_ret <| resH_of rfl<|H
def z2l_.sh (a0 a1 a2 : Value) (h : Heap) (Q : Value → Heap → Prop) : Prop := box 24 a0 h fun b h=>alloc [(.slice none 0 0)] 25 h fun d h=>loadN 3 b h fun g=>z2v_.call #[g, a1] h fun i h=>z28_.call #[d, a2] h fun j h=>z18_.call #[i, j] h fun k h=>load1 d h fun l=>Q l h
theorem z2l_.body (a0 a1 a2 : Value) (h : Heap) (Q : Value → Heap → Prop) (H : z2l_.sh a0 a1 a2 h Q) : z2l_.call #[a0, a1, a2] h Q := by
 refine callsH_of (args := [a0, a1, a2]) Tryz.func26 rfl rfl ?_; unfold z2l_.sh at H; refine sR <| vl_n <| H_box H fun _ h H=> nS (.slice none 0 0) rfl<|vl_e <| sR <| vl_n <| H_alloc TV_25 H fun _ h H=> vl_e <| sR <| nLN TN_24 H fun _ H=> nM a1 rfl<|vl_n <| H_call HB_43 H fun _ h H=> nM a2 rfl<|vl_n <| H_call HB_63 H fun _ h H=> vl_n <| H_call HB_62 H fun _ h H=> ?_; exact vl_e <| sR <| nL T1_25 H fun t14 H=> nS t14 rfl<|vl_e <| WPc_ret <| resH_of rfl<|H
def z0a_.j1 (s0 : Value) (h : Heap) (Q : Value → Heap → Prop) : Prop := mkSl (if 0 * 2 = 0 then [] else zeros [(.int .i64 0), (.int .i64 0)] 0) 0 [] 45 h fun b h=>app 45 2 16 [(.int .i64 0), (.int .i64 0)] b s0 h fun d h=>Q d h
def z0a_.sh (a0 : Value) (h : Heap) (Q : Value → Heap → Prop) : Prop := eqNilS a0 fun b=>ifV b (Q (.slice none 0 0) h) (z0a_.j1 a0 h Q)
theorem z0a_.body (a0 : Value) (h : Heap) (Q : Value → Heap → Prop) (H : z0a_.sh a0 h Q) : z0a_.call #[a0] h Q := by
 refine callsH_of (args := [a0]) Tryz.func64 rfl rfl ?_; unfold z0a_.sh at H; refine sR <| nS (.slice none 0 0) rfl<|vl_e ?_; refine WPc_seq (fun e h=> z0a_.j1 (e 0) h Q) ?_ (fun e h H=> ?_)
 rotate_left
 · unfold z0a_.j1 at H
   exact sR <| vl_n <| H_mkSl TZ_25 (by decide) rfl H rfl fun _ h H=> nM (e 0) rfl<|vl_n <| H_app TZ_25 TU_25 H fun t7 h H=> nS t7 rfl<|vl_e <| WPc_ret <| resH_of rfl<|H
 refine sR <| nM a0 rfl<|nP (R_eqNilS Tryz.underlying25 rfl) H fun _ H=> vl_e ?_; refine cI H (fun H=> ?_) fun H=> ?_
 · exact sR <| nS (.slice none 0 0) rfl<|vl_e <| WPc_ret <| resH_of rfl<|H
 · exact WPc_skip <| H
def z02_.j3 (s0 s2 s3 : Value) (h : Heap) (K1 : List Value → Heap → Prop) (Q : Value → Heap → Prop) : Prop := arith (· + ·) s2 (.int .i64 1) fun b=>arith (· - ·) s3 (.int .i64 1) fun d=>K1 [b, d] h
def z02_.j2 (s0 s2 s3 : Value) (h : Heap) (K1 : List Value → Heap → Prop) (Q : Value → Heap → Prop) : Prop := idx 2 s0 s3 fun b=>loadN 2 b h fun d=>idx 2 s0 s2 fun g=>loadN 2 g h fun i=>idx 2 s0 s2 fun j=>storeN 2 j d h fun h=>idx 2 s0 s3 fun k=>storeN 2 k i h fun h=>z02_.j3 s0 s2 s3 h K1 Q
def z02_.l1.b (c0 s2 s3 : Value) (h : Heap) (K1 : List Value → Heap → Prop) (Q : Value → Heap → Prop) : Prop := cmpI (fun a b=> decide (a < b)) s2 s3 fun b=>ifV b (z02_.j2 c0 s2 s3 h K1 Q) (Q (.tuple #[]) h)
def z02_.sh (a0 : Value) (h : Heap) (Q : Value → Heap → Prop) : Prop := lenV a0 fun b=>arith (· - ·) b (.int .i64 1) fun d=>loopC (fun c s h K1=> z02_.l1.b (c.getD 0 undef) (s.getD 0 undef) (s.getD 1 undef) h K1 Q) [a0] [(.int .i64 0), d] h
theorem z02_.body (a0 : Value) (h : Heap) (Q : Value → Heap → Prop) (H : z02_.sh a0 h Q) : z02_.call #[a0] h Q := by
 refine callsH_of (args := [a0]) Tryz.func65 rfl rfl ?_; unfold z02_.sh at H; refine sR <| nM a0 rfl<|nP (R_len Tryz.underlying25) H fun _ H=> nP R_sub H fun t6 H=> nS (.int .i64 0) rfl<|nS t6 rfl<|vl_e <| WPc_block ?_; refine loop_at (fun e=> [e 2, e 3]) (fun e=> [e 0]) H rfl rfl ?_; intro K1 e1 h H hin1
 replace H : z02_.l1.b (e1 0) (e1 2) (e1 3) h K1 Q := H
 unfold z02_.l1.b at H; clear hin1; refine WPc_seq (fun e h=> z02_.j2 (e 0) (e 2) (e 3) h K1 Q ∧ [e1 0] = [e 0]) ?_ (fun e h ⟨H, hq1⟩=> ?_)
 rotate_left
 · unfold z02_.j2 at H
   refine WPc_seq (fun e h=> z02_.j3 (e 0) (e 2) (e 3) h K1 Q ∧ [e1 0] = [e 0]) ?_ (fun e h ⟨H, hq1⟩=> ?_)
   rotate_left
   · unfold z02_.j3 at H
     refine W_region (by kernel_rfl) <| nM (e 2) rfl<|nP R_add H fun t11 H=> nM (e 3) rfl<|nP R_sub H fun t13 H=> nS t11 rfl<|nS t13 rfl<|vl_e ?_; exact ⟨H, hq1⟩
   refine WPc_block <| W_drawn [0,0,0,0,0,0,48,112,0,0,768,1792,4083,8179,16383,32767] (Tk 0<|Tk 1<|Tk 2<|Tk 3<|Tk 4<|Tk 5<|Tk 6<|Tk 7<|Tk 8<|Tk 9<|Tk 10<|Tk 11<|Tk 12<|Al 13<|Tk 14<|Al 15 .done) mixed (by kernel_rfl) <| pM (e 0) rfl rfl<|pM (e 2) rfl rfl<|pM (e 0) rfl rfl<|pM (e 3) rfl rfl<|pM (e 0) rfl rfl<|pM (e 3) rfl rfl<|pP rfl (R_idx TE_25) H fun _ H=> tkL rfl<|R_loadN TN_45 H fun _ _ _ _ H _ _=> pM (e 0) rfl rfl<|pM (e 2) rfl rfl<|pP rfl (R_idx TE_25) H fun _ H=> tkL rfl<|R_loadN TN_45 H fun _ _ _ _ H _ _=> ?_; refine pP rfl (R_idx TE_25) H fun _ H=> aE rfl<|H_storeN TS_45 H fun h H=> ⟨(hskip rfl (hskip rfl hnil)), pP rfl (R_idx TE_25) H fun _ H=> aE rfl<|H_storeN TS_45 H fun h H=> ⟨hnil, vp_done ?_⟩⟩
   exact ⟨H, hq1⟩
 refine sR <| nM (e1 2) rfl<|nM (e1 3) rfl<|nP R_lss H fun _ H=> vl_e ?_; refine cI H (fun H=> ?_) fun H=> ?_
 · refine WPc_skip ?_
   exact ⟨H, rfl⟩
 · refine WPc_exit ?_
   exact resH_of rfl<|H
def z26_.sh (a0 : Value) (h : Heap) (Q : Value → Heap → Prop) : Prop := z0a_.call #[a0] h fun b h=>z02_.call #[b] h fun d h=>Q b h
theorem z26_.body (a0 : Value) (h : Heap) (Q : Value → Heap → Prop) (H : z26_.sh a0 h Q) : z26_.call #[a0] h Q := by
 refine callsH_of (args := [a0]) Tryz.func27 rfl rfl ?_; unfold z26_.sh at H; refine sR <| nS (.slice none 0 0) rfl<|vl_e <| sR <| nM a0 rfl<|vl_n <| H_call HB_64 H fun t5 h H=> nS t5 rfl<|vl_e <| sR <| nM t5 rfl<|vl_n <| H_call HB_65 H fun _ h H=> vl_e <| sR <| nM t5 rfl ?_; exact nS t5 rfl<|vl_e <| WPc_ret <| resH_of rfl<|H
def z01_.j3 (h : Heap) (Q : Value → Heap → Prop) : Prop := Q (.bool true) h
def z01_.j6 (s0 s2 s3 s9 s11 : Value) (h : Heap) (K1 : List Value → Heap → Prop) (Q : Value → Heap → Prop) : Prop := arith (· - ·) s11 (.int .i64 1) fun b=>K1 [b] h
def z01_.j7 (s0 s2 s3 s9 s11 : Value) (h : Heap) (K1 : List Value → Heap → Prop) (Q : Value → Heap → Prop) : Prop := nilck s9 fun b=>fld 3 b fun d=>load1 d h fun g=>nilck g fun i=>load1 i h fun j=>idx 1 j s11 fun k=>z01_.call #[s0, k, s2, s3] h fun l h=>notV l fun m=>ifV m (Q (.bool false) h) (z01_.j6 s0 s2 s3 s9 s11 h K1 Q)
def z01_.j5 (s0 s2 s3 s9 s11 : Value) (h : Heap) (K1 : List Value → Heap → Prop) (Q : Value → Heap → Prop) : Prop := nilck s9 fun b=>fld 2 b fun d=>load1 d h fun g=>idx 2 g s11 fun i=>loadN 2 i h fun j=>callV Tryz.prog s2 #[j] h fun k h=>notV k fun l=>ifV l (Q (.bool false) h) (z01_.j7 s0 s2 s3 s9 s11 h K1 Q)
def z01_.l4.b (c0 c2 c3 c9 s11 : Value) (h : Heap) (K1 : List Value → Heap → Prop) (Q : Value → Heap → Prop) : Prop := cmpI (fun a b=> decide (a ≥ b)) s11 (.int .i64 0) fun b=>ifV b (z01_.j5 c0 c2 c3 c9 s11 h K1 Q) (z01_.j3 h Q)
def z01_.j2 (s0 s2 s3 s9 : Value) (h : Heap) (Q : Value → Heap → Prop) : Prop := nilck s9 fun b=>fld 2 b fun d=>load1 d h fun g=>lenV g fun i=>arith (· - ·) i (.int .i64 1) fun j=>loopC (fun c s h K1=> z01_.l4.b (c.getD 0 undef) (c.getD 1 undef) (c.getD 2 undef) (c.getD 3 undef) (s.getD 0 undef) h K1 Q) [s0, s2, s3, s9] [j] h
def z01_.j1 (s0 s2 s3 s9 : Value) (h : Heap) (Q : Value → Heap → Prop) : Prop := nilck s9 fun b=>fld 3 b fun d=>load1 d h fun g=>nilck g fun i=>load1 i h fun j=>nilck s9 fun k=>fld 3 k fun l=>load1 l h fun m=>nilck m fun n=>load1 n h fun o=>lenV o fun p=>arith (· - ·) p (.int .i64 1) fun q=>idx 1 j q fun u=>z01_.call #[s0, u, s2, s3] h fun v h=>notV v fun w=>ifV w (Q (.bool false) h) (z01_.j2 s0 s2 s3 s9 h Q)
def z01_.j8 (h : Heap) (Q : Value → Heap → Prop) : Prop := Q (.bool true) h
def z01_.j11 (s2 s9 s10 : Value) (h : Heap) (K1 : List Value → Heap → Prop) (Q : Value → Heap → Prop) : Prop := arith (· - ·) s10 (.int .i64 1) fun b=>K1 [b] h
def z01_.j10 (s2 s9 s10 : Value) (h : Heap) (K1 : List Value → Heap → Prop) (Q : Value → Heap → Prop) : Prop := nilck s9 fun b=>fld 2 b fun d=>load1 d h fun g=>idx 2 g s10 fun i=>loadN 2 i h fun j=>callV Tryz.prog s2 #[j] h fun k h=>notV k fun l=>ifV l (Q (.bool false) h) (z01_.j11 s2 s9 s10 h K1 Q)
def z01_.l9.b (c2 c9 s10 : Value) (h : Heap) (K1 : List Value → Heap → Prop) (Q : Value → Heap → Prop) : Prop := cmpI (fun a b=> decide (a ≥ b)) s10 (.int .i64 0) fun b=>ifV b (z01_.j10 c2 c9 s10 h K1 Q) (z01_.j8 h Q)
def z01_.sh (a0 a1 a2 a3 : Value) (h : Heap) (Q : Value → Heap → Prop) : Prop := z0l_.call #[a0, a1, a3] h fun b h=>z20_.call #[b] h fun d h=>ifV d (nilck b fun g=>fld 2 g fun i=>load1 i h fun j=>lenV j fun k=>arith (· - ·) k (.int .i64 1) fun l=>loopC (fun c s h K1=> z01_.l9.b (c.getD 0 undef) (c.getD 1 undef) (s.getD 0 undef) h K1 Q) [a2, b] [l] h) (z01_.j1 a0 a2 a3 b h Q)
theorem z01_.body (a0 a1 a2 a3 : Value) (h : Heap) (Q : Value → Heap → Prop) (H : z01_.sh a0 a1 a2 a3 h Q) : z01_.call #[a0, a1, a2, a3] h Q := by
 refine callsH_of (args := [a0, a1, a2, a3]) Tryz.func140 rfl rfl ?_; unfold z01_.sh at H; refine sR <| nS (.bool false) rfl<|vl_e <| sR <| nM a0 rfl<|nM a1 rfl<|nM a3 rfl<|vl_n <| H_call HB_103 H fun t15 h H=> nS t15 rfl<|vl_e ?_; refine WPc_seq (fun e h=> z01_.j1 (e 0) (e 2) (e 3) (e 9) h Q) ?_ (fun e h H=> ?_)
 rotate_left
 · unfold z01_.j1 at H
   refine WPc_seq (fun e h=> z01_.j2 (e 0) (e 2) (e 3) (e 9) h Q) ?_ (fun e h H=> ?_)
   rotate_left
   · unfold z01_.j2 at H
     refine WPc_seq (fun e h=> z01_.j3 h Q) ?_ (fun e h H=> ?_)
     rotate_left
     · unfold z01_.j3 at H
       exact sR <| nS (.bool true) rfl<|vl_e <| WPc_ret <| resH_of rfl<|H
     refine sR <| nM (e 9) rfl<|nT TF_167_2 T1_25 H fun _ _ _ H=> nP (R_len Tryz.underlying25) H fun _ H=> nP R_sub H fun t63 H=> nS t63 rfl<|vl_e <| WPc_block ?_; refine loop_at (fun e=> [e 11]) (fun e=> [e 0, e 2, e 3, e 9]) H rfl rfl ?_; intro K1 e1 h H hin1
     replace H : z01_.l4.b (e1 0) (e1 2) (e1 3) (e1 9) (e1 11) h K1 Q := H
     unfold z01_.l4.b at H; clear hin1; refine WPc_seq (fun e h=> z01_.j5 (e 0) (e 2) (e 3) (e 9) (e 11) h K1 Q ∧ [e1 0, e1 2, e1 3, e1 9] = [e 0, e 2, e 3, e 9]) ?_ (fun e h ⟨H, hq1⟩=> ?_)
     rotate_left
     · unfold z01_.j5 at H
       refine WPc_seq (fun e h=> z01_.j6 (e 0) (e 2) (e 3) (e 9) (e 11) h K1 Q ∧ [e1 0, e1 2, e1 3, e1 9] = [e 0, e 2, e 3, e 9]) ?_ (fun e h ⟨H, hq1⟩=> ?_)
       rotate_left
       · unfold z01_.j6 at H
         refine W_region (by kernel_rfl) <| nM (e 11) rfl<|nP R_sub H fun t67 H=> nS t67 rfl<|vl_e ?_; exact ⟨H, hq1⟩
       refine WPc_block ?_; refine WPc_seq (fun e h=> z01_.j7 (e 0) (e 2) (e 3) (e 9) (e 11) h K1 Q ∧ [e1 0, e1 2, e1 3, e1 9] = [e 0, e 2, e 3, e 9]) ?_ (fun e h ⟨H, hq1⟩=> ?_)
       rotate_left
       · unfold z01_.j7 at H
         refine sR <| nM (e 0) rfl<|nM (e 9) rfl<|nT TF_167_3 T1_165 H fun _ _ _ H=> nP R_nil H fun _ H=> nL T1_168 H fun _ H=> nM (e 11) rfl<|nP (R_idx TE_168) H fun _ H=> nM (e 2) rfl<|nM (e 3) rfl<|vl_n <| H_call HB_140 H fun _ h H=> nP R_not H fun _ H=> ?_; refine vl_e ?_; refine cI H (fun H=> ?_) fun H=> ?_
         · exact sR <| nS (.bool false) rfl<|vl_e <| WPc_ret <| resH_of rfl<|H
         · refine WPc_skip ?_
           exact ⟨H, hq1⟩
       refine sR <| nM (e 2) rfl<|nM (e 9) rfl<|nT TF_167_2 T1_25 H fun _ _ _ H=> nM (e 11) rfl<|nP (R_idx TE_25) H fun _ H=> nLN TN_45 H fun _ H=> vl_n <| H_callV H fun _ h H=> nP R_not H fun _ H=> vl_e ?_; refine cI H (fun H=> ?_) fun H=> ?_
       · exact sR <| nS (.bool false) rfl<|vl_e <| WPc_ret <| resH_of rfl<|H
       · refine WPc_skip ?_
         exact ⟨H, hq1⟩
     refine sR <| nM (e1 11) rfl<|nP R_geq H fun _ H=> vl_e ?_; refine cI H (fun H=> ?_) fun H=> ?_
     · refine WPc_skip ?_
       exact ⟨H, rfl⟩
     · refine WPc_exit ?_
       exact H
   refine WPc_seq' <| W_drawn [0,0,2,6,14,30,62,0,128,384,896,1920,3968,8064,16256,32766,0,0,262143,524287] (Tk 0<|Tk 1<|Tk 2<|Tk 3<|Tk 4<|Tk 5<|Tk 6<|Tk 7<|Tk 8<|Tk 9<|Tk 10<|Tk 11<|Tk 12<|Tk 13<|Tk 14<|Tk 15<|Tk 16<|Tk 17<|Al 18<|Tk 19 .done) mixed (by kernel_rfl) <| pM (e 0) rfl rfl<|pM (e 9) rfl rfl<|pT rfl rfl rfl TF_167_3 T1_165 H fun _ _ _ _ _ H=> pP rfl R_nil H fun _ H=> pL rfl T1_168 H fun _ _ _ H=> pM (e 9) rfl rfl<|pT rfl rfl rfl TF_167_3 T1_165 H fun _ _ _ _ _ H=> pP rfl R_nil H fun _ H=> ?_; refine pL rfl T1_168 H fun _ _ _ H=> pP rfl (R_len Tryz.underlying168) H fun _ H=> pP rfl R_sub H fun _ H=> pP rfl (R_idx TE_168) H fun _ H=> pM (e 2) rfl rfl<|pM (e 3) rfl rfl<|aE rfl<|H_call HB_140 H fun _ h H=> ⟨(hskip rfl (hskip rfl (hskip rfl (hskip rfl hnil)))), pP rfl R_not H fun _ H=> vp_done ?_⟩
   refine cI H (fun H=> ?_) fun H=> ?_
   · exact sR <| nS (.bool false) rfl<|vl_e <| WPc_ret <| resH_of rfl<|H
   · exact WPc_skip <| H
 refine sR <| nM t15 rfl<|vl_n <| H_call HB_104 H fun _ h H=> vl_e ?_; refine cI H (fun H=> ?_) fun H=> ?_
 · refine WPc_seq (fun e h=> z01_.j8 h Q) ?_ (fun e h H=> ?_)
   rotate_left
   · unfold z01_.j8 at H
     exact sR <| nS (.bool true) rfl<|vl_e <| WPc_ret <| resH_of rfl<|H
   refine sR <| nM t15 rfl<|nT TF_167_2 T1_25 H fun _ _ _ H=> nP (R_len Tryz.underlying25) H fun _ H=> nP R_sub H fun t23 H=> nS t23 rfl<|vl_e <| WPc_block ?_; refine loop_at (fun e=> [e 10]) (fun e=> [e 2, e 9]) H rfl rfl ?_; intro K1 e1 h H hin1
   replace H : z01_.l9.b (e1 2) (e1 9) (e1 10) h K1 Q := H
   unfold z01_.l9.b at H; clear hin1; refine WPc_seq (fun e h=> z01_.j10 (e 2) (e 9) (e 10) h K1 Q ∧ [e1 2, e1 9] = [e 2, e 9]) ?_ (fun e h ⟨H, hq1⟩=> ?_)
   rotate_left
   · unfold z01_.j10 at H
     refine WPc_seq (fun e h=> z01_.j11 (e 2) (e 9) (e 10) h K1 Q ∧ [e1 2, e1 9] = [e 2, e 9]) ?_ (fun e h ⟨H, hq1⟩=> ?_)
     rotate_left
     · unfold z01_.j11 at H
       refine W_region (by kernel_rfl) <| nM (e 10) rfl<|nP R_sub H fun t27 H=> nS t27 rfl<|vl_e ?_; exact ⟨H, hq1⟩
     refine WPc_block <| sR <| nM (e 2) rfl<|nM (e 9) rfl<|nT TF_167_2 T1_25 H fun _ _ _ H=> nM (e 10) rfl<|nP (R_idx TE_25) H fun _ H=> nLN TN_45 H fun _ H=> vl_n <| H_callV H fun _ h H=> nP R_not H fun _ H=> vl_e ?_; refine cI H (fun H=> ?_) fun H=> ?_
     · exact sR <| nS (.bool false) rfl<|vl_e <| WPc_ret <| resH_of rfl<|H
     · refine WPc_skip ?_
       exact ⟨H, hq1⟩
   refine sR <| nM (e1 10) rfl<|nP R_geq H fun _ H=> vl_e ?_; refine cI H (fun H=> ?_) fun H=> ?_
   · refine WPc_skip ?_
     exact ⟨H, rfl⟩
   · refine WPc_exit ?_
     exact H
 · exact WPc_skip <| H
def z0o_.j2 (s0 s1 s2 : Value) (h : Heap) (Q : Value → Heap → Prop) : Prop := nilck s0 fun b=>fld 2 b fun d=>z01_.call #[s0, d, s1, s2] h fun g h=>Q (.tuple #[]) h
def z0o_.j1 (s0 s1 s2 : Value) (h : Heap) (Q : Value → Heap → Prop) : Prop := nilck s0 fun b=>fld 2 b fun d=>load1 d h fun g=>eqNilP g fun i=>ifV i (Q (.tuple #[]) h) (z0o_.j2 s0 s1 s2 h Q)
def z0o_.sh (a0 a1 a2 : Value) (h : Heap) (Q : Value → Heap → Prop) : Prop := z1e_.call #[a0, a2] h fun b h=>ifV b (False) (z0o_.j1 a0 a1 a2 h Q)
theorem z0o_.body (a0 a1 a2 : Value) (h : Heap) (Q : Value → Heap → Prop) (H : z0o_.sh a0 a1 a2 h Q) : z0o_.call #[a0, a1, a2] h Q := by
 refine callsH_of (args := [a0, a1, a2]) Tryz.func114 rfl rfl ?_; unfold z0o_.sh at H; refine WPc_seq (fun e h=> z0o_.j1 (e 0) (e 1) (e 2) h Q) ?_ (fun e h H=> ?_)
 rotate_left
 · unfold z0o_.j1 at H
   refine WPc_seq (fun e h=> z0o_.j2 (e 0) (e 1) (e 2) h Q) ?_ (fun e h H=> ?_)
   rotate_left
   · unfold z0o_.j2 at H
     exact W_region (by kernel_rfl) <| nM (e 0) rfl<|nM (e 0) rfl<|nB TF_162_2 H fun _ _ H=> nM (e 1) rfl<|nM (e 2) rfl<|vl_n <| H_call HB_140 H fun _ h H=> vl_e <| resH_of rfl<|H
   refine sR <| nM (e 0) rfl<|nT TF_162_2 T1_76 H fun _ _ _ H=> nP (R_eqNilP Tryz.underlying76 rfl) H fun _ H=> vl_e ?_; refine cI H (fun H=> ?_) fun H=> ?_
   · exact WPc_ret <| resH_of rfl<|H
   · exact WPc_skip <| H
 refine sR <| nM a0 rfl<|nM a2 rfl<|vl_n <| H_call HB_102 H fun _ h H=> vl_e ?_; refine cI H (fun H=> ?_) fun H=> ?_
 · refine W_region (by kernel_rfl) <| nM a0 rfl<|nM a2 rfl ?_
   refine vl_n ?_; exact H.elim
 · exact WPc_skip <| H
def z0h_.sh (a0 a1 : Value) (h : Heap) (Q : Value → Heap → Prop) : Prop := z0o_.call #[a0, a1, (.bool false)] h fun b h=>Q (.tuple #[]) h
theorem z0h_.body (a0 a1 : Value) (h : Heap) (Q : Value → Heap → Prop) (H : z0h_.sh a0 a1 h Q) : z0h_.call #[a0, a1] h Q := by
 refine callsH_of (args := [a0, a1]) Tryz.func66 rfl rfl ?_; unfold z0h_.sh at H; exact W_region (by kernel_rfl) <| nM a0 rfl<|nM a1 rfl<|vl_n <| H_call HB_114 H fun _ h H=> vl_e <| resH_of rfl<|H
def z22_.sh (a0 a1 a2 : Value) (h : Heap) (Q : Value → Heap → Prop) : Prop := box 24 a0 h fun b h=>alloc [(.slice none 0 0)] 25 h fun d h=>loadN 3 b h fun g=>z2v_.call #[g, a1] h fun i h=>z28_.call #[d, a2] h fun j h=>z0h_.call #[i, j] h fun k h=>load1 d h fun l=>Q l h
theorem z22_.body (a0 a1 a2 : Value) (h : Heap) (Q : Value → Heap → Prop) (H : z22_.sh a0 a1 a2 h Q) : z22_.call #[a0, a1, a2] h Q := by
 refine callsH_of (args := [a0, a1, a2]) Tryz.func28 rfl rfl ?_; unfold z22_.sh at H; refine sR <| vl_n <| H_box H fun _ h H=> nS (.slice none 0 0) rfl<|vl_e <| sR <| vl_n <| H_alloc TV_25 H fun _ h H=> vl_e <| sR <| nLN TN_24 H fun _ H=> nM a1 rfl<|vl_n <| H_call HB_43 H fun _ h H=> nM a2 rfl<|vl_n <| H_call HB_63 H fun _ h H=> vl_n <| H_call HB_66 H fun _ h H=> ?_; exact vl_e <| sR <| nL T1_25 H fun t14 H=> nS t14 rfl<|vl_e <| WPc_ret <| resH_of rfl<|H
def z0b_.j2 (h : Heap) (Q : Value → Heap → Prop) : Prop := Q (.bool true) h
def z0b_.j5 (s0 s1 s12 s13 : Value) (h : Heap) (K1 : List Value → Heap → Prop) (Q : Value → Heap → Prop) : Prop := arith (· + ·) s13 (.int .i64 1) fun b=>K1 [b] h
def z0b_.j4 (s0 s1 s12 s13 : Value) (h : Heap) (K1 : List Value → Heap → Prop) (Q : Value → Heap → Prop) : Prop := idx 2 s0 s13 fun b=>loadN 2 b h fun d=>idx 2 s1 s13 fun g=>loadN 2 g h fun i=>neR (EqV Tryz.prog 10000 45) d i fun j=>ifV j (Q (.bool false) h) (z0b_.j5 s0 s1 s12 s13 h K1 Q)
def z0b_.l3.b (c0 c1 c12 s13 : Value) (h : Heap) (K1 : List Value → Heap → Prop) (Q : Value → Heap → Prop) : Prop := cmpI (fun a b=> decide (a < b)) s13 c12 fun b=>ifV b (z0b_.j4 c0 c1 c12 s13 h K1 Q) (z0b_.j2 h Q)
def z0b_.j1 (s0 s1 : Value) (h : Heap) (Q : Value → Heap → Prop) : Prop := lenV s0 fun b=>loopC (fun c s h K1=> z0b_.l3.b (c.getD 0 undef) (c.getD 1 undef) (c.getD 2 undef) (s.getD 0 undef) h K1 Q) [s0, s1, b] [(.int .i64 0)] h
def z0b_.sh (a0 a1 : Value) (h : Heap) (Q : Value → Heap → Prop) : Prop := lenV a0 fun b=>lenV a1 fun d=>cmpI (fun a b=> a != b) b d fun g=>ifV g (Q (.bool false) h) (z0b_.j1 a0 a1 h Q)
theorem z0b_.body (a0 a1 : Value) (h : Heap) (Q : Value → Heap → Prop) (H : z0b_.sh a0 a1 h Q) : z0b_.call #[a0, a1] h Q := by
 refine callsH_of (args := [a0, a1]) Tryz.func67 rfl rfl ?_; unfold z0b_.sh at H; refine sR <| nS (.bool false) rfl<|vl_e ?_; refine WPc_seq (fun e h=> z0b_.j1 (e 0) (e 1) h Q) ?_ (fun e h H=> ?_)
 rotate_left
 · unfold z0b_.j1 at H
   refine WPc_seq (fun e h=> z0b_.j2 h Q) ?_ (fun e h H=> ?_)
   rotate_left
   · unfold z0b_.j2 at H
     exact sR <| nS (.bool true) rfl<|vl_e <| WPc_ret <| resH_of rfl<|H
   refine sR <| nM (e 0) rfl<|nP (R_len Tryz.underlying25) H fun _ H=> nM (.int .i64 0) rfl<|vl_e <| WPc_block ?_; refine loop_at (fun e=> [e 13]) (fun e=> [e 0, e 1, e 12]) H rfl rfl ?_; intro K1 e1 h H hin1
   replace H : z0b_.l3.b (e1 0) (e1 1) (e1 12) (e1 13) h K1 Q := H
   unfold z0b_.l3.b at H; clear hin1; refine sR <| nP R_lss H fun _ H=> vl_e ?_; refine WPc_seq (fun e h=> z0b_.j4 (e 0) (e 1) (e 12) (e 13) h K1 Q ∧ [e1 0, e1 1, e1 12] = [e 0, e 1, e 12]) ?_ (fun e h ⟨H, hq1⟩=> ?_)
   rotate_left
   · unfold z0b_.j4 at H
     refine WPc_seq (fun e h=> z0b_.j5 (e 0) (e 1) (e 12) (e 13) h K1 Q ∧ [e1 0, e1 1, e1 12] = [e 0, e 1, e 12]) ?_ (fun e h ⟨H, hq1⟩=> ?_)
     rotate_left
     · unfold z0b_.j5 at H
       refine W_region (by kernel_rfl) <| nP R_add H fun t25 H=> nM t25 rfl<|vl_e ?_; exact ⟨H, hq1⟩
     refine WPc_block <| sR <| nM (e 13) rfl<|nS (e 13) rfl<|vl_e <| WPc_seq' <| W_drawn [0,0,3,7,0,0,48,112,255] (Tk 0<|Tk 1<|Tk 2<|Tk 3<|Tk 4<|Tk 5<|Tk 6<|Tk 7<|Tk 8 .done) mixed (by kernel_rfl) <| pM (e 0) rfl rfl<|pM (e 13) rfl rfl<|pP rfl (R_idx TE_25) H fun _ H=> tkL rfl<|R_loadN TN_45 H fun _ _ _ _ H _ _=> pM (e 1) rfl rfl<|pM (e 13) rfl rfl<|pP rfl (R_idx TE_25) H fun _ H=> ?_; refine tkL rfl<|R_loadN TN_45 H fun _ _ _ _ H _ _=> pP rfl (R_neA (by kernel_rfl)) H fun _ H=> vp_done ?_; refine cI H (fun H=> ?_) fun H=> ?_
     · exact sR <| nS (.bool false) rfl<|vl_e <| WPc_ret <| resH_of rfl<|H
     · refine WPc_skip ?_
       exact ⟨H, hq1⟩
   refine cI H (fun H=> ?_) fun H=> ?_
   · refine WPc_skip ?_
     exact ⟨H, rfl⟩
   · refine WPc_exit ?_
     exact H
 refine sR <| nM a0 rfl<|nP (R_len Tryz.underlying25) H fun _ H=> nM a1 rfl<|nP (R_len Tryz.underlying25) H fun _ H=> nP R_neI H fun _ H=> vl_e ?_; refine cI H (fun H=> ?_) fun H=> ?_
 · exact sR <| nS (.bool false) rfl<|vl_e <| WPc_ret <| resH_of rfl<|H
 · exact WPc_skip <| H
def z15_.j1 (h : Heap) (Q : Value → Heap → Prop) : Prop := Q (.int .i64 (-1)) h
def z15_.j4 (s0 s1 s7 s8 : Value) (h : Heap) (K1 : List Value → Heap → Prop) (Q : Value → Heap → Prop) : Prop := arith (· + ·) s8 (.int .i64 1) fun b=>K1 [b] h
def z15_.j3 (s0 s1 s7 s8 : Value) (h : Heap) (K1 : List Value → Heap → Prop) (Q : Value → Heap → Prop) : Prop := idx 1 s0 s8 fun b=>load1 b h fun d=>eqB s1 d fun g=>ifV g (Q s8 h) (z15_.j4 s0 s1 s7 s8 h K1 Q)
def z15_.l2.b (c0 c1 c7 s8 : Value) (h : Heap) (K1 : List Value → Heap → Prop) (Q : Value → Heap → Prop) : Prop := cmpI (fun a b=> decide (a < b)) s8 c7 fun b=>ifV b (z15_.j3 c0 c1 c7 s8 h K1 Q) (z15_.j1 h Q)
def z15_.sh (a0 a1 : Value) (h : Heap) (Q : Value → Heap → Prop) : Prop := lenV a0 fun b=>loopC (fun c s h K1=> z15_.l2.b (c.getD 0 undef) (c.getD 1 undef) (c.getD 2 undef) (s.getD 0 undef) h K1 Q) [a0, a1, b] [(.int .i64 0)] h
theorem z15_.body (a0 a1 : Value) (h : Heap) (Q : Value → Heap → Prop) (H : z15_.sh a0 a1 h Q) : z15_.call #[a0, a1] h Q := by
 refine callsH_of (args := [a0, a1]) Tryz.func115 rfl rfl ?_; unfold z15_.sh at H; refine sR <| nS (.int .i64 0) rfl<|vl_e ?_; refine WPc_seq (fun e h=> z15_.j1 h Q) ?_ (fun e h H=> ?_)
 rotate_left
 · unfold z15_.j1 at H
   exact sR <| nS (.int .i64 (-1)) rfl<|vl_e <| WPc_ret <| resH_of rfl<|H
 refine sR <| nM a0 rfl<|nP (R_len Tryz.underlying40) H fun _ H=> nM (.int .i64 0) rfl<|vl_e <| WPc_block ?_; refine loop_at (fun e=> [e 8]) (fun e=> [e 0, e 1, e 7]) H rfl rfl ?_; intro K1 e1 h H hin1
 replace H : z15_.l2.b (e1 0) (e1 1) (e1 7) (e1 8) h K1 Q := H
 unfold z15_.l2.b at H; clear hin1; refine sR <| nP R_lss H fun _ H=> vl_e ?_; refine WPc_seq (fun e h=> z15_.j3 (e 0) (e 1) (e 7) (e 8) h K1 Q ∧ [e1 0, e1 1, e1 7] = [e 0, e 1, e 7]) ?_ (fun e h ⟨H, hq1⟩=> ?_)
 rotate_left
 · unfold z15_.j3 at H
   refine WPc_seq (fun e h=> z15_.j4 (e 0) (e 1) (e 7) (e 8) h K1 Q ∧ [e1 0, e1 1, e1 7] = [e 0, e 1, e 7]) ?_ (fun e h ⟨H, hq1⟩=> ?_)
   rotate_left
   · unfold z15_.j4 at H
     refine W_region (by kernel_rfl) <| nP R_add H fun t18 H=> nM t18 rfl<|vl_e ?_; exact ⟨H, hq1⟩
   refine WPc_block <| sR <| nM (e 8) rfl<|nS (e 8) rfl<|vl_e <| sR <| nM (e 1) rfl<|nM (e 0) rfl<|nM (e 8) rfl<|nP (R_idx TE_40) H fun _ H=> nL T1_4 H fun _ H=> nP (R_eqB Tryz.underlying4) H fun _ H=> vl_e ?_; refine cI H (fun H=> ?_) fun H=> ?_
   · exact sR <| nM (e 8) rfl<|nS (e 8) rfl<|vl_e <| WPc_ret <| resH_of rfl<|H
   · refine WPc_skip ?_
     exact ⟨H, hq1⟩
 refine cI H (fun H=> ?_) fun H=> ?_
 · refine WPc_skip ?_
   exact ⟨H, rfl⟩
 · refine WPc_exit ?_
   exact H
def z0g_.sh (a0 a1 : Value) (h : Heap) (Q : Value → Heap → Prop) : Prop := z15_.call #[a0, a1] h fun b h=>cmpI (fun a b=> decide (a ≥ b)) b (.int .i64 0) fun d=>Q d h
theorem z0g_.body (a0 a1 : Value) (h : Heap) (Q : Value → Heap → Prop) (H : z0g_.sh a0 a1 h Q) : z0g_.call #[a0, a1] h Q := by
 refine callsH_of (args := [a0, a1]) Tryz.func68 rfl rfl ?_; unfold z0g_.sh at H; exact sR <| nS (.bool false) rfl<|vl_e <| sR <| nM a0 rfl<|nM a1 rfl<|vl_n <| H_call HB_115 H fun _ h H=> nP R_geq H fun t8 H=> nS t8 rfl<|vl_e <| WPc_ret <| resH_of rfl<|H
def z2z_.j1 (s2 : Value) (h : Heap) (Q : Value → Heap → Prop) : Prop := z0g_.call #[s2, (.bool false)] h fun b h=>notV b fun d=>Q d h
def z2z_.j4 (s0 s2 s9 s10 s11 : Value) (h : Heap) (K1 : List Value → Heap → Prop) (Q : Value → Heap → Prop) : Prop := arith (· + ·) s11 (.int .i64 1) fun b=>K1 [b] h
def z2z_.j3 (s0 s2 s9 s10 s11 : Value) (h : Heap) (K1 : List Value → Heap → Prop) (Q : Value → Heap → Prop) : Prop := idx 1 s9 s11 fun b=>load1 b h fun d=>z0b_.call #[s0, d] h fun g h=>notV g fun i=>ifV i (Q (.bool false) h) (z2z_.j4 s0 s2 s9 s10 s11 h K1 Q)
def z2z_.l2.b (c0 c2 c9 c10 s11 : Value) (h : Heap) (K1 : List Value → Heap → Prop) (Q : Value → Heap → Prop) : Prop := cmpI (fun a b=> decide (a < b)) s11 c10 fun b=>ifV b (z2z_.j3 c0 c2 c9 c10 s11 h K1 Q) (z2z_.j1 c2 h Q)
def z2z_.sh (a0 a1 a2 : Value) (h : Heap) (Q : Value → Heap → Prop) : Prop := lenV a1 fun b=>loopC (fun c s h K1=> z2z_.l2.b (c.getD 0 undef) (c.getD 1 undef) (c.getD 2 undef) (c.getD 3 undef) (s.getD 0 undef) h K1 Q) [a0, a2, a1, b] [(.int .i64 0)] h
theorem z2z_.body (a0 a1 a2 : Value) (h : Heap) (Q : Value → Heap → Prop) (H : z2z_.sh a0 a1 a2 h Q) : z2z_.call #[a0, a1, a2] h Q := by
 refine callsH_of (args := [a0, a1, a2]) Tryz.func29 rfl rfl ?_; unfold z2z_.sh at H; refine sR <| nS (.bool false) rfl<|vl_e ?_; refine WPc_seq (fun e h=> z2z_.j1 (e 2) h Q) ?_ (fun e h H=> ?_)
 rotate_left
 · unfold z2z_.j1 at H
   exact sR <| nM (e 2) rfl<|vl_n <| H_call HB_68 H fun _ h H=> nP R_not H fun t22 H=> nS t22 rfl<|vl_e <| WPc_ret <| resH_of rfl<|H
 refine sR <| nM a1 rfl<|nP (R_len Tryz.underlying50) H fun _ H=> nM (.int .i64 0) rfl<|vl_e <| WPc_block ?_; refine loop_at (fun e=> [e 11]) (fun e=> [e 0, e 2, e 9, e 10]) H rfl rfl ?_; intro K1 e1 h H hin1
 replace H : z2z_.l2.b (e1 0) (e1 2) (e1 9) (e1 10) (e1 11) h K1 Q := H
 unfold z2z_.l2.b at H; clear hin1; refine sR <| nP R_lss H fun _ H=> vl_e ?_; refine WPc_seq (fun e h=> z2z_.j3 (e 0) (e 2) (e 9) (e 10) (e 11) h K1 Q ∧ [e1 0, e1 2, e1 9, e1 10] = [e 0, e 2, e 9, e 10]) ?_ (fun e h ⟨H, hq1⟩=> ?_)
 rotate_left
 · unfold z2z_.j3 at H
   refine WPc_seq (fun e h=> z2z_.j4 (e 0) (e 2) (e 9) (e 10) (e 11) h K1 Q ∧ [e1 0, e1 2, e1 9, e1 10] = [e 0, e 2, e 9, e 10]) ?_ (fun e h ⟨H, hq1⟩=> ?_)
   rotate_left
   · unfold z2z_.j4 at H
     refine W_region (by kernel_rfl) <| nP R_add H fun t19 H=> nM t19 rfl<|vl_e ?_; exact ⟨H, hq1⟩
   refine WPc_block <| sR <| nP (R_idx TE_50) H fun _ H=> nL T1_25 H fun t14 H=> nS t14 rfl<|vl_e <| sR <| nM (e 0) rfl<|nM t14 rfl<|vl_n <| H_call HB_67 H fun _ h H=> nP R_not H fun _ H=> vl_e ?_; refine cI H (fun H=> ?_) fun H=> ?_
   · exact sR <| nS (.bool false) rfl<|vl_e <| WPc_ret <| resH_of rfl<|H
   · refine WPc_skip ?_
     exact ⟨H, hq1⟩
 refine cI H (fun H=> ?_) fun H=> ?_
 · refine WPc_skip ?_
   exact ⟨H, rfl⟩
 · refine WPc_exit ?_
   exact H
def z2s_.sh (a0 a1 : Value) (h : Heap) (Q : Value → Heap → Prop) : Prop := box 24 a0 h fun b h=>loadN 3 b h fun d=>z2v_.call #[d, a1] h fun g h=>z1l_.call #[g] h fun i h=>Q i h
theorem z2s_.body (a0 a1 : Value) (h : Heap) (Q : Value → Heap → Prop) (H : z2s_.sh a0 a1 h Q) : z2s_.call #[a0, a1] h Q := by
 refine callsH_of (args := [a0, a1]) Tryz.func30 rfl rfl ?_; unfold z2s_.sh at H; exact sR <| vl_n <| H_box H fun _ h H=> nS (.int .i64 0) rfl<|vl_e <| sR <| nLN TN_24 H fun _ H=> nM a1 rfl<|vl_n <| H_call HB_43 H fun _ h H=> vl_n <| H_call HB_69 H fun t8 h H=> nS t8 rfl<|vl_e <| WPc_ret <| resH_of rfl<|H
def z25_.j3 (s2 s3 s5 s6 s8 s9 s10 s11 s12 s13 s20 s21 s22 s23 s24 s25 : Value) (h : Heap) (Q : Value → Heap → Prop) : Prop := loadN 3 s2 h fun b=>load1 s3 h fun d=>loadN 3 s2 h fun g=>load1 s3 h fun i=>loadN 3 s2 h fun j=>load1 s3 h fun k=>loadN 3 s2 h fun l=>load1 s3 h fun m=>loadN 3 s2 h fun n=>load1 s3 h fun o=>z1x_.call #[b, d] h fun p h=>stillN 3 s2 g h ∧ still1 s3 i h ∧ stillN 3 s2 j h ∧ still1 s3 k h ∧ stillN 3 s2 l h ∧ still1 s3 m h ∧ stillN 3 s2 n h ∧ still1 s3 o h ∧ z2m_.call #[g, i, (.int .i64 0)] h fun q h=>stillN 3 s2 j h ∧ still1 s3 k h ∧ stillN 3 s2 l h ∧ still1 s3 m h ∧ stillN 3 s2 n h ∧ still1 s3 o h ∧ z2g_.call #[q] h fun u h=>stillN 3 s2 j h ∧ still1 s3 k h ∧ stillN 3 s2 l h ∧ still1 s3 m h ∧ stillN 3 s2 n h ∧ still1 s3 o h ∧ z23_.call #[j, k, (.int .i64 0)] h fun v h=>stillN 3 s2 l h ∧ still1 s3 m h ∧ stillN 3 s2 n h ∧ still1 s3 o h ∧ z2g_.call #[v] h fun w h=>stillN 3 s2 l h ∧ still1 s3 m h ∧ stillN 3 s2 n h ∧ still1 s3 o h ∧ z2l_.call #[l, m, (.int .i64 0)] h fun x h=>stillN 3 s2 n h ∧ still1 s3 o h ∧ z22_.call #[n, o, (.int .i64 0)] h fun y h=>z26_.call #[y] h fun z h=>mkSl (if 5 * 1 = 0 then [] else zeros [(.slice none 0 0)] 5) 5 [(0 * 1, 1, p), (1 * 1, 1, u), (2 * 1, 1, w), (3 * 1, 1, x), (4 * 1, 1, z)] 25 h fun b0 h=>z2z_.call #[s5, b0, (.slice none 0 0)] h fun b1 h=>br b1 true (z26_.call #[s10] h fun b2 h=>z26_.call #[s22] h fun b3 h=>mkSl (if 6 * 1 = 0 then [] else zeros [(.slice none 0 0)] 6) 6 [(0 * 1, 1, s8), (1 * 1, 1, b2), (2 * 1, 1, s12), (3 * 1, 1, s20), (4 * 1, 1, b3), (5 * 1, 1, s24)] 25 h fun b4 h=>mkSl (if 6 * 1 = 0 then [] else zeros [(.bool false)] 6) 6 [(0 * 1, 1, s9), (1 * 1, 1, s11), (2 * 1, 1, s13), (3 * 1, 1, s21), (4 * 1, 1, s23), (5 * 1, 1, s25)] 4 h fun b5 h=>z2z_.call #[s5, b4, b5] h fun b6 h=>br b6 true (loadN 3 s2 h fun b7=>load1 s3 h fun b8=>z2s_.call #[b7, b8] h fun b9 h=>cmpI (fun a b=> a == b) b9 s6 fun d0=>br d0 true (z2p_.call #[] h fun d1 h=>Q d1 h) (Q (.bool false) h)) (Q (.bool false) h)) (Q (.bool false) h)
def z25_.j2 (s2 s3 : Value) (h : Heap) (Q : Value → Heap → Prop) : Prop := loadN 3 s2 h fun b=>load1 s3 h fun d=>z2d_.call #[b, d] h fun g h=>lenV g fun i=>z2r_.call #[(.func (.func 10) #[] #[s2, s3]), (.int .i64 0), (.int .i64 2), i] h fun j h=>extr 0 j fun k=>extr 1 j fun l=>z2r_.call #[(.func (.func 10) #[] #[s2, s3]), (.int .i64 1), (.int .i64 3), i] h fun m h=>extr 0 m fun n=>extr 1 m fun o=>loadN 3 s2 h fun p=>load1 s3 h fun q=>z2h_.call #[i] h fun u h=>stillN 3 s2 p h ∧ still1 s3 q h ∧ z2c_.call #[p, q, u] h fun v h=>z2q_.call #[v] h fun w h=>extr 0 w fun x=>extr 1 w fun y=>loadN 3 s2 h fun z=>load1 s3 h fun b0=>mks 4 1 1 [(.bool false)] i i h fun b1 h=>stillN 3 s2 z h ∧ still1 s3 b0 h ∧ z2k_.call #[z, b0, b1] h fun b2 h=>extr 0 b2 fun b3=>extr 1 b2 fun b4=>loadN 3 s2 h fun b5=>load1 s3 h fun b6=>mkSl (if 1 * 1 = 0 then [] else zeros [(.bool false)] 1) 1 [(0 * 1, 1, (.bool true))] 4 h fun b7 h=>stillN 3 s2 b5 h ∧ still1 s3 b6 h ∧ z0z_.call #[b7, i] h fun b8 h=>stillN 3 s2 b5 h ∧ still1 s3 b6 h ∧ z2k_.call #[b5, b6, b8] h fun b9 h=>extr 0 b9 fun d0=>extr 1 b9 fun d1=>loadN 3 s2 h fun d2=>load1 s3 h fun d3=>mks 3 1 8 [(.int .i64 0)] i i h fun d4 h=>stillN 3 s2 d2 h ∧ still1 s3 d3 h ∧ z1w_.call #[d2, d3, d4] h fun d5 h=>extr 0 d5 fun d6=>extr 1 d5 fun d7=>z2q_.call #[b3] h fun d8 h=>extr 0 d8 fun d9=>extr 1 d8 fun g0=>z2q_.call #[d0] h fun g1 h=>extr 0 g1 fun g2=>extr 1 g1 fun g3=>z2q_.call #[d6] h fun g4 h=>extr 0 g4 fun g5=>extr 1 g4 fun g6=>lenV b4 fun g7=>lenV d1 fun g8=>arith (· + ·) g7 g8 fun g9=>lenV d7 fun i0=>arith (· + ·) g9 i0 fun i1=>cmpI (fun a b=> decide (a > b)) i1 (.int .i64 0) fun i2=>br i2 false (cmpI (fun a b=> decide (a > b)) i (.int .i64 0) fun i3=>br i3 true (loadN 3 s2 h fun i4=>load1 s3 h fun i5=>loadN 3 s2 h fun i6=>load1 s3 h fun i7=>z2u_.call #[i4, i5] h fun i8 h=>stillN 3 s2 i6 h ∧ still1 s3 i7 h ∧ z2t_.call #[i6, i7] h fun i9 h=>z2x_.call #[g, i8, i9] h fun j0 h=>notV j0 fun j1=>ifV j1 (Q (.bool false) h) (z25_.j3 s2 s3 g i k l n o x y d9 g0 g2 g3 g5 g6 h Q)) (z25_.j3 s2 s3 g i k l n o x y d9 g0 g2 g3 g5 g6 h Q)) (Q (.bool false) h)
def z25_.j1 (s2 s3 : Value) (h : Heap) (Q : Value → Heap → Prop) : Prop := loadN 3 s2 h fun b=>z2y_.call #[b] h fun d h=>notV d fun g=>ifV g (z2p_.call #[] h fun i h=>Q i h) (z25_.j2 s2 s3 h Q)
def z25_.sh (a0 a1 : Value) (h : Heap) (Q : Value → Heap → Prop) : Prop := box 24 a0 h fun b h=>box 25 a1 h fun d h=>loadN 3 b h fun g=>z2a_.call #[g] h fun i h=>notV i fun j=>br j false (load1 d h fun k=>lenV k fun l=>cmpI (fun a b=> decide (a > b)) l (.int .i64 2147483647) fun m=>ifV m (Q (.bool true) h) (z25_.j1 b d h Q)) (Q (.bool true) h)
theorem z25_.body (a0 a1 : Value) (h : Heap) (Q : Value → Heap → Prop) (H : z25_.sh a0 a1 h Q) : z25_.call #[a0, a1] h Q := by
 refine callsH_of (args := [a0, a1]) Tryz.func3 rfl rfl ?_; unfold z25_.sh at H; refine sR <| vl_n <| H_box H fun _ h H=> vl_n <| H_box H fun _ h H=> nS (.bool false) rfl<|vl_e ?_; refine WPc_seq (fun e h=> z25_.j1 (e 2) (e 3) h Q) ?_ (fun e h H=> ?_)
 rotate_left
 · unfold z25_.j1 at H
   refine WPc_seq (fun e h=> z25_.j2 (e 2) (e 3) h Q) ?_ (fun e h H=> ?_)
   rotate_left
   · unfold z25_.j2 at H
     refine sR <| nLN TN_24 H fun _ H=> nL T1_25 H fun _ H=> vl_n <| H_call HB_9 H fun t41 h H=> nS t41 rfl<|vl_e <| sR <| nM t41 rfl<|nP (R_len Tryz.underlying25) H fun t43 H=> nS t43 rfl<|vl_e <| sR <| nA (R_mkFn (v := (.func (.func 10) #[] #[(e 2), (e 3)])) rfl) <| nS (.func (.func 10) #[] #[(e 2), (e 3)]) rfl ?_; refine vl_e <| sR <| nM (.func (.func 10) #[] #[(e 2), (e 3)]) rfl<|nM t43 rfl<|vl_n <| H_call HB_12 H fun t48 h H=> nM t48 rfl<|nP R_ext H fun t49 H=> nP R_ext H fun t50 H=> nS t49 rfl<|nS t50 rfl<|vl_e <| sR <| nM (.func (.func 10) #[] #[(e 2), (e 3)]) rfl<|nM t43 rfl ?_; refine vl_n <| H_call HB_12 H fun t54 h H=> nM t54 rfl<|nP R_ext H fun t55 H=> nP R_ext H fun t56 H=> nS t55 rfl<|nS t56 rfl<|vl_e <| WPc_seq' <| W_drawn [0,0,0,4,15,31,63,127,127,255,1023] (Tk 0<|Tk 1<|Tk 2<|Al 3<|Al 4<|Al 5<|Tk 6<|Tk 7<|Tk 8<|Tk 9<|Tk 10 .done) mixed (by kernel_rfl) <| tkL rfl<|R_loadN TN_24 H fun _ _ hat58 _ H _ hSt58=> pL rfl T1_25 H fun _ _ hat59 H=> pM t43 rfl rfl<|aE rfl<|H_call HB_15 H fun _ h ⟨S, S_2, H⟩=> ⟨(hcons rfl (still_1 S_2 hat59) (hcons rfl (hSt58 _ (still_N S hat58 rfl)) hnil)), aE rfl<|H_call HB_14 H fun _ h H=> ⟨(hskip rfl (hskip rfl hnil)), ?_⟩⟩
     refine aE rfl<|H_call HB_13 H fun t63 h H=> ⟨hnil, pM t63 rfl rfl<|pP rfl R_ext H fun t64 H=> pP rfl R_ext H fun t65 H=> pS t64 rfl rfl<|pS t65 rfl rfl<|vp_done <| WPc_seq' <| W_drawn [0,0,0,4,15,31,63,63,127,511] (Tk 0<|Tk 1<|Tk 2<|Al 3<|Al 4<|Tk 5<|Tk 6<|Tk 7<|Tk 8<|Tk 9 .done) mixed (by kernel_rfl) <| tkL rfl<|R_loadN TN_24 H fun _ _ hat67 _ H _ hSt67=> pL rfl T1_25 H fun _ _ hat68 H=> pM t43 rfl rfl<|aE rfl<|H_mks TZ_40 rfl H fun _ h ⟨S_3, S_4, H⟩=> ⟨(hcons rfl (still_1 S_4 hat68) (hcons rfl (hSt67 _ (still_N S_3 hat67 rfl)) hnil)), aE rfl<|H_call HB_16 H fun t71 h H=> ⟨(hskip rfl (hskip rfl hnil)), ?_⟩⟩⟩
     refine pM t71 rfl rfl<|pP rfl R_ext H fun t72 H=> pP rfl R_ext H fun t73 H=> pS t72 rfl rfl<|pS t73 rfl rfl<|vp_done <| WPc_seq' <| W_drawn [0,0,0,0,12,31,63,127,127,255,1023] (Tk 0<|Tk 1<|Tk 3<|Al 2<|Al 4<|Al 5<|Tk 6<|Tk 7<|Tk 8<|Tk 9<|Tk 10 .done) mixed (by kernel_rfl) <| tkL rfl<|R_loadN TN_24 H fun _ _ hat75 _ H _ hSt75=> pL rfl T1_25 H fun _ _ hat76 H=> pM t43 rfl rfl<|aE rfl<|H_mkSl TZ_40 (by decide) rfl H rfl fun _ h ⟨S_5, S_6, H⟩=> ⟨(hcons rfl (still_1 S_6 hat76) (hcons rfl (hSt75 _ (still_N S_5 hat75 rfl)) hnil)), aE rfl<|H_call HB_17 H fun _ h ⟨S_7, S_8, H⟩=> ⟨(hcons rfl (still_1 S_8 hat76) (hcons rfl (hSt75 _ (still_N S_7 hat75 rfl)) hnil)), aE rfl<|H_call HB_16 H fun t80 h H=> ⟨(hskip rfl (hskip rfl hnil)), ?_⟩⟩⟩
     refine pM t80 rfl rfl<|pP rfl R_ext H fun t81 H=> pP rfl R_ext H fun t82 H=> pS t81 rfl rfl<|pS t82 rfl rfl<|vp_done <| WPc_seq' <| W_drawn [0,0,0,4,15,31,63,63,127,511] (Tk 0<|Tk 1<|Tk 2<|Al 3<|Al 4<|Tk 5<|Tk 6<|Tk 7<|Tk 8<|Tk 9 .done) mixed (by kernel_rfl) <| tkL rfl<|R_loadN TN_24 H fun _ _ hat84 _ H _ hSt84=> pL rfl T1_25 H fun _ _ hat85 H=> pM t43 rfl rfl<|aE rfl<|H_mks TZ_22 rfl H fun _ h ⟨S_9, S_10, H⟩=> ⟨(hcons rfl (still_1 S_10 hat85) (hcons rfl (hSt84 _ (still_N S_9 hat84 rfl)) hnil)), aE rfl<|H_call HB_18 H fun t88 h H=> ⟨(hskip rfl (hskip rfl hnil)), pM t88 rfl rfl ?_⟩⟩
     refine pP rfl R_ext H fun t89 H=> pP rfl R_ext H fun t90 H=> pS t89 rfl rfl<|pS t90 rfl rfl<|vp_done <| sR <| nM t72 rfl<|vl_n <| H_call HB_13 H fun t93 h H=> nM t93 rfl<|nP R_ext H fun t94 H=> nP R_ext H fun t95 H=> nS t94 rfl<|nS t95 rfl<|vl_e ?_; refine sR <| nM t81 rfl<|vl_n <| H_call HB_13 H fun t98 h H=> nM t98 rfl<|nP R_ext H fun t99 H=> nP R_ext H fun t100 H=> nS t99 rfl<|nS t100 rfl<|vl_e <| sR <| nM t89 rfl<|vl_n <| H_call HB_13 H fun t103 h H=> nM t103 rfl<|nP R_ext H fun t104 H=> ?_; refine nP R_ext H fun t105 H=> nS t104 rfl<|nS t105 rfl<|vl_e ?_; refine WPc_seq (fun e h=> z25_.j3 (e 2) (e 3) (e 5) (e 6) (e 8) (e 9) (e 10) (e 11) (e 12) (e 13) (e 20) (e 21) (e 22) (e 23) (e 24) (e 25) h Q) ?_ (fun e h H=> ?_)
     rotate_left
     · unfold z25_.j3 at H
       refine WPc_seq' <| W_drawn [0,0,3,0,0,31,63,0,0,511,1023,0,0,8191,0,0,65535,131071,262143,524287] (Tk 0<|Tk 1<|Tk 3<|Tk 4<|Tk 7<|Tk 8<|Tk 11<|Tk 12<|Tk 14<|Tk 15<|Al 2<|Al 5<|Al 6<|Al 9<|Al 10<|Al 13<|Al 16<|Al 17<|Al 18<|Tk 19 .done) mixed (by kernel_rfl) <| tkL rfl<|R_loadN TN_24 H fun _ _ _ _ H _ _=> pL rfl T1_25 H fun _ _ _ H=> tkL rfl<|R_loadN TN_24 H fun _ _ hat133 _ H _ hSt133=> pL rfl T1_25 H fun _ _ hat134 H=> tkL rfl<|R_loadN TN_24 H fun _ _ hat137 _ H _ hSt137=> pL rfl T1_25 H fun _ _ hat138 H=> tkL rfl<|R_loadN TN_24 H fun _ _ hat141 _ H _ hSt141=> pL rfl T1_25 H fun _ _ hat142 H=> tkL rfl<|R_loadN TN_24 H fun _ _ hat144 _ H _ hSt144=> pL rfl T1_25 H fun _ _ hat145 H=> aE rfl<|H_call HB_22 H fun _ h ⟨S, S_2, S_3, S_4, S_5, S_6, S_7, S_8, H⟩=> ⟨(hcons rfl (still_1 S_8 hat145) (hcons rfl (hSt144 _ (still_N S_7 hat144 rfl)) (hcons rfl (still_1 S_6 hat142) (hcons rfl (hSt141 _ (still_N S_5 hat141 rfl)) (hcons rfl (still_1 S_4 hat138) (hcons rfl (hSt137 _ (still_N S_3 hat137 rfl)) (hcons rfl (still_1 S_2 hat134) (hcons rfl (hSt133 _ (still_N S hat133 rfl)) (hskip rfl (hskip rfl hnil)))))))))), aE rfl<|H_call HB_24 H fun _ h ⟨S_9, S_10, S_11, S_12, S_13, S_14, H⟩=> ⟨(hcons rfl (still_1 S_14 hat145) (hcons rfl (hSt144 _ (still_N S_13 hat144 rfl)) (hcons rfl (still_1 S_12 hat142) (hcons rfl (hSt141 _ (still_N S_11 hat141 rfl)) (hcons rfl (still_1 S_10 hat138) (hcons rfl (hSt137 _ (still_N S_9 hat137 rfl)) (hskip rfl (hskip rfl hnil)))))))), ?_⟩⟩
       refine aE rfl<|H_call HB_23 H fun _ h ⟨S_15, S_16, S_17, S_18, S_19, S_20, H⟩=> ⟨(hcons rfl (still_1 S_20 hat145) (hcons rfl (hSt144 _ (still_N S_19 hat144 rfl)) (hcons rfl (still_1 S_18 hat142) (hcons rfl (hSt141 _ (still_N S_17 hat141 rfl)) (hcons rfl (still_1 S_16 hat138) (hcons rfl (hSt137 _ (still_N S_15 hat137 rfl)) hnil)))))), aE rfl<|H_call HB_25 H fun _ h ⟨S_21, S_22, S_23, S_24, H⟩=> ⟨(hcons rfl (still_1 S_24 hat145) (hcons rfl (hSt144 _ (still_N S_23 hat144 rfl)) (hcons rfl (still_1 S_22 hat142) (hcons rfl (hSt141 _ (still_N S_21 hat141 rfl)) (hskip rfl (hskip rfl hnil)))))), aE rfl<|H_call HB_23 H fun _ h ⟨S_25, S_26, S_27, S_28, H⟩=> ⟨(hcons rfl (still_1 S_28 hat145) (hcons rfl (hSt144 _ (still_N S_27 hat144 rfl)) (hcons rfl (still_1 S_26 hat142) (hcons rfl (hSt141 _ (still_N S_25 hat141 rfl)) hnil)))), aE rfl<|H_call HB_26 H fun _ h ⟨S_29, S_30, H⟩=> ⟨(hcons rfl (still_1 S_30 hat145) (hcons rfl (hSt144 _ (still_N S_29 hat144 rfl)) (hskip rfl (hskip rfl hnil)))), aE rfl<|H_call HB_28 H fun _ h H=> ⟨(hskip rfl (hskip rfl hnil)), aE rfl<|H_call HB_27 H fun _ h H=> ⟨hnil, aE rfl<|H_mkSl TZ_50 (by decide) rfl H rfl fun t148 h H=> ⟨hnil, pS t148 rfl rfl<|vp_done <| sR <| nM (e 5) rfl<|nM t148 rfl<|vl_n <| H_call HB_29 H fun t151 h H=> nM t151 rfl ?_⟩⟩⟩⟩⟩⟩⟩
       obtain ⟨b, hb, H1, H2⟩ := H
       cases b
       · have H := H2 rfl
         clear H1 H2; refine vl_s rfl (nbT hb) ?_; refine vl_s rfl (nbT hb) ?_; refine vl_s rfl (nbT hb) ?_; refine vl_s rfl (nbT hb) ?_; refine vl_s rfl (nbT hb) ?_; refine vl_s rfl (nbT hb) ?_; refine vl_s rfl (nbT hb) ?_; refine vl_s rfl (nbT hb) ?_; refine vl_s rfl (nbT hb) ?_; refine vl_s rfl (nbT hb) ?_; refine vl_s rfl (nbT hb) ?_; refine vl_s rfl (nbT hb) ?_; refine vl_s rfl (nbT hb) ?_; refine vl_s rfl (nbT hb) ?_; refine vl_s rfl (nbT hb) ?_; refine vl_s rfl (nbT hb) ?_; refine vl_s rfl (nbT hb) ?_; refine vl_s rfl (nbT hb) ?_; refine nA (R_pickC (v := (.bool false)) false hb rfl) <| nM (.bool false) rfl ?_; refine vl_s rfl (nbT rfl) ?_; refine vl_s rfl (nbT rfl) ?_; refine vl_s rfl (nbT rfl) ?_; refine vl_s rfl (nbT rfl) ?_; refine vl_s rfl (nbT rfl) ?_; refine nA (R_pickC (v := (.bool false)) false rfl rfl) <| nM (.bool false) rfl ?_; refine vl_s rfl (nbT rfl) ?_; exact nA (R_pickC (v := (.bool false)) false rfl rfl) <| nS (.bool false) rfl<|vl_e <| WPc_ret <| resH_of rfl<|H
       · have H := H1 rfl
         clear H1 H2; refine vl_y rfl hb ?_; refine H_of_R (R_move (v := (e 5)) rfl ?_)
         refine vl_y rfl hb ?_; refine H_of_R (R_move (v := (e 8)) rfl ?_)
         refine vl_y rfl hb ?_; refine H_of_R (R_move (v := (e 10)) rfl ?_)
         refine vl_y rfl hb ?_; refine H_call HB_27 H fun _ h H=> ?_; refine vl_y rfl hb ?_; refine H_of_R (R_move (v := (e 12)) rfl ?_)
         refine vl_y rfl hb ?_; refine H_of_R (R_move (v := (e 20)) rfl ?_)
         refine vl_y rfl hb ?_; refine H_of_R (R_move (v := (e 22)) rfl ?_)
         refine vl_y rfl hb ?_; refine H_call HB_27 H fun _ h H=> ?_; refine vl_y rfl hb ?_; refine H_of_R (R_move (v := (e 24)) rfl ?_)
         refine vl_y rfl hb ?_; refine H_mkSl TZ_50 (by decide) rfl H rfl fun _ h H=> ?_; refine vl_y rfl hb ?_; refine H_of_R (R_move (v := (e 9)) rfl ?_)
         refine vl_y rfl hb ?_; refine H_of_R (R_move (v := (e 11)) rfl ?_)
         refine vl_y rfl hb ?_; refine H_of_R (R_move (v := (e 13)) rfl ?_)
         refine vl_y rfl hb ?_; refine H_of_R (R_move (v := (e 21)) rfl ?_)
         refine vl_y rfl hb ?_; refine H_of_R (R_move (v := (e 23)) rfl ?_)
         refine vl_y rfl hb ?_; refine H_of_R (R_move (v := (e 25)) rfl ?_)
         refine vl_y rfl hb ?_; refine H_mkSl TZ_40 (by decide) rfl H rfl fun _ h H=> ?_; refine vl_y rfl hb ?_; refine H_call HB_29 H fun t170 h H=> ?_; refine nA (R_pickC (v := t170) true hb rfl) <| nM t170 rfl ?_; obtain ⟨b_2, hb_2, H1, H2⟩ := H
         cases b_2
         · have H := H2 rfl
           clear H1 H2; refine vl_s rfl (nbT hb_2) ?_; refine vl_s rfl (nbT hb_2) ?_; refine vl_s rfl (nbT hb_2) ?_; refine vl_s rfl (nbT hb_2) ?_; refine vl_s rfl (nbT hb_2) ?_; refine nA (R_pickC (v := (.bool false)) false hb_2 rfl) <| nM (.bool false) rfl ?_; refine vl_s rfl (nbT rfl) ?_; exact nA (R_pickC (v := (.bool false)) false rfl rfl) <| nS (.bool false) rfl<|vl_e <| WPc_ret <| resH_of rfl<|H
         · have H := H1 rfl
           clear H1 H2; refine vl_y rfl hb_2 ?_; refine H_of_R (R_loadN TN_24 H fun _ _ _ _ H _ _=> ?_)
           refine vl_y rfl hb_2 ?_; refine H_of_R (R_load1 T1_25 H fun _ _ _ _ H=> ?_)
           refine vl_y rfl hb_2 ?_; refine H_call HB_30 H fun _ h H=> ?_; refine vl_y rfl hb_2 ?_; refine H_of_R (R_move (v := (e 6)) rfl ?_)
           refine vl_y rfl hb_2 ?_; refine H_of_R (R_eqI H fun t177 H=> ?_)
           refine nA (R_pickC (v := t177) true hb_2 rfl) <| nM t177 rfl ?_; obtain ⟨b_3, hb_3, H1, H2⟩ := H
           cases b_3
           · have H := H2 rfl
             clear H1 H2; refine vl_s rfl (nbT hb_3) ?_; exact nA (R_pickC (v := (.bool false)) false hb_3 rfl) <| nS (.bool false) rfl<|vl_e <| WPc_ret <| resH_of rfl<|H
           · have H := H1 rfl
             clear H1 H2; refine vl_y rfl hb_3 ?_; refine H_call HB_8 H fun t180 h H=> ?_; exact nA (R_pickC (v := t180) true hb_3 rfl) <| nS t180 rfl<|vl_e <| WPc_ret <| resH_of rfl<|H
     refine WPc_seq' <| W_drawn [0,1,0,4,15,0,32,127,255,511,1023,2047,4095,8191,8191,8191,57343,8191,8191,516095,1048575,2097151,4194303,8388607] (Tk 0<|Tk 1<|Tk 2<|Tk 3<|Tk 4<|Tk 5<|Tk 6<|Tk 7<|Tk 8<|Tk 9<|Tk 10<|Tk 11<|Tk 12<|Tk 13<|Tk 14<|Tk 15<|Tk 17<|Tk 18<|Al 16<|Al 19<|Al 20<|Tk 21<|Tk 22<|Tk 23 .done) mixed (by kernel_rfl) <| pM t73 rfl rfl<|pP rfl (R_len Tryz.underlying25) H fun _ H=> pM t82 rfl rfl<|pP rfl (R_len Tryz.underlying25) H fun _ H=> pP rfl R_add H fun _ H=> pM t90 rfl rfl<|pP rfl (R_len Tryz.underlying25) H fun _ H=> pP rfl R_add H fun _ H=> pP rfl R_gtr H fun t114 H=> pM t114 rfl rfl ?_; obtain ⟨b, hb, H1, H2⟩ := H
     cases b
     · have H := H1 rfl
       clear H1 H2; refine tkPy rfl rfl hb ?_; refine R_move (v := t43) rfl ⟨fun _=> trivial, ?_⟩
       refine tkPy rfl rfl hb ?_; refine R_gtr H fun t117 H=> ⟨fun _=> trivial, ?_⟩
       refine tkPy rfl rfl hb ?_; refine R_move (v := t117) rfl ⟨fun _=> trivial, ?_⟩
       obtain ⟨b_2, hb_2, H1, H2⟩ := H
       cases b_2
       · have H := H2 rfl
         clear H1 H2; refine tk_s rfl rfl (nbT hb_2) ?_; refine tk_s rfl rfl (nbT hb_2) ?_; refine tk_s rfl rfl (nbT hb_2) ?_; refine tk_s rfl rfl (nbT hb_2) ?_; refine tk_s rfl rfl (nbT hb_2) ?_; refine alt_s rfl rfl (nbT hb_2) ?_ vp_none
         refine alt_s rfl rfl (nbT hb_2) ?_ vp_none
         refine alt_s rfl rfl (nbT hb_2) ?_ vp_none
         refine tk_s rfl rfl (nbT hb_2) ?_; refine tkPy rfl rfl hb ?_; refine R_pickC (v := (.bool false)) false hb_2 rfl ⟨fun _=> trivial, ?_⟩
         refine pA rfl (R_pickC (v := (.bool false)) false hb rfl) <| vp_done ?_; refine WPc_cond (t := false) rfl (fun hh=> by cases hh) (fun _=> ?_)
         exact WPc_skip <| H
       · have H := H1 rfl
         clear H1 H2; refine tkPy rfl rfl hb_2 ?_; refine R_move (v := t41) rfl ⟨fun _=> trivial, ?_⟩
         refine tkLy rfl rfl hb_2 ?_; refine R_loadN TN_24 H fun _ _ _ _ H _ _=> ?_; refine tkLy rfl rfl hb_2 ?_; refine R_load1 T1_25 H fun _ _ _ _ H=> ?_; refine tkLy rfl rfl hb_2 ?_; refine R_loadN TN_24 H fun _ _ hat123 _ H _ hSt123=> ?_; refine tkLy rfl rfl hb_2 ?_; refine R_load1 T1_25 H fun _ _ hat124 _ H=> ?_; refine alt_y rfl rfl hb_2 ?_ vp_none
         refine H_call HB_20 H fun _ h ⟨S_11, S_12, H⟩=> ⟨(hcons rfl (still_1 S_12 hat124) (hcons rfl (hSt123 _ (still_N S_11 hat123 rfl)) (hskip rfl (hskip rfl hnil)))), ?_⟩
         refine alt_y rfl rfl hb_2 ?_ vp_none
         refine H_call HB_21 H fun _ h H=> ⟨(hskip rfl (hskip rfl hnil)), ?_⟩
         refine alt_y rfl rfl hb_2 ?_ vp_none
         refine H_call HB_19 H fun _ h H=> ⟨hnil, ?_⟩
         refine tkPy rfl rfl hb_2 ?_; refine R_not H fun t127 H=> ⟨fun _=> trivial, ?_⟩
         refine tkPy rfl rfl hb ?_; refine R_pickC (v := t127) true hb_2 rfl ⟨fun _=> trivial, ?_⟩
         refine pA rfl (R_pickC (v := t127) false hb rfl) <| vp_done ?_; refine cI H (fun H=> ?_) fun H=> ?_
         · exact sR <| nS (.bool false) rfl<|vl_e <| WPc_ret <| resH_of rfl<|H
         · exact WPc_skip <| H
     · have H := H2 rfl
       clear H1 H2; refine tk_s rfl rfl (nbF hb) ?_; refine tk_s rfl rfl (nbF hb) ?_; refine tk_s rfl rfl (nbF hb) ?_; refine tk_s rfl rfl nbU ?_; refine tk_s rfl rfl nbU ?_; refine tk_s rfl rfl nbU ?_; refine tk_s rfl rfl nbU ?_; refine tk_s rfl rfl nbU ?_; refine alt_s rfl rfl nbU ?_ vp_none
       refine alt_s rfl rfl nbU ?_ vp_none
       refine alt_s rfl rfl nbU ?_ vp_none
       refine tk_s rfl rfl nbU ?_; refine tk_s rfl rfl (nbF hb) ?_; refine pA rfl (R_pickC (v := (.bool true)) true hb rfl) <| vp_done ?_; refine WPc_cond (t := true) rfl (fun _=> ?_) (fun hh=> by cases hh)
       exact sR <| nS (.bool false) rfl<|vl_e <| WPc_ret <| resH_of rfl<|H
   refine sR <| nLN TN_24 H fun _ H=> vl_n <| H_call HB_7 H fun _ h H=> nP R_not H fun _ H=> vl_e ?_; refine cI H (fun H=> ?_) fun H=> ?_
   · exact sR <| vl_n <| H_call HB_8 H fun t38 h H=> nS t38 rfl<|vl_e <| WPc_ret <| resH_of rfl<|H
   · exact WPc_skip <| H
 refine sR <| nLN TN_24 H fun _ H=> vl_n <| H_call HB_6 H fun _ h H=> nP R_not H fun t29 H=> nM t29 rfl ?_; obtain ⟨b, hb, H1, H2⟩ := H
 cases b
 · have H := H1 rfl
   clear H1 H2; refine vl_y rfl hb ?_; refine H_of_R (R_load1 T1_25 H fun _ _ _ _ H=> ?_)
   refine vl_y rfl hb ?_; refine H_of_R (R_len Tryz.underlying25 H fun _ H=> ?_)
   refine vl_y rfl hb ?_; refine H_of_R (R_gtr H fun t33 H=> ?_)
   refine nA (R_pickC (v := t33) false hb rfl) <| vl_e ?_; refine cI H (fun H=> ?_) fun H=> ?_
   · exact sR <| nS (.bool true) rfl<|vl_e <| WPc_ret <| resH_of rfl<|H
   · exact WPc_skip <| H
 · have H := H2 rfl
   clear H1 H2; refine vl_s rfl (nbF hb) ?_; refine vl_s rfl (nbF hb) ?_; refine vl_s rfl (nbF hb) ?_; refine nA (R_pickC (v := (.bool true)) true hb rfl) <| vl_e ?_; refine WPc_cond (t := true) rfl (fun _=> ?_) (fun hh=> by cases hh)
   exact sR <| nS (.bool true) rfl<|vl_e <| WPc_ret <| resH_of rfl<|H
def z04_.j2 (s10 s11 : Value) (h : Heap) (Q : Value → Heap → Prop) : Prop := Q (.tuple #[s10, s11]) h
def z04_.j6 (s3 s10 s11 s16 : Value) (h : Heap) (K1 : List Value → Heap → Prop) (Q : Value → Heap → Prop) : Prop := arith (· + ·) s16 (.int .i64 1) fun b=>K1 [b] h
def z04_.j5 (s3 s10 s11 s16 : Value) (h : Heap) (K1 : List Value → Heap → Prop) (Q : Value → Heap → Prop) : Prop := nilck s3 fun b=>fld 0 b fun d=>idxA 8 1 d s16 fun g=>store1 g (.bool false) h fun h=>z04_.j6 s3 s10 s11 s16 h K1 Q
def z04_.l4.b (c3 c10 c11 s16 : Value) (h : Heap) (K1 : List Value → Heap → Prop) (Q : Value → Heap → Prop) : Prop := cmpI (fun a b=> decide (a < b)) s16 (.int .i64 8) fun b=>ifV b (z04_.j5 c3 c10 c11 s16 h K1 Q) (z04_.j2 c10 c11 h Q)
def z04_.j3 (s3 s4 s10 s11 s15 : Value) (h : Heap) (Q : Value → Heap → Prop) : Prop := nilck s3 fun b=>fld 8 b fun d=>idxA 8 1 d s4 fun g=>load1 g h fun i=>cmpI (fun a b=> a != b) s15 i fun j=>ifV j (nilck s3 fun k=>fld 8 k fun l=>idxA 8 1 l s4 fun m=>store1 m s15 h fun h=>arith (· + ·) s4 (.int .i64 1) fun n=>loopC (fun c s h K1=> z04_.l4.b (c.getD 0 undef) (c.getD 1 undef) (c.getD 2 undef) (s.getD 0 undef) h K1 Q) [s3, s10, s11] [n] h) (z04_.j2 s10 s11 h Q)
def z04_.j1 (s1 s3 s4 s10 s11 : Value) (h : Heap) (Q : Value → Heap → Prop) : Prop := cmpI (fun a b=> decide (a < b)) s4 (.int .i64 8) fun b=>ifV b (nilck s3 fun d=>fld 0 d fun g=>idxA 8 1 g s4 fun i=>store1 i (.bool true) h fun h=>z20_.call #[s1] h fun j h=>br j true (ifV s11 (arith (· + ·) s10 (.int .i64 1) fun k=>cvI .u8 k fun l=>z04_.j3 s3 s4 s10 s11 l h Q) (cvI .u8 s10 fun m=>z04_.j3 s3 s4 s10 s11 m h Q)) (cvI .u8 s10 fun n=>z04_.j3 s3 s4 s10 s11 n h Q)) (z04_.j2 s10 s11 h Q)
def z04_.j8 (s0 s1 s3 s4 s7 s12 : Value) (h : Heap) (Q : Value → Heap → Prop) : Prop := cmpI (fun a b=> decide (a > b)) s12 (.int .i64 0) fun b=>br b true (nilck s1 fun d=>fld 2 d fun g=>load1 g h fun i=>arith (· - ·) s12 (.int .i64 1) fun j=>idx 2 i j fun k=>loadN 2 k h fun l=>loadN 2 s7 h fun m=>z17_.call #[s0, l, m] h fun n h=>notV n fun o=>ifV o (arith (· - ·) s12 (.int .i64 1) fun p=>z04_.j1 s1 s3 s4 p (.bool true) h Q) (z04_.j1 s1 s3 s4 s12 (.bool false) h Q)) (z04_.j1 s1 s3 s4 s12 (.bool false) h Q)
def z04_.j10 (s0 s1 s3 s4 s7 s12 s13 : Value) (h : Heap) (K1 : List Value → Heap → Prop) (Q : Value → Heap → Prop) : Prop := arith (· + ·) s13 (.int .i64 1) fun b=>arith (· - ·) b s12 fun d=>divi d (.int .i64 2) fun g=>arith (· + ·) s12 g fun i=>loadN 2 s7 h fun j=>nilck s1 fun k=>fld 2 k fun l=>load1 l h fun m=>idx 2 m i fun n=>loadN 2 n h fun o=>z17_.call #[s0, j, o] h fun p h=>notV p fun q=>ifV q (arith (· + ·) i (.int .i64 1) fun u=>K1 [u, s13] h) (arith (· - ·) i (.int .i64 1) fun v=>K1 [s12, v] h)
def z04_.l9.b (c0 c1 c3 c4 c7 s12 s13 : Value) (h : Heap) (K1 : List Value → Heap → Prop) (Q : Value → Heap → Prop) : Prop := cmpI (fun a b=> decide (a ≤ b)) s12 s13 fun b=>ifV b (z04_.j10 c0 c1 c3 c4 c7 s12 s13 h K1 Q) (z04_.j8 c0 c1 c3 c4 c7 s12 h Q)
def z04_.j7 (s0 s1 s3 s4 s7 s12 s13 : Value) (h : Heap) (Q : Value → Heap → Prop) : Prop := loopC (fun c s h K1=> z04_.l9.b (c.getD 0 undef) (c.getD 1 undef) (c.getD 2 undef) (c.getD 3 undef) (c.getD 4 undef) (s.getD 0 undef) (s.getD 1 undef) h K1 Q) [s0, s1, s3, s4, s7] [s12, s13] h
def z04_.j12 (s0 s1 s3 s4 s7 s10 s12 : Value) (h : Heap) (Q : Value → Heap → Prop) : Prop := arith (· - ·) s10 (.int .i64 1) fun b=>z04_.j7 s0 s1 s3 s4 s7 s12 b h Q
def z04_.j11 (s0 s1 s3 s4 s7 s10 s11 s12 s13 : Value) (h : Heap) (Q : Value → Heap → Prop) : Prop := loadN 2 s7 h fun b=>nilck s1 fun d=>fld 2 d fun g=>load1 g h fun i=>idx 2 i s10 fun j=>loadN 2 j h fun k=>z17_.call #[s0, b, k] h fun l h=>ifV l (cmpI (fun a b=> a == b) s10 (.int .i64 0) fun m=>br m false (nilck s1 fun n=>fld 2 n fun o=>load1 o h fun p=>arith (· - ·) s10 (.int .i64 1) fun q=>idx 2 p q fun u=>loadN 2 u h fun v=>loadN 2 s7 h fun w=>z17_.call #[s0, v, w] h fun x h=>ifV x (z04_.j1 s1 s3 s4 s10 s11 h Q) (z04_.j12 s0 s1 s3 s4 s7 s10 s12 h Q)) (z04_.j1 s1 s3 s4 s10 s11 h Q)) (nilck s1 fun y=>fld 2 y fun z=>load1 z h fun b0=>idx 2 b0 s10 fun b1=>loadN 2 b1 h fun b2=>loadN 2 s7 h fun b3=>z17_.call #[s0, b2, b3] h fun b4 h=>ifV b4 (arith (· + ·) s10 (.int .i64 1) fun b5=>z04_.j7 s0 s1 s3 s4 s7 b5 s13 h Q) (z04_.j1 s1 s3 s4 s10 (.bool true) h Q))
def z04_.j13 (s0 s1 s3 s4 s7 s11 s12 s13 : Value) (h : Heap) (Q : Value → Heap → Prop) : Prop := nilck s1 fun b=>fld 2 b fun d=>load1 d h fun g=>lenV g fun i=>arith (· - ·) i (.int .i64 1) fun j=>z04_.j11 s0 s1 s3 s4 s7 j s11 s12 s13 h Q
def z04_.sh (a0 a1 a2 a3 a4 : Value) (h : Heap) (Q : Value → Heap → Prop) : Prop := box 45 a2 h fun b h=>nilck a1 fun d=>fld 2 d fun g=>load1 g h fun i=>lenV i fun j=>arith (· - ·) j (.int .i64 1) fun k=>cmpI (fun a b=> decide (a < b)) a4 (.int .i64 8) fun l=>br l true (nilck a3 fun m=>fld 0 m fun n=>idxA 8 1 n a4 fun o=>load1 o h fun p=>ifV p (nilck a3 fun q=>fld 8 q fun u=>idxA 8 1 u a4 fun v=>load1 v h fun w=>cvI .i64 w fun x=>nilck a1 fun y=>fld 2 y fun z=>load1 z h fun b0=>lenV b0 fun b1=>cmpI (fun a b=> decide (a ≥ b)) x b1 fun b2=>ifV b2 (nilck a1 fun b3=>fld 2 b3 fun b4=>load1 b4 h fun b5=>nilck a1 fun b6=>fld 2 b6 fun b7=>load1 b7 h fun b8=>lenV b8 fun b9=>arith (· - ·) b9 (.int .i64 1) fun d0=>idx 2 b5 d0 fun d1=>loadN 2 d1 h fun d2=>loadN 2 b h fun d3=>z17_.call #[a0, d2, d3] h fun d4 h=>ifV d4 (nilck a1 fun d5=>fld 2 d5 fun d6=>load1 d6 h fun d7=>lenV d7 fun d8=>z04_.j1 a1 a3 a4 d8 (.bool false) h Q) (z04_.j13 a0 a1 a3 a4 b (.bool false) (.int .i64 0) k h Q)) (z04_.j11 a0 a1 a3 a4 b x (.bool false) (.int .i64 0) k h Q)) (z04_.j7 a0 a1 a3 a4 b (.int .i64 0) k h Q)) (z04_.j7 a0 a1 a3 a4 b (.int .i64 0) k h Q)
theorem z04_.body (a0 a1 a2 a3 a4 : Value) (h : Heap) (Q : Value → Heap → Prop) (H : z04_.sh a0 a1 a2 a3 a4 h Q) : z04_.call #[a0, a1, a2, a3, a4] h Q := by
 refine callsH_of (args := [a0, a1, a2, a3, a4]) Tryz.func194 rfl rfl ?_; unfold z04_.sh at H; refine sR <| vl_n <| H_box H fun _ h H=> nS (.int .i64 0) rfl<|nS (.bool false) rfl<|vl_e ?_; refine WPc_scope1 0 (fun e h=> z04_.j1 (e 1) (e 3) (e 4) (e 10) (e 11) h Q) rfl (fun pass=> ?_) (fun e h H=> ?_)
 rotate_left
 · unfold z04_.j1 at H
   refine WPc_seq (fun e h=> z04_.j2 (e 10) (e 11) h Q) ?_ (fun e h H=> ?_)
   rotate_left
   · unfold z04_.j2 at H
     exact sR <| nM (e 10) rfl<|nM (e 11) rfl<|nS (e 10) rfl<|nS (e 11) rfl<|vl_e <| WPc_ret <| resH_of rfl<|H
   refine sR <| nM (e 4) rfl<|nP R_lss H fun _ H=> vl_e ?_; refine cI H (fun H=> ?_) fun H=> ?_
   · refine sR <| nM (e 3) rfl<|nM (e 4) rfl<|nB TF_152_0 H fun _ _ H=> nP (R_idxA TA_149) H fun _ H=> vl_n <| H_store1 TS_4 H fun h H=> vl_e <| sR <| nS (.int .u8 0) rfl<|vl_e ?_
     refine WPc_seq (fun e h=> z04_.j3 (e 3) (e 4) (e 10) (e 11) (e 15) h Q) ?_ (fun e h H=> ?_)
     rotate_left
     · unfold z04_.j3 at H
       refine sR <| nM (e 15) rfl<|nM (e 3) rfl<|nM (e 4) rfl<|nB TF_152_1 H fun _ _ H=> nP (R_idxA TA_150) H fun _ H=> nL T1_5 H fun _ H=> nP R_neI H fun _ H=> vl_e ?_; refine cI H (fun H=> ?_) fun H=> ?_
       · refine sR <| nM (e 3) rfl<|nM (e 4) rfl<|nM (e 15) rfl<|nB TF_152_1 H fun _ _ H=> nP (R_idxA TA_150) H fun _ H=> vl_n <| H_store1 TS_5 H fun h H=> vl_e <| sR <| nM (e 4) rfl<|nP R_add H fun t188 H=> nS t188 rfl<|vl_e ?_
         refine WPc_block ?_; refine loop_at (fun e=> [e 16]) (fun e=> [e 3, e 10, e 11]) H rfl rfl ?_; intro K1 e1 h H hin1
         replace H : z04_.l4.b (e1 3) (e1 10) (e1 11) (e1 16) h K1 Q := H
         unfold z04_.l4.b at H; clear hin1; refine WPc_seq (fun e h=> z04_.j5 (e 3) (e 10) (e 11) (e 16) h K1 Q ∧ [e1 3, e1 10, e1 11] = [e 3, e 10, e 11]) ?_ (fun e h ⟨H, hq1⟩=> ?_)
         rotate_left
         · unfold z04_.j5 at H
           refine WPc_seq (fun e h=> z04_.j6 (e 3) (e 10) (e 11) (e 16) h K1 Q ∧ [e1 3, e1 10, e1 11] = [e 3, e 10, e 11]) ?_ (fun e h ⟨H, hq1⟩=> ?_)
           rotate_left
           · unfold z04_.j6 at H
             refine W_region (by kernel_rfl) <| nM (e 16) rfl<|nP R_add H fun t192 H=> nS t192 rfl<|vl_e ?_; exact ⟨H, hq1⟩
           refine WPc_block <| W_region (by kernel_rfl) <| nM (e 3) rfl<|nM (e 16) rfl<|nB TF_152_0 H fun _ _ H=> nP (R_idxA TA_149) H fun _ H=> vl_n <| H_store1 TS_4 H fun h H=> vl_e ?_; exact ⟨H, hq1⟩
         refine sR <| nM (e1 16) rfl<|nP R_lss H fun _ H=> vl_e ?_; refine cI H (fun H=> ?_) fun H=> ?_
         · refine WPc_skip ?_
           exact ⟨H, rfl⟩
         · refine WPc_exit ?_
           exact H
       · exact WPc_skip <| H
     refine sR <| nM (e 1) rfl<|vl_n <| H_call HB_104 H fun t164 h H=> nM t164 rfl ?_; obtain ⟨b_2, hb, H1, H2⟩ := H
     cases b_2
     · have H := H2 rfl
       clear H1 H2; refine vl_s rfl (nbT hb) ?_; refine nA (R_pickC (v := (.bool false)) false hb rfl) <| vl_e ?_; refine WPc_cond (t := false) rfl (fun hh=> by cases hh) (fun _=> ?_)
       exact W_region (by kernel_rfl) <| nM (e 10) rfl<|nP (R_cvI Tryz.underlying3 Tryz.underlying5) H fun t172 H=> nS t172 rfl<|vl_e <| H
     · have H := H1 rfl
       clear H1 H2; refine vl_y rfl hb ?_; refine H_of_R (R_move (v := (e 11)) rfl ?_)
       refine nA (R_pickC (v := (e 11)) true hb rfl) <| vl_e ?_; refine cI H (fun H=> ?_) fun H=> ?_
       · exact W_region (by kernel_rfl) <| nM (e 10) rfl<|nP R_add H fun _ H=> nP (R_cvI Tryz.underlying3 Tryz.underlying5) H fun t170 H=> nS t170 rfl<|vl_e <| H
       · exact W_region (by kernel_rfl) <| nM (e 10) rfl<|nP (R_cvI Tryz.underlying3 Tryz.underlying5) H fun t172_2 H=> nS t172_2 rfl<|vl_e <| H
   · exact WPc_skip <| H
 refine sR <| nS (.int .i64 0) rfl<|vl_e <| sR <| nM a1 rfl<|nT TF_167_2 T1_25 H fun _ _ _ H=> nP (R_len Tryz.underlying25) H fun _ H=> nP R_sub H fun t22 H=> nS t22 rfl<|vl_e ?_; refine WPc_seq (fun e h=> z04_.j7 (e 0) (e 1) (e 3) (e 4) (e 7) (e 12) (e 13) h Q) ?_ (fun e h H=> ?_)
 rotate_left
 · unfold z04_.j7 at H
   refine WPc_seq (fun e h=> z04_.j8 (e 0) (e 1) (e 3) (e 4) (e 7) (e 12) h Q) ?_ (fun e h H=> ?_)
   rotate_left
   · unfold z04_.j8 at H
     refine WPc_seq' <| WPc_seq' <| W_drawn [0,1,3,7,7,23,55,119,7,263,1015,2039,7,8191,16383,32767] (Tk 0<|Tk 1<|Tk 2<|Tk 3<|Tk 4<|Tk 5<|Tk 6<|Tk 7<|Tk 8<|Tk 9<|Tk 10<|Tk 11<|Tk 12<|Al 13<|Tk 14<|Tk 15 .done) mixed (by kernel_rfl) <| pM (e 12) rfl rfl<|pP rfl R_gtr H fun t138 H=> pM t138 rfl rfl ?_; obtain ⟨b, hb, H1, H2⟩ := H
     cases b
     · have H := H2 rfl
       clear H1 H2; refine tk_s rfl rfl (nbT hb) ?_; refine tk_s rfl rfl (nbT hb) ?_; refine tk_s rfl rfl (nbT hb) ?_; refine tk_s rfl rfl (nbT hb) ?_; refine tk_s rfl rfl (nbT hb) ?_; refine tk_s rfl rfl (nbT hb) ?_; refine tk_s rfl rfl (nbT hb) ?_; refine tk_s rfl rfl (nbT hb) ?_; refine tk_s rfl rfl (nbT hb) ?_; refine tk_s rfl rfl (nbT hb) ?_; refine alt_s rfl rfl (nbT hb) ?_ vp_none
       refine tk_s rfl rfl (nbT hb) ?_; refine pA rfl (R_pickC (v := (.bool false)) false hb rfl) <| vp_done ?_; refine WPc_cond (t := false) rfl (fun hh=> by cases hh) (fun _=> ?_)
       refine sR <| nM (e 12) rfl<|nS (e 12) rfl<|vl_e <| W_region (by kernel_rfl) <| nS (.bool false) rfl<|vl_e ?_; refine WPc_seq' (WPc_label ?_)
       refine pass _ _ ?_; exact H
     · have H := H1 rfl
       clear H1 H2; refine tkPy rfl rfl hb ?_; refine R_move (v := (e 0)) rfl ⟨fun _=> trivial, ?_⟩
       refine tkPy rfl rfl hb ?_; refine R_move (v := (e 1)) rfl ⟨fun _=> trivial, ?_⟩
       refine tkPy rfl rfl hb ?_; refine R_nil H fun _ H=> ⟨fun _=> trivial, ?_⟩
       refine tkPy rfl rfl hb ?_; refine R_fld TF_167_2 H fun _ H=> ⟨fun _=> trivial, ?_⟩
       refine tkLy rfl rfl hb ?_; refine R_load1 T1_25 H fun _ _ _ _ H=> ?_; refine tkPy rfl rfl hb ?_; refine R_move (v := (e 12)) rfl ⟨fun _=> trivial, ?_⟩
       refine tkPy rfl rfl hb ?_; refine R_sub H fun _ H=> ⟨fun _=> trivial, ?_⟩
       refine tkPy rfl rfl hb ?_; refine R_idx TE_25 H fun _ H=> ⟨fun _=> trivial, ?_⟩
       refine tkLy rfl rfl hb ?_; refine R_loadN TN_45 H fun _ _ _ _ H _ _=> ?_; refine tkLy rfl rfl hb ?_; refine R_loadN TN_45 H fun _ _ _ _ H _ _=> ?_; refine alt_y rfl rfl hb ?_ vp_none
       refine H_call HB_178 H fun _ h H=> ⟨(hskip rfl (hskip rfl (hskip rfl hnil))), ?_⟩
       refine tkPy rfl rfl hb ?_; refine R_not H fun t151 H=> ⟨fun _=> trivial, ?_⟩
       refine pA rfl (R_pickC (v := t151) true hb rfl) <| vp_done ?_; refine cI H (fun H=> ?_) fun H=> ?_
       · refine sR <| nM (e 12) rfl<|nP R_sub H fun t154 H=> nS t154 rfl<|vl_e <| W_region (by kernel_rfl) <| nS (.bool true) rfl<|vl_e ?_
         refine WPc_seq' (WPc_label ?_)
         refine pass _ _ ?_; exact H
       · refine sR <| nM (e 12) rfl<|nS (e 12) rfl<|vl_e <| W_region (by kernel_rfl) <| nS (.bool false) rfl<|vl_e ?_
         refine WPc_seq' (WPc_label ?_)
         refine pass _ _ ?_; exact H
   refine WPc_block ?_; refine loop_at (fun e=> [e 12, e 13]) (fun e=> [e 0, e 1, e 3, e 4, e 7]) H rfl rfl ?_; intro K1 e1 h H hin1
   replace H : z04_.l9.b (e1 0) (e1 1) (e1 3) (e1 4) (e1 7) (e1 12) (e1 13) h K1 Q := H
   unfold z04_.l9.b at H; clear hin1; refine WPc_seq (fun e h=> z04_.j10 (e 0) (e 1) (e 3) (e 4) (e 7) (e 12) (e 13) h K1 Q ∧ [e1 0, e1 1, e1 3, e1 4, e1 7] = [e 0, e 1, e 3, e 4, e 7]) ?_ (fun e h ⟨H, hq1⟩=> ?_)
   rotate_left
   · unfold z04_.j10 at H
     refine WPc_block <| sR <| nM (e 12) rfl<|nM (e 13) rfl<|nP R_add H fun _ H=> nM (e 12) rfl<|nP R_sub H fun _ H=> nP R_quo H fun _ H=> nP R_add H fun t121 H=> nS t121 rfl<|vl_e <| WPc_seq' <| W_drawn [0,0,0,4,12,28,0,124,252,511,1023] (Tk 0<|Tk 1<|Tk 2<|Tk 3<|Tk 4<|Tk 5<|Tk 6<|Tk 7<|Tk 8<|Al 9<|Tk 10 .done) mixed (by kernel_rfl) <| pM (e 0) rfl rfl ?_; refine tkL rfl<|R_loadN TN_45 H fun _ _ _ _ H _ _=> pM (e 1) rfl rfl<|pT rfl rfl rfl TF_167_2 T1_25 H fun _ _ _ _ _ H=> pM t121 rfl rfl<|pP rfl (R_idx TE_25) H fun _ H=> tkL rfl<|R_loadN TN_45 H fun _ _ _ _ H _ _=> aE rfl<|H_call HB_178 H fun _ h H=> ⟨(hskip rfl (hskip rfl (hskip rfl hnil))), pP rfl R_not H fun _ H=> vp_done ?_⟩
     refine cI H (fun H=> ?_) fun H=> ?_
     · refine W_region (by kernel_rfl) <| nM t121 rfl<|nP R_add H fun t134 H=> nS t134 rfl<|vl_e ?_
       exact ⟨H, hq1⟩
     · refine W_region (by kernel_rfl) <| nM t121 rfl<|nP R_sub H fun t136 H=> nS t136 rfl<|vl_e ?_
       exact ⟨H, hq1⟩
   refine sR <| nM (e1 12) rfl<|nM (e1 13) rfl<|nP R_leq H fun _ H=> vl_e ?_; refine cI H (fun H=> ?_) fun H=> ?_
   · refine WPc_skip ?_
     exact ⟨H, rfl⟩
   · refine WPc_exit ?_
     exact H
 refine sR <| nM a4 rfl<|nP R_lss H fun t24 H=> nM t24 rfl ?_; obtain ⟨b, hb, H1, H2⟩ := H
 cases b
 · have H := H2 rfl
   clear H1 H2; refine vl_s rfl (nbT hb) ?_; refine vl_s rfl (nbT hb) ?_; refine vl_s rfl (nbT hb) ?_; refine vl_s rfl (nbT hb) ?_; refine vl_s rfl (nbT hb) ?_; refine vl_s rfl (nbT hb) ?_; refine nA (R_pickC (v := (.bool false)) false hb rfl) <| vl_e ?_; refine WPc_cond (t := false) rfl (fun hh=> by cases hh) (fun _=> ?_)
   exact WPc_skip <| H
 · have H := H1 rfl
   clear H1 H2; refine vl_y rfl hb ?_; refine H_of_R (R_move (v := a3) rfl ?_)
   refine vl_y rfl hb ?_; refine H_of_R (R_move (v := a4) rfl ?_)
   refine vl_y rfl hb ?_; refine H_of_R (R_nil H fun _ H=> ?_)
   refine vl_y rfl hb ?_; refine H_of_R (R_fld TF_152_0 H fun _ H=> ?_)
   refine vl_y rfl hb ?_; refine H_of_R (R_idxA TA_149 H fun _ H=> ?_)
   refine vl_y rfl hb ?_; refine H_of_R (R_load1 T1_4 H fun _ t31 _ _ H=> ?_)
   refine nA (R_pickC (v := t31) true hb rfl) <| vl_e ?_; refine cI H (fun H=> ?_) fun H=> ?_
   · refine sR <| nM a3 rfl<|nM a4 rfl<|nB TF_152_1 H fun _ _ H=> nP (R_idxA TA_150) H fun _ H=> nL T1_5 H fun _ H=> nP (R_cvI Tryz.underlying5 Tryz.underlying3) H fun t39 H=> nS t39 rfl<|vl_e ?_
     refine WPc_seq (fun e h=> z04_.j11 (e 0) (e 1) (e 3) (e 4) (e 7) (e 10) (e 11) (e 12) (e 13) h Q) ?_ (fun e h H=> ?_)
     rotate_left
     · unfold z04_.j11 at H
       refine WPc_seq' <| W_drawn [0,0,0,4,12,28,0,124,252,511] (Tk 0<|Tk 1<|Tk 2<|Tk 3<|Tk 4<|Tk 5<|Tk 6<|Tk 7<|Tk 8<|Al 9 .done) mixed (by kernel_rfl) <| pM (e 0) rfl rfl<|tkL rfl<|R_loadN TN_45 H fun _ _ _ _ H _ _=> pM (e 1) rfl rfl<|pT rfl rfl rfl TF_167_2 T1_25 H fun _ _ _ _ _ H=> pM (e 10) rfl rfl<|pP rfl (R_idx TE_25) H fun _ H=> tkL rfl<|R_loadN TN_45 H fun _ _ _ _ H _ _=> aE rfl<|H_call HB_178 H fun _ h H=> ⟨(hskip rfl (hskip rfl (hskip rfl hnil))), vp_done ?_⟩
       refine cI H (fun H=> ?_) fun H=> ?_
       · refine WPc_seq (fun e h=> z04_.j12 (e 0) (e 1) (e 3) (e 4) (e 7) (e 10) (e 12) h Q) ?_ (fun e h H=> ?_)
         rotate_left
         · unfold z04_.j12 at H
           exact W_region (by kernel_rfl) <| nM (e 10) rfl<|nP R_sub H fun t99 H=> nS t99 rfl<|vl_e <| H
         refine WPc_seq' <| W_drawn [0,1,3,7,7,23,55,119,7,263,1015,2039,7,8191,16383] (Tk 0<|Tk 1<|Tk 2<|Tk 3<|Tk 4<|Tk 5<|Tk 6<|Tk 7<|Tk 8<|Tk 9<|Tk 10<|Tk 11<|Tk 12<|Al 13<|Tk 14 .done) mixed (by kernel_rfl) <| pM (e 10) rfl rfl<|pP rfl R_eqI H fun t84 H=> pM t84 rfl rfl ?_; obtain ⟨b_2, hb, H1, H2⟩ := H
         cases b_2
         · have H := H1 rfl
           clear H1 H2; refine tkPy rfl rfl hb ?_; refine R_move (v := (e 0)) rfl ⟨fun _=> trivial, ?_⟩
           refine tkPy rfl rfl hb ?_; refine R_move (v := (e 1)) rfl ⟨fun _=> trivial, ?_⟩
           refine tkPy rfl rfl hb ?_; refine R_nil H fun _ H=> ⟨fun _=> trivial, ?_⟩
           refine tkPy rfl rfl hb ?_; refine R_fld TF_167_2 H fun _ H=> ⟨fun _=> trivial, ?_⟩
           refine tkLy rfl rfl hb ?_; refine R_load1 T1_25 H fun _ _ _ _ H=> ?_; refine tkPy rfl rfl hb ?_; refine R_move (v := (e 10)) rfl ⟨fun _=> trivial, ?_⟩
           refine tkPy rfl rfl hb ?_; refine R_sub H fun _ H=> ⟨fun _=> trivial, ?_⟩
           refine tkPy rfl rfl hb ?_; refine R_idx TE_25 H fun _ H=> ⟨fun _=> trivial, ?_⟩
           refine tkLy rfl rfl hb ?_; refine R_loadN TN_45 H fun _ _ _ _ H _ _=> ?_; refine tkLy rfl rfl hb ?_; refine R_loadN TN_45 H fun _ _ _ _ H _ _=> ?_; refine alt_y rfl rfl hb ?_ vp_none
           refine H_call HB_178 H fun t96 h H=> ⟨(hskip rfl (hskip rfl (hskip rfl hnil))), ?_⟩
           refine pA rfl (R_pickC (v := t96) false hb rfl) <| vp_done ?_; refine cI H (fun H=> ?_) fun H=> ?_
           · refine WPc_goto ⟨rfl, ?_⟩
             exact H
           · exact WPc_skip <| H
         · have H := H2 rfl
           clear H1 H2; refine tk_s rfl rfl (nbF hb) ?_; refine tk_s rfl rfl (nbF hb) ?_; refine tk_s rfl rfl (nbF hb) ?_; refine tk_s rfl rfl (nbF hb) ?_; refine tk_s rfl rfl (nbF hb) ?_; refine tk_s rfl rfl (nbF hb) ?_; refine tk_s rfl rfl (nbF hb) ?_; refine tk_s rfl rfl (nbF hb) ?_; refine tk_s rfl rfl (nbF hb) ?_; refine tk_s rfl rfl (nbF hb) ?_; refine alt_s rfl rfl (nbF hb) ?_ vp_none
           refine pA rfl (R_pickC (v := (.bool true)) true hb rfl) <| vp_done ?_; refine WPc_cond (t := true) rfl (fun _=> ?_) (fun hh=> by cases hh)
           refine WPc_goto ⟨rfl, ?_⟩
           exact H
       · refine WPc_seq' <| W_drawn [0,0,2,6,14,0,62,126,0,511] (Tk 0<|Tk 1<|Tk 2<|Tk 3<|Tk 4<|Tk 5<|Tk 6<|Tk 7<|Tk 8<|Al 9 .done) mixed (by kernel_rfl) <| pM (e 0) rfl rfl<|pM (e 1) rfl rfl<|pT rfl rfl rfl TF_167_2 T1_25 H fun _ _ _ _ _ H=> pM (e 10) rfl rfl<|pP rfl (R_idx TE_25) H fun _ H=> tkL rfl<|R_loadN TN_45 H fun _ _ _ _ H _ _=> tkL rfl<|R_loadN TN_45 H fun _ _ _ _ H _ _=> aE rfl<|H_call HB_178 H fun _ h H=> ⟨(hskip rfl (hskip rfl (hskip rfl hnil))), vp_done ?_⟩
         refine cI H (fun H=> ?_) fun H=> ?_
         · exact W_region (by kernel_rfl) <| nM (e 10) rfl<|nP R_add H fun t111 H=> nS t111 rfl<|vl_e <| H
         · refine sR <| nS (.bool true) rfl<|vl_e ?_
           refine WPc_goto ⟨rfl, ?_⟩
           exact H
     refine sR <| nM t39 rfl<|nM a1 rfl<|nT TF_167_2 T1_25 H fun _ _ _ H=> nP (R_len Tryz.underlying25) H fun _ H=> nP R_geq H fun _ H=> vl_e ?_; refine cI H (fun H=> ?_) fun H=> ?_
     · refine WPc_seq (fun e h=> z04_.j13 (e 0) (e 1) (e 3) (e 4) (e 7) (e 11) (e 12) (e 13) h Q) ?_ (fun e h H=> ?_)
       rotate_left
       · unfold z04_.j13 at H
         exact W_region (by kernel_rfl) <| nM (e 1) rfl<|nT TF_167_2 T1_25 H fun _ _ _ H=> nP (R_len Tryz.underlying25) H fun _ H=> nP R_sub H fun t72 H=> nS t72 rfl<|vl_e <| H
       refine WPc_seq' <| W_drawn [0,0,2,6,14,0,32,96,224,480,992,2046,4094,0,16383] (Tk 0<|Tk 1<|Tk 2<|Tk 3<|Tk 4<|Tk 5<|Tk 6<|Tk 7<|Tk 8<|Tk 9<|Tk 10<|Tk 11<|Tk 12<|Tk 13<|Al 14 .done) mixed (by kernel_rfl) <| pM a0 rfl rfl<|pM a1 rfl rfl<|pT rfl rfl rfl TF_167_2 T1_25 H fun _ _ _ _ _ H=> pM a1 rfl rfl<|pT rfl rfl rfl TF_167_2 T1_25 H fun _ _ _ _ _ H=> pP rfl (R_len Tryz.underlying25) H fun _ H=> pP rfl R_sub H fun _ H=> pP rfl (R_idx TE_25) H fun _ H=> ?_; refine tkL rfl<|R_loadN TN_45 H fun _ _ _ _ H _ _=> tkL rfl<|R_loadN TN_45 H fun _ _ _ _ H _ _=> aE rfl<|H_call HB_178 H fun _ h H=> ⟨(hskip rfl (hskip rfl (hskip rfl (hskip rfl hnil)))), vp_done ?_⟩
       refine cI H (fun H=> ?_) fun H=> ?_
       · refine sR <| nM a1 rfl<|nT TF_167_2 T1_25 H fun _ _ _ H=> nP (R_len Tryz.underlying25) H fun t66 H=> nS t66 rfl<|vl_e ?_
         refine WPc_goto ⟨rfl, ?_⟩
         exact H
       · exact WPc_skip <| H
     · exact WPc_skip <| H
   · exact WPc_skip <| H
def z0n_.j6 (s10 s11 : Value) (h : Heap) (Q : Value → Heap → Prop) : Prop := loadN 2 s10 h fun b=>storeN 2 s10 b h fun h=>loadN 2 s10 h fun d=>Q (.tuple #[d, s11, (.bool false)]) h
def z0n_.j5 (s10 s11 s13 : Value) (h : Heap) (Q : Value → Heap → Prop) : Prop := notV s11 fun b=>ifV b (load1 s13 h fun d=>nilck d fun g=>fld 1 g fun i=>load1 i h fun j=>arith (· + ·) j (.int .i64 1) fun k=>nilck d fun l=>fld 1 l fun m=>store1 m k h fun h=>z0n_.j6 s10 s11 h Q) (z0n_.j6 s10 s11 h Q)
def z0n_.j7 (s0 s3 s4 s7 s10 s13 s14 : Value) (h : Heap) (Q : Value → Heap → Prop) : Prop := load1 s13 h fun b=>nilck b fun d=>fld 3 d fun g=>load1 g h fun i=>nilck i fun j=>load1 j h fun k=>idx 1 k s14 fun l=>load1 l h fun m=>z07_.call #[s0, m] h fun n h=>extr 0 n fun o=>extr 1 n fun p=>alloc [(.int .i64 0), (.int .i64 0)] 45 h fun q h=>storeN 2 q p h fun h=>load1 s13 h fun u=>nilck u fun v=>fld 3 v fun w=>load1 w h fun x=>load1 s13 h fun y=>nilck y fun z=>fld 3 z fun b0=>load1 b0 h fun b1=>nilck b1 fun b2=>load1 b2 h fun b3=>mkSl (if 1 * 1 = 0 then [] else zeros [(.pointer none)] 1) 1 [(0 * 1, 1, (.pointer none))] 76 h fun b4 h=>still1 s13 u h ∧ still1 w x h ∧ still1 s13 y h ∧ still1 b0 b1 h ∧ still1 b2 b3 h ∧ app 76 1 8 [(.pointer none)] b3 b4 h fun b5 h=>still1 s13 u h ∧ still1 w x h ∧ nilck x fun b6=>store1 b6 b5 h fun h=>load1 s13 h fun b7=>nilck b7 fun b8=>fld 3 b8 fun b9=>load1 b9 h fun d0=>nilck d0 fun d1=>load1 d1 h fun d2=>arith (· + ·) s14 (.int .i64 1) fun d3=>slc 1 d2 (some d3) none none fun d4=>load1 s13 h fun d5=>nilck d5 fun d6=>fld 3 d6 fun d7=>load1 d7 h fun d8=>nilck d8 fun d9=>load1 d9 h fun g0=>slc 1 g0 (some s14) none none fun g1=>cpy 1 d4 g1 h fun g2 h=>load1 s13 h fun g3=>nilck g3 fun g4=>fld 3 g4 fun g5=>load1 g5 h fun g6=>nilck g6 fun g7=>load1 g7 h fun g8=>arith (· + ·) s14 (.int .i64 1) fun g9=>idx 1 g8 g9 fun i0=>store1 i0 o h fun h=>load1 s13 h fun i1=>load1 s13 h fun i2=>nilck i2 fun i3=>fld 2 i3 fun i4=>load1 i4 h fun i5=>nilck s0 fun i6=>fld 7 i6 fun i7=>loadN 2 i7 h fun i8=>mkSl (if 1 * 2 = 0 then [] else zeros [(.int .i64 0), (.int .i64 0)] 1) 1 [(0 * 2, 2, i8)] 45 h fun i9 h=>still1 s13 i1 h ∧ still1 s13 i2 h ∧ still1 i4 i5 h ∧ app 45 2 16 [(.int .i64 0), (.int .i64 0)] i5 i9 h fun j0 h=>still1 s13 i1 h ∧ nilck i1 fun j1=>fld 2 j1 fun j2=>store1 j2 j0 h fun h=>load1 s13 h fun j3=>nilck j3 fun j4=>fld 2 j4 fun j5=>load1 j5 h fun j6=>arith (· + ·) s14 (.int .i64 1) fun j7=>slc 2 j6 (some j7) none none fun j8=>load1 s13 h fun j9=>nilck j9 fun k0=>fld 2 k0 fun k1=>load1 k1 h fun k2=>slc 2 k2 (some s14) none none fun k3=>cpy 2 j8 k3 h fun k4 h=>load1 s13 h fun k5=>nilck k5 fun k6=>fld 2 k6 fun k7=>load1 k7 h fun k8=>loadN 2 q h fun k9=>idx 2 k8 s14 fun l0=>storeN 2 l0 k9 h fun h=>loadN 2 s7 h fun l1=>z0n_.call #[s0, s13, l1, s3, s4] h fun l2 h=>extr 0 l2 fun l3=>extr 1 l2 fun l4=>extr 2 l2 fun l5=>storeN 2 s10 l3 h fun h=>loadN 2 s10 h fun l6=>Q (.tuple #[l6, l4, l5]) h
def z0n_.j4 (s0 s3 s4 s7 s10 s13 s14 : Value) (h : Heap) (Q : Value → Heap → Prop) : Prop := load1 s13 h fun b=>nilck b fun d=>fld 3 d fun g=>load1 g h fun i=>nilck i fun j=>load1 j h fun k=>idx 1 k s14 fun l=>loadN 2 s7 h fun m=>arith (· + ·) s4 (.int .i64 1) fun n=>z0n_.call #[s0, l, m, s3, n] h fun o h=>extr 0 o fun p=>extr 1 o fun q=>extr 2 o fun u=>storeN 2 s10 p h fun h=>ifV u (load1 s13 h fun v=>nilck v fun w=>fld 2 w fun x=>load1 x h fun y=>lenV y fun z=>nilck s0 fun b0=>fld 9 b0 fun b1=>load1 b1 h fun b2=>cmpI (fun a b=> a == b) z b2 fun b3=>ifV b3 (nilck s0 fun b4=>fld 7 b4 fun b5=>loadN 2 b5 h fun b6=>storeN 2 s10 b6 h fun h=>loadN 2 s10 h fun b7=>Q (.tuple #[b7, (.bool false), (.bool true)]) h) (z0n_.j7 s0 s3 s4 s7 s10 s13 s14 h Q)) (z0n_.j5 s10 q s13 h Q)
def z0n_.j8 (s0 s7 s10 s13 s14 : Value) (h : Heap) (Q : Value → Heap → Prop) : Prop := load1 s13 h fun b=>load1 s13 h fun d=>nilck d fun g=>fld 2 g fun i=>load1 i h fun j=>nilck s0 fun k=>fld 7 k fun l=>loadN 2 l h fun m=>mkSl (if 1 * 2 = 0 then [] else zeros [(.int .i64 0), (.int .i64 0)] 1) 1 [(0 * 2, 2, m)] 45 h fun n h=>still1 s13 b h ∧ still1 s13 d h ∧ still1 i j h ∧ app 45 2 16 [(.int .i64 0), (.int .i64 0)] j n h fun o h=>still1 s13 b h ∧ nilck b fun p=>fld 2 p fun q=>store1 q o h fun h=>load1 s13 h fun u=>nilck u fun v=>fld 2 v fun w=>load1 w h fun x=>arith (· + ·) s14 (.int .i64 1) fun y=>slc 2 x (some y) none none fun z=>load1 s13 h fun b0=>nilck b0 fun b1=>fld 2 b1 fun b2=>load1 b2 h fun b3=>slc 2 b3 (some s14) none none fun b4=>cpy 2 z b4 h fun b5 h=>load1 s13 h fun b6=>nilck b6 fun b7=>fld 2 b7 fun b8=>load1 b8 h fun b9=>loadN 2 s7 h fun d0=>idx 2 b9 s14 fun d1=>storeN 2 d1 d0 h fun h=>load1 s13 h fun d2=>nilck d2 fun d3=>fld 1 d3 fun d4=>load1 d4 h fun d5=>arith (· + ·) d5 (.int .i64 1) fun d6=>nilck d2 fun d7=>fld 1 d7 fun d8=>store1 d8 d6 h fun h=>nilck s0 fun d9=>fld 7 d9 fun g0=>loadN 2 g0 h fun g1=>storeN 2 s10 g1 h fun h=>loadN 2 s10 h fun g2=>Q (.tuple #[g2, (.bool false), (.bool false)]) h
def z0n_.j3 (s0 s3 s4 s7 s10 s13 s14 : Value) (h : Heap) (Q : Value → Heap → Prop) : Prop := load1 s13 h fun b=>z20_.call #[b] h fun d h=>ifV d (load1 s13 h fun g=>nilck g fun i=>fld 2 i fun j=>load1 j h fun k=>lenV k fun l=>nilck s0 fun m=>fld 9 m fun n=>load1 n h fun o=>cmpI (fun a b=> a == b) l o fun p=>ifV p (nilck s0 fun q=>fld 7 q fun u=>loadN 2 u h fun v=>storeN 2 s10 v h fun h=>loadN 2 s10 h fun w=>Q (.tuple #[w, (.bool false), (.bool true)]) h) (z0n_.j8 s0 s7 s10 s13 s14 h Q)) (z0n_.j4 s0 s3 s4 s7 s10 s13 s14 h Q)
def z0n_.j2 (s0 s3 s4 s7 s10 s13 s14 s15 : Value) (h : Heap) (Q : Value → Heap → Prop) : Prop := ifV s15 (load1 s13 h fun b=>nilck b fun d=>fld 2 d fun g=>load1 g h fun i=>idx 2 i s14 fun j=>loadN 2 j h fun k=>storeN 2 s10 k h fun h=>load1 s13 h fun l=>nilck l fun m=>fld 2 m fun n=>load1 n h fun o=>loadN 2 s7 h fun p=>idx 2 o s14 fun q=>storeN 2 q p h fun h=>loadN 2 s10 h fun u=>storeN 2 s10 u h fun h=>loadN 2 s10 h fun v=>Q (.tuple #[v, (.bool true), (.bool false)]) h) (z0n_.j3 s0 s3 s4 s7 s10 s13 s14 h Q)
def z0n_.j1 (s0 s1 s3 s4 s7 s10 : Value) (h : Heap) (Q : Value → Heap → Prop) : Prop := nilck s1 fun b=>load1 b h fun d=>alloc [(.pointer none)] 76 h fun g h=>store1 g d h fun h=>eqNilP s3 fun i=>ifV i (load1 g h fun j=>loadN 2 s7 h fun k=>z0k_.call #[s0, j, k] h fun l h=>extr 0 l fun m=>extr 1 l fun n=>z0n_.j2 s0 s3 s4 s7 s10 g m n h Q) (load1 g h fun o=>loadN 2 s7 h fun p=>z04_.call #[s0, o, p, s3, s4] h fun q h=>extr 0 q fun u=>extr 1 q fun v=>z0n_.j2 s0 s3 s4 s7 s10 g u v h Q)
def z0n_.sh (a0 a1 a2 a3 a4 : Value) (h : Heap) (Q : Value → Heap → Prop) : Prop := box 45 a2 h fun b h=>alloc [(.int .i64 0), (.int .i64 0)] 45 h fun d h=>nilck a1 fun g=>load1 g h fun i=>nilck i fun j=>fld 0 j fun k=>load1 k h fun l=>nilck a0 fun m=>fld 0 m fun n=>load1 n h fun o=>cmpI (fun a b=> a != b) l o fun p=>ifV p (nilck a1 fun q=>load1 q h fun u=>z1a_.call #[a0, u] h fun v h=>nilck a1 fun w=>store1 w v h fun h=>z0n_.j1 a0 a1 a3 a4 b d h Q) (z0n_.j1 a0 a1 a3 a4 b d h Q)
theorem z0n_.body (a0 a1 a2 a3 a4 : Value) (h : Heap) (Q : Value → Heap → Prop) (H : z0n_.sh a0 a1 a2 a3 a4 h Q) : z0n_.call #[a0, a1, a2, a3, a4] h Q := by
 refine callsH_of (args := [a0, a1, a2, a3, a4]) Tryz.func190 rfl rfl ?_; unfold z0n_.sh at H; refine sR <| vl_n <| H_box H fun _ h H=> vl_n <| H_alloc TV_45 H fun _ h H=> nS (.bool false) rfl<|nS (.bool false) rfl<|vl_e ?_; refine WPc_seq (fun e h=> z0n_.j1 (e 0) (e 1) (e 3) (e 4) (e 7) (e 10) h Q) ?_ (fun e h H=> ?_)
 rotate_left
 · unfold z0n_.j1 at H
   refine sR <| nM (e 1) rfl<|nP R_nil H fun _ H=> nL T1_76 H fun _ H=> vl_n <| H_alloc TV_76 H fun _ h H=> vl_n <| H_store1 TS_76 H fun h H=> vl_e <| sR <| nS (.int .i64 0) rfl<|vl_e <| sR <| nS (.bool false) rfl<|vl_e ?_; refine WPc_seq (fun e h=> z0n_.j2 (e 0) (e 3) (e 4) (e 7) (e 10) (e 13) (e 14) (e 15) h Q) ?_ (fun e h H=> ?_)
   rotate_left
   · unfold z0n_.j2 at H
     refine WPc_seq (fun e h=> z0n_.j3 (e 0) (e 3) (e 4) (e 7) (e 10) (e 13) (e 14) h Q) ?_ (fun e h H=> ?_)
     rotate_left
     · unfold z0n_.j3 at H
       refine WPc_seq (fun e h=> z0n_.j4 (e 0) (e 3) (e 4) (e 7) (e 10) (e 13) (e 14) h Q) ?_ (fun e h H=> ?_)
       rotate_left
       · unfold z0n_.j4 at H
         refine WPc_seq' <| W_drawn [0,0,2,6,14,30,62,0,254,0,0,0,2048,8191,16383,32767,32767,32767,65535,393215,1048575] (Tk 0<|Tk 1<|Tk 2<|Tk 3<|Tk 4<|Tk 5<|Tk 6<|Tk 7<|Tk 8<|Tk 9<|Tk 10<|Tk 11<|Tk 12<|Al 13<|Tk 14<|Tk 15<|Tk 16<|Tk 17<|Al 18<|Tk 19<|Tk 20 .done) mixed (by kernel_rfl) <| pM (e 0) rfl rfl<|pL rfl T1_76 H fun _ _ _ H=> pT rfl rfl rfl TF_167_3 T1_165 H fun _ _ _ _ _ H=> pP rfl R_nil H fun _ H=> pL rfl T1_168 H fun _ _ _ H=> pM (e 14) rfl rfl<|pP rfl (R_idx TE_168) H fun _ H=> tkL rfl<|R_loadN TN_45 H fun _ _ _ _ H _ _=> pM (e 3) rfl rfl<|pM (e 4) rfl rfl ?_; refine pP rfl R_add H fun _ H=> aE rfl<|H_call HB_190 H fun t148 h H=> ⟨(hskip rfl (hskip rfl (hskip rfl (hskip rfl hnil)))), pM t148 rfl rfl<|pP rfl R_ext H fun _ H=> pP rfl R_ext H fun t150 H=> pP rfl R_ext H fun t151 H=> aE rfl<|H_storeN TS_45 H fun h H=> ⟨hnil, pS t150 rfl rfl<|pS t151 rfl rfl<|vp_done ?_⟩⟩
         refine WPc_seq (fun e h=> z0n_.j5 (e 10) (e 11) (e 13) h Q) ?_ (fun e h H=> ?_)
         rotate_left
         · unfold z0n_.j5 at H
           refine WPc_seq (fun e h=> z0n_.j6 (e 10) (e 11) h Q) ?_ (fun e h H=> ?_)
           rotate_left
           · unfold z0n_.j6 at H
             exact sR <| nLN TN_45 H fun _ H=> nM (e 11) rfl<|vl_n <| H_storeN TS_45 H fun h H=> nS (e 11) rfl<|nS (.bool false) rfl<|vl_e <| WPc_ret <| resH_of rfl<|resL_N TN_45 <| loadN_imp H fun r10 H=> resL_t <| resL_t <| H
           refine sR <| nM (e 11) rfl<|nP R_not H fun _ H=> vl_e ?_; refine cI H (fun H=> ?_) fun H=> ?_
           · exact W_region (by kernel_rfl) <| nL T1_76 H fun _ H=> nT TF_167_1 T1_3 H fun _ _ _ H=> nP R_add H fun _ H=> nB TF_167_1 H fun _ _ H=> vl_n <| H_store1 TS_3 H fun h H=> vl_e <| H
           · exact WPc_skip <| H
         refine sR <| nM t151 rfl<|vl_e ?_; refine cI H (fun H=> ?_) fun H=> ?_
         · refine WPc_seq (fun e h=> z0n_.j7 (e 0) (e 3) (e 4) (e 7) (e 10) (e 13) (e 14) h Q) ?_ (fun e h H=> ?_)
           rotate_left
           · unfold z0n_.j7 at H
             refine sR <| nM (e 0) rfl<|nL T1_76 H fun _ H=> nT TF_167_3 T1_165 H fun _ _ _ H=> nP R_nil H fun _ H=> nL T1_168 H fun _ H=> nM (e 14) rfl<|nP (R_idx TE_168) H fun _ H=> nL T1_76 H fun _ H=> vl_n <| H_call HB_191 H fun t178 h H=> nM t178 rfl<|nP R_ext H fun t179 H=> ?_; refine nP R_ext H fun _ H=> vl_n <| H_alloc TV_45 H fun _ h H=> nS t179 rfl<|vl_n <| H_storeN TS_45 H fun h H=> vl_e <| WPc_seq' <| W_drawn [0,1,3,7,0,16,48,112,240,496,0,2032,4095,8191] (Tk 0<|Tk 1<|Tk 2<|Tk 3<|Tk 4<|Tk 5<|Tk 6<|Tk 7<|Tk 8<|Tk 9<|Al 10<|Al 11<|Tk 12<|Al 13 .done) mixed (by kernel_rfl) <| pL rfl T1_76 H fun _ _ hat181 H=> pT rfl rfl rfl TF_167_3 T1_165 H fun _ _ _ _ hat184 H=> pL rfl T1_76 H fun _ _ hat185 H=> pB rfl rfl TF_167_3 H fun _ _ H=> ?_; refine pL rfl T1_165 H fun _ _ hat188 H=> pP rfl R_nil H fun _ H=> pL rfl T1_168 H fun _ _ hat190 H=> aE rfl<|H_mkSl TZ_168 (by decide) rfl H rfl fun _ h ⟨S, S_2, S_3, S_4, S_5, H⟩=> ⟨(hcons rfl (still_1 S_5 hat190) (hcons rfl (still_1 S_4 hat188) (hcons rfl (still_1 S_3 hat185) (hcons rfl (still_1 S_2 hat184) (hcons rfl (still_1 S hat181) hnil))))), aE rfl<|H_app TZ_168 TU_168 H fun _ h ⟨S_6, S_7, H⟩=> ⟨(hskip rfl (hskip rfl (hskip rfl (hcons rfl (still_1 S_7 hat184) (hcons rfl (still_1 S_6 hat181) hnil))))), pP rfl R_nil H fun _ H=> aE rfl<|H_store1 TS_168 H fun h H=> ⟨(hskip rfl (hskip rfl hnil)), vp_done <| WPc_seq' <| W_drawn [0,1,3,7,15,31,0,64,255,0,512,1536,3584,7680,15872,0,65024,131071] (Tk 0<|Tk 1<|Tk 2<|Tk 3<|Tk 4<|Tk 5<|Tk 6<|Tk 7<|Tk 8<|Tk 9<|Tk 10<|Tk 11<|Tk 12<|Tk 13<|Tk 14<|Tk 15<|Tk 16<|Al 17 .done) mixed (by kernel_rfl) <| pL rfl T1_76 H fun _ _ _ H=> pT rfl rfl rfl TF_167_3 T1_165 H fun _ _ _ _ _ H=> ?_⟩⟩⟩
             refine pP rfl R_nil H fun _ H=> pL rfl T1_168 H fun _ _ _ H=> pM (e 14) rfl rfl<|pP rfl R_add H fun _ H=> pP rfl (R_slice TE_168 (by decide)) H fun _ H=> pL rfl T1_76 H fun _ _ _ H=> pT rfl rfl rfl TF_167_3 T1_165 H fun _ _ _ _ _ H=> pP rfl R_nil H fun _ H=> pL rfl T1_168 H fun _ _ _ H=> pM (e 14) rfl rfl<|pP rfl (R_slice TE_168 (by decide)) H fun _ H=> aE rfl<|H_cpy TE_168 H fun _ h H=> ⟨(hskip rfl (hskip rfl (hskip rfl (hskip rfl (hskip rfl (hskip rfl hnil)))))), ?_⟩
             refine vp_done <| sR <| nL T1_76 H fun _ H=> nT TF_167_3 T1_165 H fun _ _ _ H=> nP R_nil H fun _ H=> nL T1_168 H fun _ H=> nM (e 14) rfl<|nP R_add H fun _ H=> nM t179 rfl<|nP (R_idx TE_168) H fun _ H=> vl_n <| H_store1 TS_76 H fun h H=> vl_e ?_; refine WPc_seq' <| W_drawn [0,0,2,6,14,0,32,96,224,480,1022,2047,4095,8191] (Tk 0<|Tk 1<|Tk 2<|Tk 3<|Tk 4<|Tk 5<|Tk 6<|Tk 7<|Tk 8<|Al 9<|Al 10<|Tk 11<|Tk 12<|Al 13 .done) mixed (by kernel_rfl) <| pL rfl T1_76 H fun _ _ hat222 H=> pL rfl T1_76 H fun _ _ hat223 H=> pT rfl rfl rfl TF_167_2 T1_25 H fun _ _ _ _ hat226 H=> pM (e 0) rfl rfl<|pB rfl rfl TF_162_7 H fun _ _ H=> tkL rfl<|R_loadN TN_45 H fun _ _ _ _ H _ _=> aE rfl<|H_mkSl TZ_25 (by decide) rfl H rfl fun _ h ⟨S_8, S_9, S_10, H⟩=> ⟨(hskip rfl (hcons rfl (still_1 S_10 hat226) (hcons rfl (still_1 S_9 hat223) (hcons rfl (still_1 S_8 hat222) hnil)))), aE rfl<|H_app TZ_25 TU_25 H fun _ h ⟨S_11, H⟩=> ⟨(hskip rfl (hskip rfl (hcons rfl (still_1 S_11 hat222) hnil))), pP rfl R_nil H fun _ H=> ?_⟩⟩
             refine pP rfl (R_fld TF_167_2) H fun _ H=> aE rfl<|H_store1 TS_25 H fun h H=> ⟨(hskip rfl hnil), vp_done <| WPc_seq' <| W_drawn [0,1,3,7,0,16,63,0,128,384,896,0,3968,8191] (Tk 0<|Tk 1<|Tk 2<|Tk 3<|Tk 4<|Tk 5<|Tk 6<|Tk 7<|Tk 8<|Tk 9<|Tk 10<|Tk 11<|Tk 12<|Al 13 .done) mixed (by kernel_rfl) <| pL rfl T1_76 H fun _ _ _ H=> pT rfl rfl rfl TF_167_2 T1_25 H fun _ _ _ _ _ H=> pM (e 14) rfl rfl<|pP rfl R_add H fun _ H=> pP rfl (R_slice TE_25 (by decide)) H fun _ H=> pL rfl T1_76 H fun _ _ _ H=> pP rfl R_nil H fun _ H=> ?_⟩
             refine pP rfl (R_fld TF_167_2) H fun _ H=> pL rfl T1_25 H fun _ _ _ H=> pM (e 14) rfl rfl<|pP rfl (R_slice TE_25 (by decide)) H fun _ H=> aE rfl<|H_cpy TE_25 H fun _ h H=> ⟨(hskip rfl (hskip rfl (hskip rfl (hskip rfl hnil)))), vp_done <| WPc_seq' <| W_drawn [0,1,3,7,0,0,63,127] (Tk 0<|Tk 1<|Tk 2<|Tk 3<|Tk 4<|Tk 5<|Tk 6<|Al 7 .done) mixed (by kernel_rfl) <| pL rfl T1_76 H fun _ _ _ H=> pT rfl rfl rfl TF_167_2 T1_25 H fun _ _ _ _ _ H=> pM (e 14) rfl rfl<|tkL rfl<|R_loadN TN_45 H fun _ _ _ _ H _ _=> ?_⟩
             refine pP rfl (R_idx TE_25) H fun _ H=> aE rfl<|H_storeN TS_45 H fun h H=> ⟨(hskip rfl (hskip rfl (hskip rfl hnil))), vp_done <| sR <| nM (e 0) rfl<|nLN TN_45 H fun _ H=> nM (e 3) rfl<|nM (e 4) rfl<|vl_n <| H_call HB_190 H fun _ h H=> nP R_ext H fun _ H=> nP R_ext H fun t262 H=> nP R_ext H fun t263 H=> vl_n <| H_storeN TS_45 H fun h H=> nS t262 rfl ?_⟩
             exact nS t263 rfl<|vl_e <| WPc_ret <| resH_of rfl<|resL_N TN_45 <| loadN_imp H fun r10 H=> resL_t <| resL_t <| H
           refine WPc_seq' <| W_drawn [0,1,3,7,15,0,32,96,224,511] (Tk 0<|Tk 1<|Tk 2<|Tk 3<|Tk 4<|Tk 5<|Tk 6<|Tk 7<|Tk 8<|Tk 9 .done) mixed (by kernel_rfl) <| pL rfl T1_76 H fun _ _ _ H=> pT rfl rfl rfl TF_167_2 T1_25 H fun _ _ _ _ _ H=> pP rfl (R_len Tryz.underlying25) H fun _ H=> pM (e 0) rfl rfl<|pT rfl rfl rfl TF_162_8 T1_3 H fun _ _ _ _ _ H=> pP rfl R_eqI H fun _ H=> vp_done ?_; refine cI H (fun H=> ?_) fun H=> ?_
           · refine sR <| nM (e 0) rfl<|nB TF_162_7 H fun _ _ H=> nLN TN_45 H fun _ H=> vl_n <| H_storeN TS_45 H fun h H=> nS (.bool false) rfl<|nS (.bool true) rfl<|vl_e <| WPc_ret <| resH_of rfl<|resL_N TN_45 <| loadN_imp H fun r10 H=> resL_t ?_
             exact resL_t <| H
           · exact WPc_skip <| H
         · exact WPc_skip <| H
       refine sR <| nL T1_76 H fun _ H=> vl_n <| H_call HB_104 H fun _ h H=> vl_e ?_; refine cI H (fun H=> ?_) fun H=> ?_
       · refine WPc_seq (fun e h=> z0n_.j8 (e 0) (e 7) (e 10) (e 13) (e 14) h Q) ?_ (fun e h H=> ?_)
         rotate_left
         · unfold z0n_.j8 at H
           refine WPc_seq' <| W_drawn [0,0,2,6,14,0,32,96,224,480,1022,2047,4095,8191] (Tk 0<|Tk 1<|Tk 2<|Tk 3<|Tk 4<|Tk 5<|Tk 6<|Tk 7<|Tk 8<|Al 9<|Al 10<|Tk 11<|Tk 12<|Al 13 .done) mixed (by kernel_rfl) <| pL rfl T1_76 H fun _ _ hat89 H=> pL rfl T1_76 H fun _ _ hat90 H=> pT rfl rfl rfl TF_167_2 T1_25 H fun _ _ _ _ hat93 H=> pM (e 0) rfl rfl<|pB rfl rfl TF_162_7 H fun _ _ H=> tkL rfl<|R_loadN TN_45 H fun _ _ _ _ H _ _=> aE rfl<|H_mkSl TZ_25 (by decide) rfl H rfl fun _ h ⟨S, S_2, S_3, H⟩=> ⟨(hskip rfl (hcons rfl (still_1 S_3 hat93) (hcons rfl (still_1 S_2 hat90) (hcons rfl (still_1 S hat89) hnil)))), aE rfl<|H_app TZ_25 TU_25 H fun _ h ⟨S_4, H⟩=> ⟨(hskip rfl (hskip rfl (hcons rfl (still_1 S_4 hat89) hnil))), pP rfl R_nil H fun _ H=> ?_⟩⟩
           refine pP rfl (R_fld TF_167_2) H fun _ H=> aE rfl<|H_store1 TS_25 H fun h H=> ⟨(hskip rfl hnil), vp_done <| WPc_seq' <| W_drawn [0,1,3,7,0,16,63,0,128,384,896,0,3968,8191] (Tk 0<|Tk 1<|Tk 2<|Tk 3<|Tk 4<|Tk 5<|Tk 6<|Tk 7<|Tk 8<|Tk 9<|Tk 10<|Tk 11<|Tk 12<|Al 13 .done) mixed (by kernel_rfl) <| pL rfl T1_76 H fun _ _ _ H=> pT rfl rfl rfl TF_167_2 T1_25 H fun _ _ _ _ _ H=> pM (e 14) rfl rfl<|pP rfl R_add H fun _ H=> pP rfl (R_slice TE_25 (by decide)) H fun _ H=> pL rfl T1_76 H fun _ _ _ H=> pP rfl R_nil H fun _ H=> ?_⟩
           refine pP rfl (R_fld TF_167_2) H fun _ H=> pL rfl T1_25 H fun _ _ _ H=> pM (e 14) rfl rfl<|pP rfl (R_slice TE_25 (by decide)) H fun _ H=> aE rfl<|H_cpy TE_25 H fun _ h H=> ⟨(hskip rfl (hskip rfl (hskip rfl (hskip rfl hnil)))), vp_done <| WPc_seq' <| W_drawn [0,1,3,7,0,0,63,127] (Tk 0<|Tk 1<|Tk 2<|Tk 3<|Tk 4<|Tk 5<|Tk 6<|Al 7 .done) mixed (by kernel_rfl) <| pL rfl T1_76 H fun _ _ _ H=> pT rfl rfl rfl TF_167_2 T1_25 H fun _ _ _ _ _ H=> pM (e 14) rfl rfl<|tkL rfl<|R_loadN TN_45 H fun _ _ _ _ H _ _=> ?_⟩
           refine pP rfl (R_idx TE_25) H fun _ H=> aE rfl<|H_storeN TS_45 H fun h H=> ⟨(hskip rfl (hskip rfl (hskip rfl hnil))), vp_done <| sR <| nL T1_76 H fun _ H=> nT TF_167_1 T1_3 H fun _ _ _ H=> nP R_add H fun _ H=> nB TF_167_1 H fun _ _ H=> vl_n <| H_store1 TS_3 H fun h H=> vl_e <| sR ?_⟩
           exact nM (e 0) rfl<|nB TF_162_7 H fun _ _ H=> nLN TN_45 H fun _ H=> vl_n <| H_storeN TS_45 H fun h H=> nS (.bool false) rfl<|nS (.bool false) rfl<|vl_e <| WPc_ret <| resH_of rfl<|resL_N TN_45 <| loadN_imp H fun r10 H=> resL_t <| resL_t <| H
         refine WPc_seq' <| W_drawn [0,1,3,7,15,0,32,96,224,511] (Tk 0<|Tk 1<|Tk 2<|Tk 3<|Tk 4<|Tk 5<|Tk 6<|Tk 7<|Tk 8<|Tk 9 .done) mixed (by kernel_rfl) <| pL rfl T1_76 H fun _ _ _ H=> pT rfl rfl rfl TF_167_2 T1_25 H fun _ _ _ _ _ H=> pP rfl (R_len Tryz.underlying25) H fun _ H=> pM (e 0) rfl rfl<|pT rfl rfl rfl TF_162_8 T1_3 H fun _ _ _ _ _ H=> pP rfl R_eqI H fun _ H=> vp_done ?_; refine cI H (fun H=> ?_) fun H=> ?_
         · refine sR <| nM (e 0) rfl<|nB TF_162_7 H fun _ _ H=> nLN TN_45 H fun _ H=> vl_n <| H_storeN TS_45 H fun h H=> nS (.bool false) rfl<|nS (.bool true) rfl<|vl_e <| WPc_ret <| resH_of rfl<|resL_N TN_45 <| loadN_imp H fun r10 H=> resL_t ?_
           exact resL_t <| H
         · exact WPc_skip <| H
       · exact WPc_skip <| H
     refine sR <| nM (e 15) rfl<|vl_e ?_; refine cI H (fun H=> ?_) fun H=> ?_
     · refine sR <| nL T1_76 H fun _ H=> nT TF_167_2 T1_25 H fun _ _ _ H=> nM (e 14) rfl<|nP (R_idx TE_25) H fun _ H=> nLN TN_45 H fun _ H=> vl_n <| H_storeN TS_45 H fun h H=> vl_e <| WPc_seq' <| W_drawn [0,1,3,7,0,0,63,127] (Tk 0<|Tk 1<|Tk 2<|Tk 3<|Tk 4<|Tk 5<|Tk 6<|Al 7 .done) mixed (by kernel_rfl) <| pL rfl T1_76 H fun _ _ _ H=> pP rfl R_nil H fun _ H=> ?_
       refine pP rfl (R_fld TF_167_2) H fun _ H=> pL rfl T1_25 H fun _ _ _ H=> pM (e 14) rfl rfl<|tkL rfl<|R_loadN TN_45 H fun _ _ _ _ H _ _=> pP rfl (R_idx TE_25) H fun _ H=> aE rfl<|H_storeN TS_45 H fun h H=> ⟨(hskip rfl (hskip rfl (hskip rfl hnil))), vp_done <| sR <| nLN TN_45 H fun _ H=> vl_n <| H_storeN TS_45 H fun h H=> nS (.bool true) rfl<|nS (.bool false) rfl<|vl_e <| WPc_ret ?_⟩
       exact resH_of rfl<|resL_N TN_45 <| loadN_imp H fun r10 H=> resL_t <| resL_t <| H
     · exact WPc_skip <| H
   refine sR <| nM (e 3) rfl<|nP (R_eqNilP Tryz.underlying154 rfl) H fun _ H=> vl_e ?_; refine cI H (fun H=> ?_) fun H=> ?_
   · exact W_region (by kernel_rfl) <| nM (e 0) rfl<|nL T1_76 H fun _ H=> nLN TN_45 H fun _ H=> vl_n <| H_call HB_193 H fun t45 h H=> nM t45 rfl<|nP R_ext H fun t46 H=> nP R_ext H fun t47 H=> nS t46 rfl<|nS t47 rfl<|vl_e <| H
   · exact W_region (by kernel_rfl) <| nM (e 0) rfl<|nL T1_76 H fun _ H=> nLN TN_45 H fun _ H=> nM (e 3) rfl<|nM (e 4) rfl<|vl_n <| H_call HB_194 H fun t54 h H=> nM t54 rfl<|nP R_ext H fun t55 H=> nP R_ext H fun t56 H=> nS t55 rfl<|nS t56 rfl<|vl_e <| H
 refine WPc_seq' <| W_drawn [0,1,3,7,15,31,0,64,192,448,1023] (Tk 0<|Tk 1<|Tk 2<|Tk 3<|Tk 4<|Tk 5<|Tk 6<|Tk 7<|Tk 8<|Tk 9<|Tk 10 .done) mixed (by kernel_rfl) <| pM a1 rfl rfl<|pP rfl R_nil H fun _ H=> pL rfl T1_76 H fun _ _ _ H=> pT rfl rfl rfl TF_167_0 T1_159 H fun _ _ _ _ _ H=> pM a0 rfl rfl<|pT rfl rfl rfl TF_162_0 T1_159 H fun _ _ _ _ _ H=> pP rfl R_neI H fun _ H=> vp_done ?_; refine cI H (fun H=> ?_) fun H=> ?_
 · exact W_region (by kernel_rfl) <| nM a1 rfl<|nM a0 rfl<|nM a1 rfl<|nP R_nil H fun _ H=> nL T1_76 H fun _ H=> vl_n <| H_call HB_136 H fun _ h H=> nP R_nil H fun _ H=> vl_n <| H_store1 TS_76 H fun h H=> vl_e <| H
 · exact WPc_skip <| H
def z0p_.j3 (s0 s6 : Value) (h : Heap) (Q : Value → Heap → Prop) : Prop := nilck s0 fun b=>fld 3 b fun d=>load1 d h fun g=>arith (· + ·) g (.int .i64 1) fun i=>nilck s0 fun j=>fld 3 j fun k=>store1 k i h fun h=>nilck s0 fun l=>fld 7 l fun m=>loadN 2 m h fun n=>storeN 2 s6 n h fun h=>loadN 2 s6 h fun o=>Q (.tuple #[o, (.bool false)]) h
def z0p_.j2 (s0 s6 s7 : Value) (h : Heap) (Q : Value → Heap → Prop) : Prop := ifV s7 (loadN 2 s6 h fun b=>storeN 2 s6 b h fun h=>loadN 2 s6 h fun d=>Q (.tuple #[d, (.bool true)]) h) (z0p_.j3 s0 s6 h Q)
def z0p_.j1 (s0 s2 s4 s6 : Value) (h : Heap) (Q : Value → Heap → Prop) : Prop := nilck s0 fun b=>fld 2 b fun d=>loadN 2 s4 h fun g=>z0n_.call #[s0, d, g, s2, (.int .i64 0)] h fun i h=>extr 0 i fun j=>extr 1 i fun k=>extr 2 i fun l=>storeN 2 s6 j h fun h=>ifV l (nilck s0 fun m=>fld 2 m fun n=>z0l_.call #[s0, n, (.bool true)] h fun o h=>z07_.call #[s0, o] h fun p h=>extr 0 p fun q=>extr 1 p fun u=>alloc [(.int .i64 0), (.int .i64 0)] 45 h fun v h=>storeN 2 v u h fun h=>z0m_.call #[s0, (.bool false)] h fun w h=>nilck s0 fun x=>fld 2 x fun y=>store1 y w h fun h=>nilck s0 fun z=>fld 2 z fun b0=>load1 b0 h fun b1=>nilck b1 fun b2=>fld 3 b2 fun b3=>load1 b3 h fun b4=>nilck s0 fun b5=>fld 9 b5 fun b6=>load1 b6 h fun b7=>arith (· + ·) b7 (.int .i64 1) fun b8=>mks 76 1 8 [(.pointer none)] (.int .i64 0) b8 h fun b9 h=>still1 b0 b1 h ∧ still1 b3 b4 h ∧ nilck b4 fun d0=>store1 d0 b9 h fun h=>nilck s0 fun d1=>fld 2 d1 fun d2=>load1 d2 h fun d3=>nilck d3 fun d4=>fld 3 d4 fun d5=>load1 d5 h fun d6=>(mkSl (if 0 * 1 = 0 then [] else zeros [(.pointer none)] 0) 0 [] 76 h fun d7 h=>still1 d2 d3 h ∧ still1 d5 d6 h ∧ mkSl (if 2 * 1 = 0 then [] else zeros [(.pointer none)] 2) 2 [(0 * 1, 1, o), (1 * 1, 1, q)] 76 h fun d8 h=>still1 d2 d3 h ∧ still1 d5 d6 h ∧ app 76 1 8 [(.pointer none)] d7 d8 h fun d9 h=>still1 d2 d3 h ∧ still1 d5 d6 h ∧ nilck d6 fun g0=>store1 g0 d9 h fun h=>nilck s0 fun g1=>fld 2 g1 fun g2=>load1 g2 h fun g3=>loadN 2 v h fun g4=>(mkSl (if 0 * 2 = 0 then [] else zeros [(.int .i64 0), (.int .i64 0)] 0) 0 [] 45 h fun g5 h=>still1 g2 g3 h ∧ stillN 2 v g4 h ∧ mkSl (if 1 * 2 = 0 then [] else zeros [(.int .i64 0), (.int .i64 0)] 1) 1 [(0 * 2, 2, g4)] 45 h fun g6 h=>still1 g2 g3 h ∧ app 45 2 16 [(.int .i64 0), (.int .i64 0)] g5 g6 h fun g7 h=>still1 g2 g3 h ∧ nilck g3 fun g8=>fld 2 g8 fun g9=>store1 g9 g7 h fun h=>nilck s0 fun i0=>fld 2 i0 fun i1=>load1 i1 h fun i2=>z09_.call #[i2] h fun i3 h=>loadN 2 s4 h fun i4=>z0p_.call #[s0, i4, s2] h fun i5 h=>extr 0 i5 fun i6=>extr 1 i5 fun i7=>storeN 2 s6 i6 h fun h=>loadN 2 s6 h fun i8=>Q (.tuple #[i8, i7]) h) ∧ (mkSl (if 1 * 2 = 0 then [] else zeros [(.int .i64 0), (.int .i64 0)] 1) 1 [(0 * 2, 2, g4)] 45 h fun i9 h=>still1 g2 g3 h ∧ mkSl (if 0 * 2 = 0 then [] else zeros [(.int .i64 0), (.int .i64 0)] 0) 0 [] 45 h fun j0 h=>still1 g2 g3 h ∧ app 45 2 16 [(.int .i64 0), (.int .i64 0)] j0 i9 h fun j1 h=>still1 g2 g3 h ∧ nilck g3 fun j2=>fld 2 j2 fun j3=>store1 j3 j1 h fun h=>nilck s0 fun j4=>fld 2 j4 fun j5=>load1 j5 h fun j6=>z09_.call #[j6] h fun j7 h=>loadN 2 s4 h fun j8=>z0p_.call #[s0, j8, s2] h fun j9 h=>extr 0 j9 fun k0=>extr 1 j9 fun k1=>storeN 2 s6 k0 h fun h=>loadN 2 s6 h fun k2=>Q (.tuple #[k2, k1]) h)) ∧ (mkSl (if 2 * 1 = 0 then [] else zeros [(.pointer none)] 2) 2 [(0 * 1, 1, o), (1 * 1, 1, q)] 76 h fun k3 h=>still1 d2 d3 h ∧ still1 d5 d6 h ∧ mkSl (if 0 * 1 = 0 then [] else zeros [(.pointer none)] 0) 0 [] 76 h fun k4 h=>still1 d2 d3 h ∧ still1 d5 d6 h ∧ app 76 1 8 [(.pointer none)] k4 k3 h fun k5 h=>still1 d2 d3 h ∧ still1 d5 d6 h ∧ nilck d6 fun k6=>store1 k6 k5 h fun h=>nilck s0 fun k7=>fld 2 k7 fun k8=>load1 k8 h fun k9=>loadN 2 v h fun l0=>(mkSl (if 0 * 2 = 0 then [] else zeros [(.int .i64 0), (.int .i64 0)] 0) 0 [] 45 h fun l1 h=>still1 k8 k9 h ∧ stillN 2 v l0 h ∧ mkSl (if 1 * 2 = 0 then [] else zeros [(.int .i64 0), (.int .i64 0)] 1) 1 [(0 * 2, 2, l0)] 45 h fun l2 h=>still1 k8 k9 h ∧ app 45 2 16 [(.int .i64 0), (.int .i64 0)] l1 l2 h fun l3 h=>still1 k8 k9 h ∧ nilck k9 fun l4=>fld 2 l4 fun l5=>store1 l5 l3 h fun h=>nilck s0 fun l6=>fld 2 l6 fun l7=>load1 l7 h fun l8=>z09_.call #[l8] h fun l9 h=>loadN 2 s4 h fun m0=>z0p_.call #[s0, m0, s2] h fun m1 h=>extr 0 m1 fun m2=>extr 1 m1 fun m3=>storeN 2 s6 m2 h fun h=>loadN 2 s6 h fun m4=>Q (.tuple #[m4, m3]) h) ∧ (mkSl (if 1 * 2 = 0 then [] else zeros [(.int .i64 0), (.int .i64 0)] 1) 1 [(0 * 2, 2, l0)] 45 h fun m5 h=>still1 k8 k9 h ∧ mkSl (if 0 * 2 = 0 then [] else zeros [(.int .i64 0), (.int .i64 0)] 0) 0 [] 45 h fun m6 h=>still1 k8 k9 h ∧ app 45 2 16 [(.int .i64 0), (.int .i64 0)] m6 m5 h fun m7 h=>still1 k8 k9 h ∧ nilck k9 fun m8=>fld 2 m8 fun m9=>store1 m9 m7 h fun h=>nilck s0 fun n0=>fld 2 n0 fun n1=>load1 n1 h fun n2=>z09_.call #[n2] h fun n3 h=>loadN 2 s4 h fun n4=>z0p_.call #[s0, n4, s2] h fun n5 h=>extr 0 n5 fun n6=>extr 1 n5 fun n7=>storeN 2 s6 n6 h fun h=>loadN 2 s6 h fun n8=>Q (.tuple #[n8, n7]) h))) (z0p_.j2 s0 s6 k h Q)
def z0p_.sh (a0 a1 a2 : Value) (h : Heap) (Q : Value → Heap → Prop) : Prop := box 45 a1 h fun b h=>alloc [(.int .i64 0), (.int .i64 0)] 45 h fun d h=>nilck a0 fun g=>fld 2 g fun i=>load1 i h fun j=>eqNilP j fun k=>ifV k (z1c_.call #[a0, (.int .i64 0)] h fun l h=>z0m_.call #[a0, (.bool true)] h fun m h=>nilck a0 fun n=>fld 2 n fun o=>store1 o m h fun h=>nilck a0 fun p=>fld 2 p fun q=>load1 q h fun u=>loadN 2 b h fun v=>(mkSl (if 0 * 2 = 0 then [] else zeros [(.int .i64 0), (.int .i64 0)] 0) 0 [] 45 h fun w h=>still1 q u h ∧ stillN 2 b v h ∧ mkSl (if 1 * 2 = 0 then [] else zeros [(.int .i64 0), (.int .i64 0)] 1) 1 [(0 * 2, 2, v)] 45 h fun x h=>still1 q u h ∧ app 45 2 16 [(.int .i64 0), (.int .i64 0)] w x h fun y h=>still1 q u h ∧ nilck u fun z=>fld 2 z fun b0=>store1 b0 y h fun h=>nilck a0 fun b1=>fld 2 b1 fun b2=>load1 b2 h fun b3=>nilck b3 fun b4=>fld 1 b4 fun b5=>store1 b5 (.int .i64 1) h fun h=>nilck a0 fun b6=>fld 3 b6 fun b7=>store1 b7 (.int .i64 1) h fun h=>nilck a0 fun b8=>fld 7 b8 fun b9=>loadN 2 b9 h fun d0=>storeN 2 d d0 h fun h=>loadN 2 d h fun d1=>Q (.tuple #[d1, (.bool false)]) h) ∧ (mkSl (if 1 * 2 = 0 then [] else zeros [(.int .i64 0), (.int .i64 0)] 1) 1 [(0 * 2, 2, v)] 45 h fun d2 h=>still1 q u h ∧ mkSl (if 0 * 2 = 0 then [] else zeros [(.int .i64 0), (.int .i64 0)] 0) 0 [] 45 h fun d3 h=>still1 q u h ∧ app 45 2 16 [(.int .i64 0), (.int .i64 0)] d3 d2 h fun d4 h=>still1 q u h ∧ nilck u fun d5=>fld 2 d5 fun d6=>store1 d6 d4 h fun h=>nilck a0 fun d7=>fld 2 d7 fun d8=>load1 d8 h fun d9=>nilck d9 fun g0=>fld 1 g0 fun g1=>store1 g1 (.int .i64 1) h fun h=>nilck a0 fun g2=>fld 3 g2 fun g3=>store1 g3 (.int .i64 1) h fun h=>nilck a0 fun g4=>fld 7 g4 fun g5=>loadN 2 g5 h fun g6=>storeN 2 d g6 h fun h=>loadN 2 d h fun g7=>Q (.tuple #[g7, (.bool false)]) h)) (z0p_.j1 a0 a2 b d h Q)
theorem z0p_.body (a0 a1 a2 : Value) (h : Heap) (Q : Value → Heap → Prop) (H : z0p_.sh a0 a1 a2 h Q) : z0p_.call #[a0, a1, a2] h Q := by
 refine callsH_of (args := [a0, a1, a2]) Tryz.func167 rfl rfl ?_; unfold z0p_.sh at H; refine sR <| vl_n <| H_box H fun _ h H=> vl_n <| H_alloc TV_45 H fun _ h H=> nS (.bool false) rfl<|vl_e ?_; refine WPc_seq (fun e h=> z0p_.j1 (e 0) (e 2) (e 4) (e 6) h Q) ?_ (fun e h H=> ?_)
 rotate_left
 · unfold z0p_.j1 at H
   refine WPc_seq' <| W_drawn [0,0,2,6,0,0,63,127,255,255,255,511,3071,8191] (Tk 0<|Tk 1<|Tk 2<|Tk 3<|Tk 4<|Tk 5<|Al 6<|Tk 7<|Tk 8<|Tk 9<|Tk 10<|Al 11<|Tk 12<|Tk 13 .done) mixed (by kernel_rfl) <| pM (e 0) rfl rfl<|pM (e 0) rfl rfl<|pB rfl rfl TF_162_2 H fun _ _ H=> tkL rfl<|R_loadN TN_45 H fun _ _ _ _ H _ _=> pM (e 2) rfl rfl<|aE rfl<|H_call HB_190 H fun t54 h H=> ⟨(hskip rfl hnil), pM t54 rfl rfl<|pP rfl R_ext H fun _ H=> pP rfl R_ext H fun t56 H=> pP rfl R_ext H fun t57 H=> aE rfl<|H_storeN TS_45 H fun h H=> ⟨hnil, ?_⟩⟩
   refine pS t56 rfl rfl<|pS t57 rfl rfl<|vp_done ?_; refine WPc_seq (fun e h=> z0p_.j2 (e 0) (e 6) (e 7) h Q) ?_ (fun e h H=> ?_)
   rotate_left
   · unfold z0p_.j2 at H
     refine WPc_seq (fun e h=> z0p_.j3 (e 0) (e 6) h Q) ?_ (fun e h H=> ?_)
     rotate_left
     · unfold z0p_.j3 at H
       refine sR <| nM (e 0) rfl<|nT TF_162_3 T1_3 H fun _ _ _ H=> nP R_add H fun _ H=> nB TF_162_3 H fun _ _ H=> vl_n <| H_store1 TS_3 H fun h H=> vl_e <| sR <| nM (e 0) rfl<|nB TF_162_7 H fun _ _ H=> ?_; exact nLN TN_45 H fun _ H=> vl_n <| H_storeN TS_45 H fun h H=> nS (.bool false) rfl<|vl_e <| WPc_ret <| resH_of rfl<|resL_N TN_45 <| loadN_imp H fun r6 H=> resL_t <| H
     refine sR <| nM (e 7) rfl<|vl_e ?_; refine cI H (fun H=> ?_) fun H=> ?_
     · exact sR <| nLN TN_45 H fun _ H=> vl_n <| H_storeN TS_45 H fun h H=> nS (.bool true) rfl<|vl_e <| WPc_ret <| resH_of rfl<|resL_N TN_45 <| loadN_imp H fun r6 H=> resL_t <| H
     · exact WPc_skip <| H
   refine sR <| nM t57 rfl<|vl_e ?_; refine cI H (fun H=> ?_) fun H=> ?_
   · refine sR <| nM (e 0) rfl<|nM (e 0) rfl<|nB TF_162_2 H fun _ _ H=> vl_n <| H_call HB_103 H fun t63 h H=> nS t63 rfl<|vl_e <| sR <| nM (e 0) rfl<|nM t63 rfl<|vl_n <| H_call HB_191 H fun t67 h H=> nM t67 rfl<|nP R_ext H fun t68 H=> ?_
     refine nP R_ext H fun _ H=> vl_n <| H_alloc TV_45 H fun _ h H=> nS t68 rfl<|vl_n <| H_storeN TS_45 H fun h H=> vl_e <| sR <| nM (e 0) rfl<|nM (e 0) rfl<|vl_n <| H_call HB_189 H fun _ h H=> nB TF_162_2 H fun _ _ H=> vl_n <| H_store1 TS_76 H fun h H=> vl_e <| WPc_seq' ?_; refine W_drawn [0,1,3,7,15,31,63,0,128,384,896,1920,3968,8191,16383] (Tk 0<|Tk 1<|Tk 2<|Tk 3<|Tk 4<|Tk 5<|Tk 6<|Tk 7<|Tk 8<|Tk 9<|Tk 10<|Tk 11<|Al 12<|Tk 13<|Al 14 .done) mixed (by kernel_rfl) <| pM (e 0) rfl rfl<|pT rfl rfl rfl TF_162_2 T1_76 H fun _ _ _ _ hat78 H=> pT rfl rfl rfl TF_167_3 T1_165 H fun _ _ _ _ hat81 H=> pM (e 0) rfl rfl<|pT rfl rfl rfl TF_162_8 T1_3 H fun _ _ _ _ _ H=> pP rfl R_add H fun _ H=> aE rfl<|H_mks TZ_168 rfl H fun _ h ⟨S, S_2, H⟩=> ⟨(hskip rfl (hcons rfl (still_1 S_2 hat81) (hcons rfl (still_1 S hat78) hnil))), ?_⟩
     refine pP rfl R_nil H fun _ H=> aE rfl<|H_store1 TS_168 H fun h H=> ⟨(hskip rfl (hskip rfl hnil)), vp_done <| WPc_seq' <| W_drawn [0, 1, 3, 7, 15, 31, 63, 0, 0, 0, 768, 1920, 4095, 8191] (.take 0 (.take 1 (.take 2 (.take 3 (.take 4 (.take 5 (.take 6 (.take 8 (.take 9 (.alt 7 (.alt 10 (.alt 11 (.take 12 (.alt 13 .done .none)) .none) .none) (.alt 10 (.alt 7 (.alt 11 (.take 12 (.alt 13 .done .none)) .none) .none) .none))))))))))) mixed (by kernel_rfl) <| pM (e 0) rfl rfl<|pT rfl rfl rfl TF_162_2 T1_76 H fun _ _ _ _ hat92 H=> pT rfl rfl rfl TF_167_3 T1_165 H fun _ _ _ _ hat95 H=> pM t63 rfl rfl<|pM t68 rfl rfl ?_⟩
     obtain ⟨HA0, HA1⟩ := H; refine alt_n rfl ?_ ?_
     · have H := HA0
       clear HA0 HA1; refine H_mkSl TZ_168 (by decide) rfl H rfl fun _ h ⟨S_3, S_4, H⟩=> ⟨(hcons rfl (still_1 S_4 hat95) (hcons rfl (still_1 S_3 hat92) hnil)), ?_⟩
       refine aE rfl<|H_mkSl TZ_168 (by decide) rfl H rfl fun _ h ⟨S_5, S_6, H⟩=> ⟨(hcons rfl (still_1 S_6 hat95) (hcons rfl (still_1 S_5 hat92) hnil)), aE rfl<|H_app TZ_168 TU_168 H fun _ h ⟨S_7, S_8, H⟩=> ⟨(hcons rfl (still_1 S_8 hat95) (hcons rfl (still_1 S_7 hat92) hnil)), pP rfl R_nil H fun _ H=> aE rfl<|H_store1 TS_168 H fun h H=> ⟨(hskip rfl (hskip rfl hnil)), vp_done <| WPc_seq' <| W_drawn [0, 1, 3, 7, 0, 0, 32, 112, 255, 511, 1023] (.take 0 (.take 1 (.take 2 (.take 3 (.take 5 (.alt 4 (.alt 6 (.alt 7 (.take 8 (.take 9 (.alt 10 .done .none))) .none) .none) (.alt 6 (.alt 4 (.alt 7 (.take 8 (.take 9 (.alt 10 .done .none))) .none) .none) .none))))))) mixed (by kernel_rfl) <| pM (e 0) rfl rfl<|pT rfl rfl rfl TF_162_2 T1_76 H fun _ _ _ _ hat105 H=> tkL rfl<|R_loadN TN_45 H fun _ _ hat107 _ H _ hSt107=> ?_⟩⟩⟩
       obtain ⟨HA0, HA1⟩ := H; refine alt_n rfl ?_ ?_
       · have H := HA0
         clear HA0 HA1; refine H_mkSl TZ_25 (by decide) rfl H rfl fun _ h ⟨S_9, S_10, H⟩=> ⟨(hcons rfl (hSt107 _ (still_N S_10 hat107 rfl)) (hcons rfl (still_1 S_9 hat105) hnil)), ?_⟩
         refine aE rfl<|H_mkSl TZ_25 (by decide) rfl H rfl fun _ h ⟨S_11, H⟩=> ⟨(hskip rfl (hcons rfl (still_1 S_11 hat105) hnil)), aE rfl<|H_app TZ_25 TU_25 H fun _ h ⟨S_12, H⟩=> ⟨(hcons rfl (still_1 S_12 hat105) hnil), pB rfl rfl TF_167_2 H fun _ _ H=> aE rfl<|H_store1 TS_25 H fun h H=> ⟨(hskip rfl hnil), vp_done <| sR <| nM (e 0) rfl<|nT TF_162_2 T1_76 H fun _ _ _ H=> vl_n <| H_call HB_192 H fun _ h H=> vl_e <| sR ?_⟩⟩⟩
         exact nM (e 0) rfl<|nLN TN_45 H fun _ H=> nM (e 2) rfl<|vl_n <| H_call HB_167 H fun _ h H=> nP R_ext H fun _ H=> nP R_ext H fun t122 H=> vl_n <| H_storeN TS_45 H fun h H=> nS t122 rfl<|vl_e <| WPc_ret <| resH_of rfl<|resL_N TN_45 <| loadN_imp H fun r6 H=> resL_t <| H
       refine alt_n rfl ?_ vp_none
       have H := HA1
       clear HA0 HA1; refine H_mkSl TZ_25 (by decide) rfl H rfl fun _ h ⟨S_13, H⟩=> ⟨(hskip rfl (hcons rfl (still_1 S_13 hat105) hnil)), ?_⟩
       refine aE rfl<|H_mkSl TZ_25 (by decide) rfl H rfl fun _ h ⟨S_14, H⟩=> ⟨(hcons rfl (still_1 S_14 hat105) hnil), aE rfl<|H_app TZ_25 TU_25 H fun _ h ⟨S_15, H⟩=> ⟨(hcons rfl (still_1 S_15 hat105) hnil), pB rfl rfl TF_167_2 H fun _ _ H=> aE rfl<|H_store1 TS_25 H fun h H=> ⟨(hskip rfl hnil), vp_done <| sR <| nM (e 0) rfl<|nT TF_162_2 T1_76 H fun _ _ _ H=> vl_n <| H_call HB_192 H fun _ h H=> vl_e <| sR ?_⟩⟩⟩
       exact nM (e 0) rfl<|nLN TN_45 H fun _ H=> nM (e 2) rfl<|vl_n <| H_call HB_167 H fun _ h H=> nP R_ext H fun _ H=> nP R_ext H fun t122_2 H=> vl_n <| H_storeN TS_45 H fun h H=> nS t122_2 rfl<|vl_e <| WPc_ret <| resH_of rfl<|resL_N TN_45 <| loadN_imp H fun r6_2 H=> resL_t <| H
     refine alt_n rfl ?_ vp_none
     have H := HA1
     clear HA0 HA1; refine H_mkSl TZ_168 (by decide) rfl H rfl fun _ h ⟨S_16, S_17, H⟩=> ⟨(hcons rfl (still_1 S_17 hat95) (hcons rfl (still_1 S_16 hat92) hnil)), ?_⟩
     refine aE rfl<|H_mkSl TZ_168 (by decide) rfl H rfl fun _ h ⟨S_18, S_19, H⟩=> ⟨(hcons rfl (still_1 S_19 hat95) (hcons rfl (still_1 S_18 hat92) hnil)), aE rfl<|H_app TZ_168 TU_168 H fun _ h ⟨S_20, S_21, H⟩=> ⟨(hcons rfl (still_1 S_21 hat95) (hcons rfl (still_1 S_20 hat92) hnil)), pP rfl R_nil H fun _ H=> aE rfl<|H_store1 TS_168 H fun h H=> ⟨(hskip rfl (hskip rfl hnil)), vp_done <| WPc_seq' <| W_drawn [0, 1, 3, 7, 0, 0, 32, 112, 255, 511, 1023] (.take 0 (.take 1 (.take 2 (.take 3 (.take 5 (.alt 4 (.alt 6 (.alt 7 (.take 8 (.take 9 (.alt 10 .done .none))) .none) .none) (.alt 6 (.alt 4 (.alt 7 (.take 8 (.take 9 (.alt 10 .done .none))) .none) .none) .none))))))) mixed (by kernel_rfl) <| pM (e 0) rfl rfl<|pT rfl rfl rfl TF_162_2 T1_76 H fun _ _ _ _ hat105_2 H=> tkL rfl<|R_loadN TN_45 H fun _ _ hat107_2 _ H _ hSt107_2=> ?_⟩⟩⟩
     obtain ⟨HA0, HA1⟩ := H; refine alt_n rfl ?_ ?_
     · have H := HA0
       clear HA0 HA1; refine H_mkSl TZ_25 (by decide) rfl H rfl fun _ h ⟨S_22, S_23, H⟩=> ⟨(hcons rfl (hSt107_2 _ (still_N S_23 hat107_2 rfl)) (hcons rfl (still_1 S_22 hat105_2) hnil)), ?_⟩
       refine aE rfl<|H_mkSl TZ_25 (by decide) rfl H rfl fun _ h ⟨S_24, H⟩=> ⟨(hskip rfl (hcons rfl (still_1 S_24 hat105_2) hnil)), aE rfl<|H_app TZ_25 TU_25 H fun _ h ⟨S_25, H⟩=> ⟨(hcons rfl (still_1 S_25 hat105_2) hnil), pB rfl rfl TF_167_2 H fun _ _ H=> aE rfl<|H_store1 TS_25 H fun h H=> ⟨(hskip rfl hnil), vp_done <| sR <| nM (e 0) rfl<|nT TF_162_2 T1_76 H fun _ _ _ H=> vl_n <| H_call HB_192 H fun _ h H=> vl_e <| sR ?_⟩⟩⟩
       exact nM (e 0) rfl<|nLN TN_45 H fun _ H=> nM (e 2) rfl<|vl_n <| H_call HB_167 H fun _ h H=> nP R_ext H fun _ H=> nP R_ext H fun t122_3 H=> vl_n <| H_storeN TS_45 H fun h H=> nS t122_3 rfl<|vl_e <| WPc_ret <| resH_of rfl<|resL_N TN_45 <| loadN_imp H fun r6_3 H=> resL_t <| H
     refine alt_n rfl ?_ vp_none
     have H := HA1
     clear HA0 HA1; refine H_mkSl TZ_25 (by decide) rfl H rfl fun _ h ⟨S_26, H⟩=> ⟨(hskip rfl (hcons rfl (still_1 S_26 hat105_2) hnil)), ?_⟩
     refine aE rfl<|H_mkSl TZ_25 (by decide) rfl H rfl fun _ h ⟨S_27, H⟩=> ⟨(hcons rfl (still_1 S_27 hat105_2) hnil), aE rfl<|H_app TZ_25 TU_25 H fun _ h ⟨S_28, H⟩=> ⟨(hcons rfl (still_1 S_28 hat105_2) hnil), pB rfl rfl TF_167_2 H fun _ _ H=> aE rfl<|H_store1 TS_25 H fun h H=> ⟨(hskip rfl hnil), vp_done <| sR <| nM (e 0) rfl<|nT TF_162_2 T1_76 H fun _ _ _ H=> vl_n <| H_call HB_192 H fun _ h H=> vl_e <| sR ?_⟩⟩⟩
     exact nM (e 0) rfl<|nLN TN_45 H fun _ H=> nM (e 2) rfl<|vl_n <| H_call HB_167 H fun _ h H=> nP R_ext H fun _ H=> nP R_ext H fun t122_4 H=> vl_n <| H_storeN TS_45 H fun h H=> nS t122_4 rfl<|vl_e <| WPc_ret <| resH_of rfl<|resL_N TN_45 <| loadN_imp H fun r6_4 H=> resL_t <| H
   · exact WPc_skip <| H
 refine sR <| nM a0 rfl<|nT TF_162_2 T1_76 H fun _ _ _ H=> nP (R_eqNilP Tryz.underlying76 rfl) H fun _ H=> vl_e ?_; refine cI H (fun H=> ?_) fun H=> ?_
 · refine sR <| nM a0 rfl<|vl_n <| H_call HB_129 H fun _ h H=> vl_e <| sR <| nM a0 rfl<|nM a0 rfl<|vl_n <| H_call HB_189 H fun _ h H=> nB TF_162_2 H fun _ _ H=> vl_n <| H_store1 TS_76 H fun h H=> vl_e <| WPc_seq' <| W_drawn [0, 1, 3, 7, 0, 0, 32, 112, 255, 511, 1023] (.take 0 (.take 1 (.take 2 (.take 3 (.take 5 (.alt 4 (.alt 6 (.alt 7 (.take 8 (.take 9 (.alt 10 .done .none))) .none) .none) (.alt 6 (.alt 4 (.alt 7 (.take 8 (.take 9 (.alt 10 .done .none))) .none) .none) .none))))))) mixed (by kernel_rfl) ?_
   refine pM a0 rfl rfl<|pT rfl rfl rfl TF_162_2 T1_76 H fun _ _ _ _ hat27 H=> tkL rfl<|R_loadN TN_45 H fun _ _ hat29 _ H _ hSt29=> ?_; obtain ⟨HA0, HA1⟩ := H; refine alt_n rfl ?_ ?_
   · have H := HA0
     clear HA0 HA1; refine H_mkSl TZ_25 (by decide) rfl H rfl fun _ h ⟨S, S_2, H⟩=> ⟨(hcons rfl (hSt29 _ (still_N S_2 hat29 rfl)) (hcons rfl (still_1 S hat27) hnil)), ?_⟩
     refine aE rfl<|H_mkSl TZ_25 (by decide) rfl H rfl fun _ h ⟨S_3, H⟩=> ⟨(hskip rfl (hcons rfl (still_1 S_3 hat27) hnil)), aE rfl<|H_app TZ_25 TU_25 H fun _ h ⟨S_4, H⟩=> ⟨(hcons rfl (still_1 S_4 hat27) hnil), pB rfl rfl TF_167_2 H fun _ _ H=> aE rfl<|H_store1 TS_25 H fun h H=> ⟨(hskip rfl hnil), vp_done <| sR <| nM a0 rfl<|nT TF_162_2 T1_76 H fun _ _ _ H=> nB TF_167_1 H fun _ _ H=> vl_n <| H_store1 TS_3 H fun h H=> ?_⟩⟩⟩
     refine vl_e <| sR <| nM a0 rfl<|nB TF_162_3 H fun _ _ H=> vl_n <| H_store1 TS_3 H fun h H=> vl_e <| sR <| nM a0 rfl<|nB TF_162_7 H fun _ _ H=> nLN TN_45 H fun _ H=> vl_n <| H_storeN TS_45 H fun h H=> nS (.bool false) rfl ?_; exact vl_e <| WPc_ret <| resH_of rfl<|resL_N TN_45 <| loadN_imp H fun r6 H=> resL_t <| H
   refine alt_n rfl ?_ vp_none
   have H := HA1
   clear HA0 HA1; refine H_mkSl TZ_25 (by decide) rfl H rfl fun _ h ⟨S_5, H⟩=> ⟨(hskip rfl (hcons rfl (still_1 S_5 hat27) hnil)), ?_⟩
   refine aE rfl<|H_mkSl TZ_25 (by decide) rfl H rfl fun _ h ⟨S_6, H⟩=> ⟨(hcons rfl (still_1 S_6 hat27) hnil), aE rfl<|H_app TZ_25 TU_25 H fun _ h ⟨S_7, H⟩=> ⟨(hcons rfl (still_1 S_7 hat27) hnil), pB rfl rfl TF_167_2 H fun _ _ H=> aE rfl<|H_store1 TS_25 H fun h H=> ⟨(hskip rfl hnil), vp_done <| sR <| nM a0 rfl<|nT TF_162_2 T1_76 H fun _ _ _ H=> nB TF_167_1 H fun _ _ H=> vl_n <| H_store1 TS_3 H fun h H=> ?_⟩⟩⟩
   refine vl_e <| sR <| nM a0 rfl<|nB TF_162_3 H fun _ _ H=> vl_n <| H_store1 TS_3 H fun h H=> vl_e <| sR <| nM a0 rfl<|nB TF_162_7 H fun _ _ H=> nLN TN_45 H fun _ H=> vl_n <| H_storeN TS_45 H fun h H=> nS (.bool false) rfl ?_; exact vl_e <| WPc_ret <| resH_of rfl<|resL_N TN_45 <| loadN_imp H fun r6_2 H=> resL_t <| H
 · exact WPc_skip <| H
def z0i_.sh (a0 a1 a2 : Value) (h : Heap) (Q : Value → Heap → Prop) : Prop := box 45 a1 h fun b h=>alloc [(.int .i64 0), (.int .i64 0)] 45 h fun d h=>loadN 2 b h fun g=>z0p_.call #[a0, g, a2] h fun i h=>extr 0 i fun j=>extr 1 i fun k=>storeN 2 d j h fun h=>loadN 2 d h fun l=>storeN 2 d l h fun h=>loadN 2 d h fun m=>Q (.tuple #[m, k]) h
theorem z0i_.body (a0 a1 a2 : Value) (h : Heap) (Q : Value → Heap → Prop) (H : z0i_.sh a0 a1 a2 h Q) : z0i_.call #[a0, a1, a2] h Q := by
 refine callsH_of (args := [a0, a1, a2]) Tryz.func133 rfl rfl ?_; unfold z0i_.sh at H; refine sR <| vl_n <| H_box H fun _ h H=> vl_n <| H_alloc TV_45 H fun _ h H=> nS (.bool false) rfl<|vl_e <| sR <| nM a0 rfl<|nLN TN_45 H fun _ H=> nM a2 rfl<|vl_n <| H_call HB_167 H fun t12 h H=> nM t12 rfl<|nP R_ext H fun _ H=> nP R_ext H fun t14 H=> vl_n <| H_storeN TS_45 H fun h H=> ?_; exact nS t14 rfl<|vl_e <| sR <| nLN TN_45 H fun _ H=> nM t14 rfl<|vl_n <| H_storeN TS_45 H fun h H=> nS t14 rfl<|vl_e <| WPc_ret <| resH_of rfl<|resL_N TN_45 <| loadN_imp H fun r6 H=> resL_t <| H
def z1o_.sh (a0 a1 : Value) (h : Heap) (Q : Value → Heap → Prop) : Prop := box 45 a1 h fun b h=>alloc [(.int .i64 0), (.int .i64 0)] 45 h fun d h=>loadN 2 b h fun g=>z0i_.call #[a0, g, (.pointer none)] h fun i h=>extr 0 i fun j=>extr 1 i fun k=>storeN 2 d j h fun h=>loadN 2 d h fun l=>Q (.tuple #[l, k]) h
theorem z1o_.body (a0 a1 : Value) (h : Heap) (Q : Value → Heap → Prop) (H : z1o_.sh a0 a1 h Q) : z1o_.call #[a0, a1] h Q := by
 refine callsH_of (args := [a0, a1]) Tryz.func90 rfl rfl ?_; unfold z1o_.sh at H; refine sR <| vl_n <| H_box H fun _ h H=> vl_n <| H_alloc TV_45 H fun _ h H=> nS (.bool false) rfl<|vl_e <| sR <| nM a0 rfl<|nLN TN_45 H fun _ H=> vl_n <| H_call HB_133 H fun _ h H=> nP R_ext H fun _ H=> nP R_ext H fun t10 H=> vl_n <| H_storeN TS_45 H fun h H=> nS t10 rfl<|vl_e ?_; exact WPc_ret <| resH_of rfl<|resL_N TN_45 <| loadN_imp H fun r4 H=> resL_t <| H
def z2v_.j1 (s5 : Value) (h : Heap) (Q : Value → Heap → Prop) : Prop := Q s5 h
def z2v_.j4 (s5 s14 s15 s16 : Value) (h : Heap) (K1 : List Value → Heap → Prop) (Q : Value → Heap → Prop) : Prop := arith (· + ·) s16 (.int .i64 1) fun b=>K1 [b] h
def z2v_.j3 (s5 s14 s15 s16 : Value) (h : Heap) (K1 : List Value → Heap → Prop) (Q : Value → Heap → Prop) : Prop := idx 2 s14 s16 fun b=>loadN 2 b h fun d=>alloc [(.int .i64 0), (.int .i64 0)] 45 h fun g h=>storeN 2 g d h fun h=>loadN 2 g h fun i=>z1o_.call #[s5, i] h fun j h=>z2v_.j4 s5 s14 s15 s16 h K1 Q
def z2v_.l2.b (c5 c14 c15 s16 : Value) (h : Heap) (K1 : List Value → Heap → Prop) (Q : Value → Heap → Prop) : Prop := cmpI (fun a b=> decide (a < b)) s16 c15 fun b=>ifV b (z2v_.j3 c5 c14 c15 s16 h K1 Q) (z2v_.j1 c5 h Q)
def z2v_.sh (a0 a1 : Value) (h : Heap) (Q : Value → Heap → Prop) : Prop := box 24 a0 h fun b h=>fld 0 b fun d=>load1 d h fun g=>loadN 3 b h fun i=>z2e_.call #[g] h fun j h=>stillN 3 b i h ∧ z27_.call #[i] h fun k h=>z08_.call #[j, k] h fun l h=>lenV a1 fun m=>loopC (fun c s h K1=> z2v_.l2.b (c.getD 0 undef) (c.getD 1 undef) (c.getD 2 undef) (s.getD 0 undef) h K1 Q) [l, a1, m] [(.int .i64 0)] h
theorem z2v_.body (a0 a1 : Value) (h : Heap) (Q : Value → Heap → Prop) (H : z2v_.sh a0 a1 h Q) : z2v_.call #[a0, a1] h Q := by
 refine callsH_of (args := [a0, a1]) Tryz.func43 rfl rfl ?_; unfold z2v_.sh at H; refine sR <| vl_n <| H_box H fun _ h H=> nS (.pointer none) rfl<|vl_e <| WPc_seq' <| W_drawn [0,1,3,0,15,31,63] (Tk 0<|Tk 1<|Tk 3<|Al 2<|Al 4<|Al 5<|Tk 6 .done) mixed (by kernel_rfl) <| pP rfl (R_fld TF_24_0) H fun _ H=> pL rfl T1_22 H fun _ _ _ H=> tkL rfl<|R_loadN TN_24 H fun _ _ hat11 _ H _ hSt11=> aE rfl<|H_call HB_88 H fun _ h ⟨S, H⟩=> ⟨(hcons rfl (hSt11 _ (still_N S hat11 rfl)) (hskip rfl hnil)), aE rfl<|H_call HB_89 H fun _ h H=> ⟨(hskip rfl hnil), aE rfl<|H_call HB_87 H fun t13 h H=> ⟨hnil, pS t13 rfl rfl<|vp_done ?_⟩⟩⟩
 refine WPc_seq (fun e h=> z2v_.j1 (e 5) h Q) ?_ (fun e h H=> ?_)
 rotate_left
 · unfold z2v_.j1 at H
   exact sR <| nM (e 5) rfl<|nS (e 5) rfl<|vl_e <| WPc_ret <| resH_of rfl<|H
 refine sR <| nM a1 rfl<|nP (R_len Tryz.underlying25) H fun _ H=> nM (.int .i64 0) rfl<|vl_e <| WPc_block ?_; refine loop_at (fun e=> [e 16]) (fun e=> [e 5, e 14, e 15]) H rfl rfl ?_; intro K1 e1 h H hin1
 replace H : z2v_.l2.b (e1 5) (e1 14) (e1 15) (e1 16) h K1 Q := H
 unfold z2v_.l2.b at H; clear hin1; refine sR <| nP R_lss H fun _ H=> vl_e ?_; refine WPc_seq (fun e h=> z2v_.j3 (e 5) (e 14) (e 15) (e 16) h K1 Q ∧ [e1 5, e1 14, e1 15] = [e 5, e 14, e 15]) ?_ (fun e h ⟨H, hq1⟩=> ?_)
 rotate_left
 · unfold z2v_.j3 at H
   refine WPc_seq (fun e h=> z2v_.j4 (e 5) (e 14) (e 15) (e 16) h K1 Q ∧ [e1 5, e1 14, e1 15] = [e 5, e 14, e 15]) ?_ (fun e h ⟨H, hq1⟩=> ?_)
   rotate_left
   · unfold z2v_.j4 at H
     refine W_region (by kernel_rfl) <| nP R_add H fun t23 H=> nM t23 rfl<|vl_e ?_; exact ⟨H, hq1⟩
   refine WPc_block <| sR <| nP (R_idx TE_25) H fun _ H=> nLN TN_45 H fun _ H=> vl_n <| H_alloc TV_45 H fun _ h H=> vl_n <| H_storeN TS_45 H fun h H=> vl_e <| W_region (by kernel_rfl) <| nM (e 5) rfl<|nLN TN_45 H fun _ H=> vl_n <| H_call HB_90 H fun _ h H=> vl_e ?_; exact ⟨H, hq1⟩
 refine cI H (fun H=> ?_) fun H=> ?_
 · refine WPc_skip ?_
   exact ⟨H, rfl⟩
 · refine WPc_exit ?_
   exact H
def z1l_.sh (a0 : Value) (h : Heap) (Q : Value → Heap → Prop) : Prop := nilck a0 fun b=>fld 3 b fun d=>load1 d h fun g=>Q g h
theorem z1l_.body (a0 : Value) (h : Heap) (Q : Value → Heap → Prop) (H : z1l_.sh a0 h Q) : z1l_.call #[a0] h Q := by
 refine callsH_of (args := [a0]) Tryz.func69 rfl rfl ?_; unfold z1l_.sh at H; exact sR <| nS (.int .i64 0) rfl<|vl_e <| sR <| nM a0 rfl<|nT TF_162_3 T1_3 H fun _ _ t6 H=> nS t6 rfl<|vl_e <| WPc_ret <| resH_of rfl<|H
def z1e_.sh (a0 a1 : Value) (h : Heap) (Q : Value → Heap → Prop) : Prop := Q (.bool false) h
theorem z1e_.body (a0 a1 : Value) (h : Heap) (Q : Value → Heap → Prop) (H : z1e_.sh a0 a1 h Q) : z1e_.call #[a0, a1] h Q := by
 refine callsH_of (args := [a0, a1]) Tryz.func102 rfl rfl ?_; unfold z1e_.sh at H; exact sR <| nS (.bool false) rfl<|vl_e <| sR <| nS (.bool false) rfl<|vl_e <| WPc_ret <| resH_of rfl<|H
def z06_.j2 (s0 s2 s3 s9 : Value) (h : Heap) (Q : Value → Heap → Prop) : Prop := nilck s9 fun b=>fld 3 b fun d=>load1 d h fun g=>nilck g fun i=>load1 i h fun j=>nilck s9 fun k=>fld 3 k fun l=>load1 l h fun m=>nilck m fun n=>load1 n h fun o=>lenV o fun p=>arith (· - ·) p (.int .i64 1) fun q=>idx 1 j q fun u=>z06_.call #[s0, u, s2, s3] h fun v h=>Q v h
def z06_.j5 (s0 s2 s3 s9 s10 : Value) (h : Heap) (K1 : List Value → Heap → Prop) (Q : Value → Heap → Prop) : Prop := arith (· + ·) s10 (.int .i64 1) fun b=>K1 [s2, b] h
def z06_.j4 (s0 s2 s3 s9 s10 : Value) (h : Heap) (K1 : List Value → Heap → Prop) (Q : Value → Heap → Prop) : Prop := nilck s9 fun b=>fld 3 b fun d=>load1 d h fun g=>nilck g fun i=>load1 i h fun j=>idx 1 j s10 fun k=>z06_.call #[s0, k, s2, s3] h fun l h=>nilck s9 fun m=>fld 2 m fun n=>load1 n h fun o=>idx 2 o s10 fun p=>loadN 2 p h fun q=>mkSl (if 1 * 2 = 0 then [] else zeros [(.int .i64 0), (.int .i64 0)] 1) 1 [(0 * 2, 2, q)] 45 h fun u h=>app 45 2 16 [(.int .i64 0), (.int .i64 0)] l u h fun v h=>z06_.j5 s0 v s3 s9 s10 h K1 Q
def z06_.l3.b (c0 c3 c9 s2 s10 : Value) (h : Heap) (K1 : List Value → Heap → Prop) (Q : Value → Heap → Prop) : Prop := nilck c9 fun b=>fld 2 b fun d=>load1 d h fun g=>lenV g fun i=>cmpI (fun a b=> decide (a < b)) s10 i fun j=>ifV j (z06_.j4 c0 s2 c3 c9 s10 h K1 Q) (z06_.j2 c0 s2 c3 c9 h Q)
def z06_.j1 (s0 s2 s3 s9 : Value) (h : Heap) (Q : Value → Heap → Prop) : Prop := loopC (fun c s h K1=> z06_.l3.b (c.getD 0 undef) (c.getD 1 undef) (c.getD 2 undef) (s.getD 0 undef) (s.getD 1 undef) h K1 Q) [s0, s3, s9] [s2, (.int .i64 0)] h
def z06_.sh (a0 a1 a2 a3 : Value) (h : Heap) (Q : Value → Heap → Prop) : Prop := z0l_.call #[a0, a1, a3] h fun b h=>z20_.call #[b] h fun d h=>ifV d (nilck b fun g=>fld 2 g fun i=>load1 i h fun j=>app 45 2 16 [(.int .i64 0), (.int .i64 0)] a2 j h fun k h=>Q k h) (z06_.j1 a0 a2 a3 b h Q)
theorem z06_.body (a0 a1 a2 a3 : Value) (h : Heap) (Q : Value → Heap → Prop) (H : z06_.sh a0 a1 a2 a3 h Q) : z06_.call #[a0, a1, a2, a3] h Q := by
 refine callsH_of (args := [a0, a1, a2, a3]) Tryz.func134 rfl rfl ?_; unfold z06_.sh at H; refine sR <| nS (.slice none 0 0) rfl<|vl_e <| sR <| nM a0 rfl<|nM a1 rfl<|nM a3 rfl<|vl_n <| H_call HB_103 H fun t14 h H=> nS t14 rfl<|vl_e ?_; refine WPc_seq (fun e h=> z06_.j1 (e 0) (e 2) (e 3) (e 9) h Q) ?_ (fun e h H=> ?_)
 rotate_left
 · unfold z06_.j1 at H
   refine WPc_seq (fun e h=> z06_.j2 (e 0) (e 2) (e 3) (e 9) h Q) ?_ (fun e h H=> ?_)
   rotate_left
   · unfold z06_.j2 at H
     refine WPc_seq' <| W_drawn [0,0,2,6,14,30,62,0,128,384,896,1920,3968,8064,16256,32766,0,0,262143,524287] (Tk 0<|Tk 1<|Tk 2<|Tk 3<|Tk 4<|Tk 5<|Tk 6<|Tk 7<|Tk 8<|Tk 9<|Tk 10<|Tk 11<|Tk 12<|Tk 13<|Tk 14<|Tk 15<|Tk 16<|Tk 17<|Al 18<|Tk 19 .done) mixed (by kernel_rfl) <| pM (e 0) rfl rfl<|pM (e 9) rfl rfl<|pT rfl rfl rfl TF_167_3 T1_165 H fun _ _ _ _ _ H=> pP rfl R_nil H fun _ H=> pL rfl T1_168 H fun _ _ _ H=> pM (e 9) rfl rfl<|pT rfl rfl rfl TF_167_3 T1_165 H fun _ _ _ _ _ H=> pP rfl R_nil H fun _ H=> ?_; exact pL rfl T1_168 H fun _ _ _ H=> pP rfl (R_len Tryz.underlying168) H fun _ H=> pP rfl R_sub H fun _ H=> pP rfl (R_idx TE_168) H fun _ H=> pM (e 2) rfl rfl<|pM (e 3) rfl rfl<|aE rfl<|H_call HB_134 H fun t72 h H=> ⟨(hskip rfl (hskip rfl (hskip rfl (hskip rfl hnil)))), pS t72 rfl rfl<|vp_done <| WPc_ret <| resH_of rfl<|H⟩
   refine sR <| nS (.int .i64 0) rfl<|vl_e <| WPc_block ?_; refine loop_at (fun e=> [e 2, e 10]) (fun e=> [e 0, e 3, e 9]) H rfl rfl ?_; intro K1 e1 h H hin1
   replace H : z06_.l3.b (e1 0) (e1 3) (e1 9) (e1 2) (e1 10) h K1 Q := H
   unfold z06_.l3.b at H; clear hin1; refine WPc_seq (fun e h=> z06_.j4 (e 0) (e 2) (e 3) (e 9) (e 10) h K1 Q ∧ [e1 0, e1 3, e1 9] = [e 0, e 3, e 9]) ?_ (fun e h ⟨H, hq1⟩=> ?_)
   rotate_left
   · unfold z06_.j4 at H
     refine WPc_seq (fun e h=> z06_.j5 (e 0) (e 2) (e 3) (e 9) (e 10) h K1 Q ∧ [e1 0, e1 3, e1 9] = [e 0, e 3, e 9]) ?_ (fun e h ⟨H, hq1⟩=> ?_)
     rotate_left
     · unfold z06_.j5 at H
       refine W_region (by kernel_rfl) <| nM (e 10) rfl<|nP R_add H fun t31 H=> nS t31 rfl<|vl_e ?_; exact ⟨H, hq1⟩
     refine WPc_block <| sR <| nM (e 0) rfl<|nM (e 9) rfl<|nT TF_167_3 T1_165 H fun _ _ _ H=> nP R_nil H fun _ H=> nL T1_168 H fun _ H=> nM (e 10) rfl<|nP (R_idx TE_168) H fun _ H=> nM (e 2) rfl<|nM (e 3) rfl<|vl_n <| H_call HB_134 H fun t43 h H=> ?_; refine nS t43 rfl<|vl_e <| W_region (by kernel_rfl) <| nM t43 rfl<|nM (e 9) rfl<|nT TF_167_2 T1_25 H fun _ _ _ H=> nM (e 10) rfl<|nP (R_idx TE_25) H fun _ H=> nLN TN_45 H fun _ H=> vl_n <| H_mkSl TZ_25 (by decide) rfl H rfl fun _ h H=> vl_n <| H_app TZ_25 TU_25 H fun t53 h H=> nS t53 rfl ?_; refine vl_e ?_; exact ⟨H, hq1⟩
   refine sR <| nM (e1 10) rfl<|nM (e1 9) rfl<|nT TF_167_2 T1_25 H fun _ _ _ H=> nP (R_len Tryz.underlying25) H fun _ H=> nP R_lss H fun _ H=> vl_e ?_; refine cI H (fun H=> ?_) fun H=> ?_
   · refine WPc_skip ?_
     exact ⟨H, rfl⟩
   · refine WPc_exit ?_
     exact H
 refine sR <| nM t14 rfl<|vl_n <| H_call HB_104 H fun _ h H=> vl_e ?_; refine cI H (fun H=> ?_) fun H=> ?_
 · exact sR <| nM a2 rfl<|nM t14 rfl<|nT TF_167_2 T1_25 H fun _ _ _ H=> vl_n <| H_app TZ_25 TU_25 H fun t22 h H=> nS t22 rfl<|vl_e <| WPc_ret <| resH_of rfl<|H
 · exact WPc_skip <| H
def z13_.j2 (s5 : Value) (h : Heap) (Q : Value → Heap → Prop) : Prop := Q s5 h
def z13_.j1 (s0 s1 : Value) (h : Heap) (Q : Value → Heap → Prop) : Prop := z1l_.call #[s0] h fun b h=>mks 45 2 16 [(.int .i64 0), (.int .i64 0)] (.int .i64 0) b h fun d h=>nilck s0 fun g=>fld 2 g fun i=>load1 i h fun j=>neNilP j fun k=>ifV k (nilck s0 fun l=>fld 2 l fun m=>z06_.call #[s0, m, d, s1] h fun n h=>z13_.j2 n h Q) (z13_.j2 d h Q)
def z13_.sh (a0 a1 : Value) (h : Heap) (Q : Value → Heap → Prop) : Prop := z1e_.call #[a0, a1] h fun b h=>ifV b (False) (z13_.j1 a0 a1 h Q)
theorem z13_.body (a0 a1 : Value) (h : Heap) (Q : Value → Heap → Prop) (H : z13_.sh a0 a1 h Q) : z13_.call #[a0, a1] h Q := by
 refine callsH_of (args := [a0, a1]) Tryz.func91 rfl rfl ?_; unfold z13_.sh at H; refine sR <| nS (.slice none 0 0) rfl<|vl_e ?_; refine WPc_seq (fun e h=> z13_.j1 (e 0) (e 1) h Q) ?_ (fun e h H=> ?_)
 rotate_left
 · unfold z13_.j1 at H
   refine sR <| nM (e 0) rfl<|vl_n <| H_call HB_69 H fun _ h H=> vl_n <| H_mks TZ_25 rfl H fun t13 h H=> nS t13 rfl<|vl_e ?_; refine WPc_seq (fun e h=> z13_.j2 (e 5) h Q) ?_ (fun e h H=> ?_)
   rotate_left
   · unfold z13_.j2 at H
     exact sR <| nM (e 5) rfl<|nS (e 5) rfl<|vl_e <| WPc_ret <| resH_of rfl<|H
   refine sR <| nM (e 0) rfl<|nT TF_162_2 T1_76 H fun _ _ _ H=> nP (R_neNilP Tryz.underlying76 rfl) H fun _ H=> vl_e ?_; refine cI H (fun H=> ?_) fun H=> ?_
   · exact W_region (by kernel_rfl) <| nM (e 0) rfl<|nM (e 0) rfl<|nB TF_162_2 H fun _ _ H=> nM t13 rfl<|nM (e 1) rfl<|vl_n <| H_call HB_134 H fun t25 h H=> nS t25 rfl<|vl_e <| H
   · exact WPc_skip <| H
 refine sR <| nM a0 rfl<|nM a1 rfl<|vl_n <| H_call HB_102 H fun _ h H=> vl_e ?_; refine cI H (fun H=> ?_) fun H=> ?_
 · refine W_region (by kernel_rfl) <| nM a0 rfl<|nM a1 rfl ?_
   refine vl_n ?_; exact H.elim
 · exact WPc_skip <| H
def z11_.sh (a0 : Value) (h : Heap) (Q : Value → Heap → Prop) : Prop := z13_.call #[a0, (.bool false)] h fun b h=>Q b h
theorem z11_.body (a0 : Value) (h : Heap) (Q : Value → Heap → Prop) (H : z11_.sh a0 h Q) : z11_.call #[a0] h Q := by
 refine callsH_of (args := [a0]) Tryz.func44 rfl rfl ?_; unfold z11_.sh at H; exact sR <| nS (.slice none 0 0) rfl<|vl_e <| sR <| nM a0 rfl<|vl_n <| H_call HB_91 H fun t4 h H=> nS t4 rfl<|vl_e <| WPc_ret <| resH_of rfl<|H
def z2d_.sh (a0 a1 : Value) (h : Heap) (Q : Value → Heap → Prop) : Prop := box 24 a0 h fun b h=>loadN 3 b h fun d=>z2v_.call #[d, a1] h fun g h=>z11_.call #[g] h fun i h=>Q i h
theorem z2d_.body (a0 a1 : Value) (h : Heap) (Q : Value → Heap → Prop) (H : z2d_.sh a0 a1 h Q) : z2d_.call #[a0, a1] h Q := by
 refine callsH_of (args := [a0, a1]) Tryz.func9 rfl rfl ?_; unfold z2d_.sh at H; exact sR <| vl_n <| H_box H fun _ h H=> nS (.slice none 0 0) rfl<|vl_e <| sR <| nLN TN_24 H fun _ H=> nM a1 rfl<|vl_n <| H_call HB_43 H fun _ h H=> vl_n <| H_call HB_44 H fun t8 h H=> nS t8 rfl<|vl_e <| WPc_ret <| resH_of rfl<|H
def z2f_.sh (h : Heap) (Q : Value → Heap → Prop) : Prop := alloc [(.slice none 0 0), (.int .i64 0), (.bool false)] 24 h fun b h=>buildV [(.slice none 0 0), (.int .i64 0), (.bool false)] [(1, 1, (.int .i64 2))] fun d=>storeN 3 b d h fun h=>loadN 3 b h fun g=>Q g h
theorem z2f_.body (h : Heap) (Q : Value → Heap → Prop) (H : z2f_.sh h Q) : z2f_.call #[] h Q := by
 refine callsH_of (args := []) Tryz.func41 rfl rfl ?_; unfold z2f_.sh at H; exact sR <| vl_n <| H_alloc TV_24 H fun _ h H=> vl_e <| sR <| nP (R_build TB_24 rfl (by decide)) H fun _ H=> vl_n <| H_storeN TS_24 H fun h H=> vl_e <| WPc_ret <| resH_of rfl<|resL_N TN_24 <| loadN_imp H fun r0 H=> H
def z29_.sh (h : Heap) (Q : Value → Heap → Prop) : Prop := buildV [(.int .i64 0), (.int .i64 0)] [(0, 1, (.int .i64 5)), (1, 1, (.int .i64 1))] fun b=>buildV [(.int .i64 0), (.int .i64 0)] [(0, 1, (.int .i64 3)), (1, 1, (.int .i64 2))] fun d=>buildV [(.int .i64 0), (.int .i64 0)] [(0, 1, (.int .i64 9)), (1, 1, (.int .i64 3))] fun g=>buildV [(.int .i64 0), (.int .i64 0)] [(0, 1, (.int .i64 3)), (1, 1, (.int .i64 4))] fun i=>buildV [(.int .i64 0), (.int .i64 0)] [(0, 1, (.int .i64 1)), (1, 1, (.int .i64 5))] fun j=>buildV [(.int .i64 0), (.int .i64 0)] [(0, 1, (.int .i64 7)), (1, 1, (.int .i64 6))] fun k=>buildV [(.int .i64 0), (.int .i64 0)] [(0, 1, (.int .i64 8)), (1, 1, (.int .i64 7))] fun l=>mkSl (if 7 * 2 = 0 then [] else zeros [(.int .i64 0), (.int .i64 0)] 7) 7 [(0 * 2, 2, b), (1 * 2, 2, d), (2 * 2, 2, g), (3 * 2, 2, i), (4 * 2, 2, j), (5 * 2, 2, k), (6 * 2, 2, l)] 45 h fun m h=>Q m h
theorem z29_.body (h : Heap) (Q : Value → Heap → Prop) (H : z29_.sh h Q) : z29_.call #[] h Q := by
 refine callsH_of (args := []) Tryz.func42 rfl rfl ?_; unfold z29_.sh at H; refine sR <| nS (.slice none 0 0) rfl<|vl_e <| sR <| nP (R_build TB_45 rfl (by decide)) H fun _ H=> nP (R_build TB_45 rfl (by decide)) H fun _ H=> nP (R_build TB_45 rfl (by decide)) H fun _ H=> nP (R_build TB_45 rfl (by decide)) H fun _ H=> nP (R_build TB_45 rfl (by decide)) H fun _ H=> nP (R_build TB_45 rfl (by decide)) H fun _ H=> nP (R_build TB_45 rfl (by decide)) H fun _ H=> vl_n <| H_mkSl TZ_25 (by decide) rfl H rfl fun t8 h H=> nS t8 rfl<|vl_e ?_; exact WPc_ret <| resH_of rfl<|H
def z2p_.sh (h : Heap) (Q : Value → Heap → Prop) : Prop := z2f_.call #[] h fun b h=>z29_.call #[] h fun d h=>slc 2 d none (some (.int .i64 3)) none fun g=>z2d_.call #[b, g] h fun i h=>lenV i fun j=>cmpI (fun a b=> a == b) j (.int .i64 3) fun k=>Q k h
theorem z2p_.body (h : Heap) (Q : Value → Heap → Prop) (H : z2p_.sh h Q) : z2p_.call #[] h Q := by
 refine callsH_of (args := []) Tryz.func8 rfl rfl ?_; unfold z2p_.sh at H; exact sR <| nS (.bool false) rfl<|vl_e <| sR <| vl_n <| H_call HB_41 H fun _ h H=> vl_n <| H_call HB_42 H fun _ h H=> nP (R_slice TE_25 (by decide)) H fun _ H=> vl_n <| H_call HB_9 H fun _ h H=> nP (R_len Tryz.underlying25) H fun _ H=> nP R_eqI H fun t6 H=> nS t6 rfl<|vl_e <| WPc_ret <| resH_of rfl<|H
def z1d_.sh (a0 a1 : Value) (h : Heap) (Q : Value → Heap → Prop) : Prop := alloc [(.pointer none), (.bool false), (.bool false), (.bool false), (.bool false), (.bool false), (.pointer none), (.int .i64 0), (.pointer none), (.int .i64 0), (.pointer none), (.int .i64 0), (.pointer none), (.int .i64 0), (.slice none 0 0), (.int .i64 0), (.int .i64 0)] 82 h fun b h=>alloc [(.pointer none), (.bool false), (.bool false), (.bool false), (.bool false), (.bool false), (.pointer none), (.int .i64 0), (.pointer none), (.int .i64 0), (.pointer none), (.int .i64 0), (.pointer none), (.int .i64 0), (.slice none 0 0), (.int .i64 0), (.int .i64 0)] 82 h fun d h=>fld 0 d fun g=>store1 g a0 h fun h=>fld 1 d fun i=>store1 i a1 h fun h=>fld 1 d fun j=>load1 j h fun k=>z1e_.call #[a0, k] h fun l h=>fld 2 d fun m=>store1 m l h fun h=>fld 6 d fun n=>slcA 4 2 n none (some (.int .i64 0)) fun o=>fld 14 d fun p=>store1 p o h fun h=>loadN 17 d h fun q=>storeN 17 b q h fun h=>loadN 17 b h fun u=>Q u h
theorem z1d_.body (a0 a1 : Value) (h : Heap) (Q : Value → Heap → Prop) (H : z1d_.sh a0 a1 h Q) : z1d_.call #[a0, a1] h Q := by
 refine callsH_of (args := [a0, a1]) Tryz.func92 rfl rfl ?_; unfold z1d_.sh at H; refine sR <| vl_n <| H_alloc TV_82 H fun _ h H=> vl_e <| sR <| vl_n <| H_alloc TV_82 H fun _ h H=> vl_e <| sR <| nM a0 rfl<|nP (R_fld TF_82_0) H fun _ H=> vl_n <| H_store1 TS_74 H fun h H=> vl_e <| sR <| nM a1 rfl<|nP (R_fld TF_82_1) H fun _ H=> ?_; refine vl_n <| H_store1 TS_4 H fun h H=> vl_e <| sR <| nM a0 rfl<|nP (R_fld TF_82_1) H fun _ H=> nL T1_4 H fun _ H=> vl_n <| H_call HB_102 H fun _ h H=> nP (R_fld TF_82_2) H fun _ H=> vl_n <| H_store1 TS_4 H fun h H=> vl_e <| sR <| nP (R_fld TF_82_6) H fun _ H=> nP (R_slcA TA_79) H fun _ H=> nP (R_fld TF_82_7) H fun _ H=> ?_; exact vl_n <| H_store1 TS_80 H fun h H=> vl_e <| sR <| nLN TN_82 H fun _ H=> vl_n <| H_storeN TS_82 H fun h H=> vl_e <| WPc_ret <| resH_of rfl<|resL_N TN_82 <| loadN_imp H fun r4 H=> H
def z16_.sh (a0 : Value) (h : Heap) (Q : Value → Heap → Prop) : Prop := alloc [(.pointer none), (.bool false), (.bool false), (.bool false), (.bool false), (.bool false), (.pointer none), (.int .i64 0), (.pointer none), (.int .i64 0), (.pointer none), (.int .i64 0), (.pointer none), (.int .i64 0), (.slice none 0 0), (.int .i64 0), (.int .i64 0)] 82 h fun b h=>z1d_.call #[a0, (.bool false)] h fun d h=>storeN 17 b d h fun h=>loadN 17 b h fun g=>Q g h
theorem z16_.body (a0 : Value) (h : Heap) (Q : Value → Heap → Prop) (H : z16_.sh a0 h Q) : z16_.call #[a0] h Q := by
 refine callsH_of (args := [a0]) Tryz.func45 rfl rfl ?_; unfold z16_.sh at H; exact sR <| vl_n <| H_alloc TV_82 H fun _ h H=> vl_e <| sR <| nM a0 rfl<|vl_n <| H_call HB_92 H fun _ h H=> vl_n <| H_storeN TS_82 H fun h H=> vl_e <| WPc_ret <| resH_of rfl<|resL_N TN_82 <| loadN_imp H fun r2 H=> H
def z2n_.j1 (s2 s4 : Value) (h : Heap) (Q : Value → Heap → Prop) : Prop := loadN 2 s2 h fun b=>buildV [(.int .i64 0), (.int .i64 0), (.bool false)] [(0, 2, b), (2, 1, (.bool true))] fun d=>storeN 3 s4 d h fun h=>loadN 3 s4 h fun g=>Q g h
def z2n_.sh (a0 a1 : Value) (h : Heap) (Q : Value → Heap → Prop) : Prop := box 45 a0 h fun b h=>alloc [(.int .i64 0), (.int .i64 0), (.bool false)] 47 h fun d h=>notV a1 fun g=>ifV g (buildV [(.int .i64 0), (.int .i64 0), (.bool false)] [] fun i=>storeN 3 d i h fun h=>loadN 3 d h fun j=>Q j h) (z2n_.j1 b d h Q)
theorem z2n_.body (a0 a1 : Value) (h : Heap) (Q : Value → Heap → Prop) (H : z2n_.sh a0 a1 h Q) : z2n_.call #[a0, a1] h Q := by
 refine callsH_of (args := [a0, a1]) Tryz.func48 rfl rfl ?_; unfold z2n_.sh at H; refine sR <| vl_n <| H_box H fun _ h H=> vl_n <| H_alloc TV_47 H fun _ h H=> vl_e ?_; refine WPc_seq (fun e h=> z2n_.j1 (e 2) (e 4) h Q) ?_ (fun e h H=> ?_)
 rotate_left
 · unfold z2n_.j1 at H
   exact sR <| nLN TN_45 H fun _ H=> nP (R_build TB_47 rfl (by decide)) H fun _ H=> vl_n <| H_storeN TS_47 H fun h H=> vl_e <| WPc_ret <| resH_of rfl<|resL_N TN_47 <| loadN_imp H fun r4 H=> H
 refine sR <| nM a1 rfl<|nP R_not H fun _ H=> vl_e ?_; refine cI H (fun H=> ?_) fun H=> ?_
 · exact sR <| nP (R_build TB_47 rfl (by decide)) H fun _ H=> vl_n <| H_storeN TS_47 H fun h H=> vl_e <| WPc_ret <| resH_of rfl<|resL_N TN_47 <| loadN_imp H fun r4 H=> H
 · exact WPc_skip <| H
def z1q_.j3 (s0 : Value) (h : Heap) (Q : Value → Heap → Prop) : Prop := nilck s0 fun b=>fld 14 b fun d=>load1 d h fun g=>nilck s0 fun i=>fld 14 i fun j=>load1 j h fun k=>lenV k fun l=>arith (· - ·) l (.int .i64 1) fun m=>idx 2 g m fun n=>nilck n fun o=>fld 0 o fun p=>load1 p h fun q=>nilck q fun u=>fld 2 u fun v=>load1 v h fun w=>nilck n fun x=>fld 1 x fun y=>load1 y h fun z=>idx 2 w z fun b0=>loadN 2 b0 h fun b1=>nilck s0 fun b2=>fld 15 b2 fun b3=>storeN 2 b3 b1 h fun h=>Q (.bool true) h
def z1q_.j5 (s0 s3 : Value) (h : Heap) (K1 : List Value → Heap → Prop) (Q : Value → Heap → Prop) : Prop := nilck s0 fun b=>fld 0 b fun d=>load1 d h fun g=>nilck s3 fun i=>fld 3 i fun j=>load1 j h fun k=>nilck k fun l=>load1 l h fun m=>nilck s3 fun n=>fld 2 n fun o=>load1 o h fun p=>lenV p fun q=>idx 1 m q fun u=>nilck s0 fun v=>fld 1 v fun w=>load1 w h fun x=>z0l_.call #[g, u, x] h fun y h=>K1 [y] h
def z1q_.l4.b (c0 s3 : Value) (h : Heap) (K1 : List Value → Heap → Prop) (Q : Value → Heap → Prop) : Prop := nilck c0 fun b=>fld 14 b fun d=>load1 d h fun g=>nilck s3 fun i=>fld 2 i fun j=>load1 j h fun k=>lenV k fun l=>buildV [(.pointer none), (.int .i64 0)] [(0, 1, s3), (1, 1, l)] fun m=>mkSl (if 1 * 2 = 0 then [] else zeros [(.pointer none), (.int .i64 0)] 1) 1 [(0 * 2, 2, m)] 78 h fun n h=>still1 d g h ∧ app 78 2 16 [(.pointer none), (.int .i64 0)] g n h fun o h=>nilck c0 fun p=>fld 14 p fun q=>store1 q o h fun h=>z20_.call #[s3] h fun u h=>ifV u (nilck c0 fun v=>fld 14 v fun w=>load1 w h fun x=>nilck c0 fun y=>fld 14 y fun z=>load1 z h fun b0=>lenV b0 fun b1=>arith (· - ·) b1 (.int .i64 1) fun b2=>idx 2 x b2 fun b3=>fld 1 b3 fun b4=>load1 b4 h fun b5=>arith (· - ·) b5 (.int .i64 1) fun b6=>idx 2 x b2 fun b7=>fld 1 b7 fun b8=>store1 b8 b6 h fun h=>z1q_.j3 c0 h Q) (z1q_.j5 c0 s3 h K1 Q)
def z1q_.j2 (s0 : Value) (h : Heap) (Q : Value → Heap → Prop) : Prop := nilck s0 fun b=>fld 0 b fun d=>load1 d h fun g=>nilck s0 fun i=>fld 0 i fun j=>load1 j h fun k=>nilck k fun l=>fld 2 l fun m=>nilck s0 fun n=>fld 1 n fun o=>load1 o h fun p=>z0l_.call #[g, m, p] h fun q h=>loopC (fun c s h K1=> z1q_.l4.b (c.getD 0 undef) (s.getD 0 undef) h K1 Q) [s0] [q] h
def z1q_.j1 (s0 : Value) (h : Heap) (Q : Value → Heap → Prop) : Prop := nilck s0 fun b=>fld 3 b fun d=>store1 d (.bool true) h fun h=>nilck s0 fun g=>fld 14 g fun i=>load1 i h fun j=>slc 2 j none (some (.int .i64 0)) none fun k=>nilck s0 fun l=>fld 14 l fun m=>store1 m k h fun h=>nilck s0 fun n=>fld 0 n fun o=>load1 o h fun p=>nilck p fun q=>fld 2 q fun u=>load1 u h fun v=>eqNilP v fun w=>ifV w (Q (.bool false) h) (z1q_.j2 s0 h Q)
def z1q_.sh (a0 : Value) (h : Heap) (Q : Value → Heap → Prop) : Prop := nilck a0 fun b=>fld 0 b fun d=>load1 d h fun g=>eqNilP g fun i=>ifV i (Q (.bool false) h) (z1q_.j1 a0 h Q)
theorem z1q_.body (a0 : Value) (h : Heap) (Q : Value → Heap → Prop) (H : z1q_.sh a0 h Q) : z1q_.call #[a0] h Q := by
 refine callsH_of (args := [a0]) Tryz.func93 rfl rfl ?_; unfold z1q_.sh at H; refine sR <| nS (.bool false) rfl<|vl_e ?_; refine WPc_seq (fun e h=> z1q_.j1 (e 0) h Q) ?_ (fun e h H=> ?_)
 rotate_left
 · unfold z1q_.j1 at H
   refine sR <| nM (e 0) rfl<|nB TF_82_3 H fun _ _ H=> vl_n <| H_store1 TS_4 H fun h H=> vl_e <| sR <| nM (e 0) rfl<|nM (e 0) rfl<|nT TF_82_7 T1_80 H fun _ _ _ H=> nP (R_slice TE_80 (by decide)) H fun _ H=> nP R_nil H fun _ H=> ?_; refine nP (R_fld TF_82_7) H fun _ H=> vl_n <| H_store1 TS_80 H fun h H=> vl_e ?_; refine WPc_seq (fun e h=> z1q_.j2 (e 0) h Q) ?_ (fun e h H=> ?_)
   rotate_left
   · unfold z1q_.j2 at H
     refine WPc_seq' <| W_drawn [0,1,3,7,0,16,48,112,240,496,0,1024,3072,7168,16383,32767] (Tk 0<|Tk 1<|Tk 2<|Tk 3<|Tk 4<|Tk 5<|Tk 6<|Tk 7<|Tk 8<|Tk 9<|Tk 10<|Tk 11<|Tk 12<|Tk 13<|Al 14<|Tk 15 .done) mixed (by kernel_rfl) <| pM (e 0) rfl rfl<|pT rfl rfl rfl TF_82_0 T1_74 H fun _ _ _ _ _ H=> pM (e 0) rfl rfl<|pT rfl rfl rfl TF_82_0 T1_74 H fun _ _ _ _ _ H=> pB rfl rfl TF_162_2 H fun _ _ H=> pM (e 0) rfl rfl<|pP rfl R_nil H fun _ H=> ?_; refine pP rfl (R_fld TF_82_1) H fun _ H=> pL rfl T1_4 H fun _ _ _ H=> aE rfl<|H_call HB_103 H fun t43 h H=> ⟨(hskip rfl (hskip rfl (hskip rfl hnil))), pS t43 rfl rfl<|vp_done ?_⟩
     refine WPc_seq (fun e h=> z1q_.j3 (e 0) h Q) ?_ (fun e h H=> ?_)
     rotate_left
     · unfold z1q_.j3 at H
       refine WPc_seq' <| W_drawn [0,1,3,7,0,16,48,112,240,496,1023,2047] (Tk 0<|Tk 1<|Tk 2<|Tk 3<|Tk 4<|Tk 5<|Tk 6<|Tk 7<|Tk 8<|Tk 9<|Tk 10<|Tk 11 .done) mixed (by kernel_rfl) <| pM (e 0) rfl rfl<|pT rfl rfl rfl TF_82_7 T1_80 H fun _ _ _ _ _ H=> pM (e 0) rfl rfl<|pT rfl rfl rfl TF_82_7 T1_80 H fun _ _ _ _ _ H=> pP rfl (R_len Tryz.underlying80) H fun _ H=> pP rfl R_sub H fun _ H=> pP rfl (R_idx TE_80) H fun t109 H=> pS t109 rfl rfl ?_; refine vp_done <| WPc_seq' <| W_drawn [0,0,2,6,14,30,62,126,0,256,768,1792,4094,8190,16383,32767,65535] (Tk 0<|Tk 1<|Tk 2<|Tk 3<|Tk 4<|Tk 5<|Tk 6<|Tk 7<|Tk 8<|Tk 9<|Tk 10<|Tk 11<|Tk 12<|Tk 13<|Tk 14<|Tk 15<|Al 16 .done) mixed (by kernel_rfl) <| pM (e 0) rfl rfl<|pM t109 rfl rfl<|pT rfl rfl rfl TF_78_0 T1_76 H fun _ _ _ _ _ H=> pT rfl rfl rfl TF_167_2 T1_25 H fun _ _ _ _ _ H=> pM t109 rfl rfl<|pB rfl rfl TF_78_1 H fun _ _ H=> ?_; exact pL rfl T1_3 H fun _ _ _ H=> pP rfl (R_idx TE_25) H fun _ H=> tkL rfl<|R_loadN TN_45 H fun _ _ _ _ H _ _=> pB rfl rfl TF_82_8 H fun _ _ H=> aE rfl<|H_storeN TS_45 H fun h H=> ⟨(hskip rfl (hskip rfl (hskip rfl (hskip rfl hnil)))), vp_done <| sR <| nS (.bool true) rfl<|vl_e <| WPc_ret <| resH_of rfl<|H⟩
     refine WPc_block ?_; refine loop_at (fun e=> [e 3]) (fun e=> [e 0]) H rfl rfl ?_; intro K1 e1 h H hin1
     replace H : z1q_.l4.b (e1 0) (e1 3) h K1 Q := H
     unfold z1q_.l4.b at H; clear hin1; refine WPc_block <| WPc_seq' <| W_drawn [0,0,2,6,14,0,0,64,192,448,960,2016,4064,8190,16383,32767,65535] (Tk 0<|Tk 1<|Tk 2<|Tk 3<|Tk 4<|Tk 5<|Tk 6<|Tk 7<|Tk 8<|Tk 9<|Tk 10<|Tk 11<|Al 12<|Al 13<|Tk 14<|Tk 15<|Al 16 .done) mixed (by kernel_rfl) <| pM (e1 0) rfl rfl<|pM (e1 0) rfl rfl<|pT rfl rfl rfl TF_82_7 T1_80 H fun _ _ _ _ hat48 H=> pM (e1 3) rfl rfl<|pM (e1 3) rfl rfl<|pT rfl rfl rfl TF_167_2 T1_25 H fun _ _ _ _ _ H=> pP rfl (R_len Tryz.underlying25) H fun _ H=> ?_; refine pP rfl (R_build TB_78 rfl (by decide)) H fun _ H=> aE rfl<|H_mkSl TZ_80 (by decide) rfl H rfl fun _ h ⟨S, H⟩=> ⟨(hskip rfl (hcons rfl (still_1 S hat48) hnil)), aE rfl<|H_app TZ_80 TU_80 H fun _ h H=> ⟨(hskip rfl hnil), pB rfl rfl TF_82_7 H fun _ _ H=> aE rfl<|H_store1 TS_80 H fun h H=> ⟨hnil, vp_done ?_⟩⟩⟩
     refine WPc_seq (fun e h=> z1q_.j5 (e 0) (e 3) h K1 Q ∧ [e1 0] = [e 0]) ?_ (fun e h ⟨H, hq1⟩=> ?_)
     rotate_left
     · unfold z1q_.j5 at H
       refine W_drawn [0,1,3,7,0,16,48,112,240,496,0,1024,3072,7168,15360,32752,0,65536,196608,458752,1048575,2097151] (Tk 0<|Tk 1<|Tk 2<|Tk 3<|Tk 4<|Tk 5<|Tk 6<|Tk 7<|Tk 8<|Tk 9<|Tk 10<|Tk 11<|Tk 12<|Tk 13<|Tk 14<|Tk 15<|Tk 16<|Tk 17<|Tk 18<|Tk 19<|Al 20<|Tk 21 .done) mixed (by kernel_rfl) <| pM (e 0) rfl rfl<|pT rfl rfl rfl TF_82_0 T1_74 H fun _ _ _ _ _ H=> pM (e 3) rfl rfl<|pT rfl rfl rfl TF_167_3 T1_165 H fun _ _ _ _ _ H=> pP rfl R_nil H fun _ H=> pL rfl T1_168 H fun _ _ _ H=> pM (e 3) rfl rfl<|pB rfl rfl TF_167_2 H fun _ _ H=> ?_; refine pL rfl T1_25 H fun _ _ _ H=> pP rfl (R_len Tryz.underlying25) H fun _ H=> pP rfl (R_idx TE_168) H fun _ H=> pM (e 0) rfl rfl<|pT rfl rfl rfl TF_82_1 T1_4 H fun _ _ _ _ _ H=> aE rfl<|H_call HB_103 H fun t98 h H=> ⟨(hskip rfl (hskip rfl (hskip rfl (hskip rfl (hskip rfl hnil))))), pS t98 rfl rfl<|vp_done ?_⟩
       exact ⟨H, hq1⟩
     refine sR <| nM (e1 3) rfl<|vl_n <| H_call HB_104 H fun _ h H=> vl_e ?_; refine cI H (fun H=> ?_) fun H=> ?_
     · refine WPc_seq' <| W_drawn [0,1,3,7,0,16,48,112,240,496,1023,2047,4095,8191,16383,32767,65535] (Tk 0<|Tk 1<|Tk 2<|Tk 3<|Tk 4<|Tk 5<|Tk 6<|Tk 7<|Tk 8<|Tk 9<|Tk 10<|Tk 11<|Tk 12<|Tk 13<|Tk 14<|Tk 15<|Al 16 .done) mixed (by kernel_rfl) <| pM (e1 0) rfl rfl<|pT rfl rfl rfl TF_82_7 T1_80 H fun _ _ _ _ _ H=> pM (e1 0) rfl rfl<|pT rfl rfl rfl TF_82_7 T1_80 H fun _ _ _ _ _ H=> pP rfl (R_len Tryz.underlying80) H fun _ H=> pP rfl R_sub H fun _ H=> pP rfl (R_idx TE_80) H fun _ H=> pP rfl (R_fld TF_78_1) H fun _ H=> ?_
       refine pL rfl T1_3 H fun _ _ _ H=> pP rfl R_sub H fun _ H=> pP rfl (R_idx TE_80) H fun _ H=> pP rfl (R_fld TF_78_1) H fun _ H=> aE rfl<|H_store1 TS_3 H fun h H=> ⟨(hskip rfl (hskip rfl (hskip rfl hnil))), vp_done ?_⟩
       refine WPc_exit ?_; exact H
     · refine WPc_skip ?_
       exact ⟨H, rfl⟩
   refine sR <| nM (e 0) rfl<|nT TF_82_0 T1_74 H fun _ _ _ H=> nT TF_162_2 T1_76 H fun _ _ _ H=> nP (R_eqNilP Tryz.underlying76 rfl) H fun _ H=> vl_e ?_; refine cI H (fun H=> ?_) fun H=> ?_
   · exact sR <| nS (.bool false) rfl<|vl_e <| WPc_ret <| resH_of rfl<|H
   · exact WPc_skip <| H
 refine sR <| nM a0 rfl<|nT TF_82_0 T1_74 H fun _ _ _ H=> nP (R_eqNilP Tryz.underlying74 rfl) H fun _ H=> vl_e ?_; refine cI H (fun H=> ?_) fun H=> ?_
 · exact sR <| nS (.bool false) rfl<|vl_e <| WPc_ret <| resH_of rfl<|H
 · exact WPc_skip <| H
def z1h_.j3 (s0 : Value) (h : Heap) (Q : Value → Heap → Prop) : Prop := nilck s0 fun b=>fld 14 b fun d=>load1 d h fun g=>nilck s0 fun i=>fld 14 i fun j=>load1 j h fun k=>lenV k fun l=>arith (· - ·) l (.int .i64 1) fun m=>idx 2 g m fun n=>nilck n fun o=>fld 0 o fun p=>load1 p h fun q=>nilck q fun u=>fld 2 u fun v=>load1 v h fun w=>nilck n fun x=>fld 1 x fun y=>load1 y h fun z=>idx 2 w z fun b0=>loadN 2 b0 h fun b1=>nilck s0 fun b2=>fld 15 b2 fun b3=>storeN 2 b3 b1 h fun h=>Q (.bool true) h
def z1h_.j5 (s0 s3 : Value) (h : Heap) (K1 : List Value → Heap → Prop) (Q : Value → Heap → Prop) : Prop := nilck s0 fun b=>fld 0 b fun d=>load1 d h fun g=>nilck s3 fun i=>fld 3 i fun j=>load1 j h fun k=>nilck k fun l=>load1 l h fun m=>idx 1 m (.int .i64 0) fun n=>nilck s0 fun o=>fld 1 o fun p=>load1 p h fun q=>z0l_.call #[g, n, q] h fun u h=>K1 [u] h
def z1h_.l4.b (c0 s3 : Value) (h : Heap) (K1 : List Value → Heap → Prop) (Q : Value → Heap → Prop) : Prop := nilck c0 fun b=>fld 14 b fun d=>load1 d h fun g=>buildV [(.pointer none), (.int .i64 0)] [(0, 1, s3), (1, 1, (.int .i64 0))] fun i=>mkSl (if 1 * 2 = 0 then [] else zeros [(.pointer none), (.int .i64 0)] 1) 1 [(0 * 2, 2, i)] 78 h fun j h=>app 78 2 16 [(.pointer none), (.int .i64 0)] g j h fun k h=>nilck c0 fun l=>fld 14 l fun m=>store1 m k h fun h=>z20_.call #[s3] h fun n h=>ifV n (z1h_.j3 c0 h Q) (z1h_.j5 c0 s3 h K1 Q)
def z1h_.j2 (s0 : Value) (h : Heap) (Q : Value → Heap → Prop) : Prop := nilck s0 fun b=>fld 0 b fun d=>load1 d h fun g=>nilck s0 fun i=>fld 0 i fun j=>load1 j h fun k=>nilck k fun l=>fld 2 l fun m=>nilck s0 fun n=>fld 1 n fun o=>load1 o h fun p=>z0l_.call #[g, m, p] h fun q h=>loopC (fun c s h K1=> z1h_.l4.b (c.getD 0 undef) (s.getD 0 undef) h K1 Q) [s0] [q] h
def z1h_.j1 (s0 : Value) (h : Heap) (Q : Value → Heap → Prop) : Prop := nilck s0 fun b=>fld 5 b fun d=>store1 d (.bool false) h fun h=>nilck s0 fun g=>fld 4 g fun i=>store1 i (.bool false) h fun h=>nilck s0 fun j=>fld 3 j fun k=>store1 k (.bool true) h fun h=>nilck s0 fun l=>fld 14 l fun m=>load1 m h fun n=>slc 2 n none (some (.int .i64 0)) none fun o=>nilck s0 fun p=>fld 14 p fun q=>store1 q o h fun h=>nilck s0 fun u=>fld 0 u fun v=>load1 v h fun w=>nilck w fun x=>fld 2 x fun y=>load1 y h fun z=>eqNilP z fun b0=>ifV b0 (Q (.bool false) h) (z1h_.j2 s0 h Q)
def z1h_.sh (a0 : Value) (h : Heap) (Q : Value → Heap → Prop) : Prop := nilck a0 fun b=>fld 0 b fun d=>load1 d h fun g=>eqNilP g fun i=>ifV i (Q (.bool false) h) (z1h_.j1 a0 h Q)
theorem z1h_.body (a0 : Value) (h : Heap) (Q : Value → Heap → Prop) (H : z1h_.sh a0 h Q) : z1h_.call #[a0] h Q := by
 refine callsH_of (args := [a0]) Tryz.func98 rfl rfl ?_; unfold z1h_.sh at H; refine sR <| nS (.bool false) rfl<|vl_e ?_; refine WPc_seq (fun e h=> z1h_.j1 (e 0) h Q) ?_ (fun e h H=> ?_)
 rotate_left
 · unfold z1h_.j1 at H
   refine sR <| nM (e 0) rfl<|nB TF_82_5 H fun _ _ H=> vl_n <| H_store1 TS_4 H fun h H=> vl_e <| sR <| nM (e 0) rfl<|nB TF_82_4 H fun _ _ H=> vl_n <| H_store1 TS_4 H fun h H=> vl_e <| sR <| nM (e 0) rfl ?_; refine nB TF_82_3 H fun _ _ H=> vl_n <| H_store1 TS_4 H fun h H=> vl_e <| sR <| nM (e 0) rfl<|nM (e 0) rfl<|nT TF_82_7 T1_80 H fun _ _ _ H=> nP (R_slice TE_80 (by decide)) H fun _ H=> nB TF_82_7 H fun _ _ H=> vl_n <| H_store1 TS_80 H fun h H=> ?_; refine vl_e ?_; refine WPc_seq (fun e h=> z1h_.j2 (e 0) h Q) ?_ (fun e h H=> ?_)
   rotate_left
   · unfold z1h_.j2 at H
     refine WPc_seq' <| W_drawn [0,1,3,7,0,16,48,112,240,496,0,1024,3072,7168,16383,32767] (Tk 0<|Tk 1<|Tk 2<|Tk 3<|Tk 4<|Tk 5<|Tk 6<|Tk 7<|Tk 8<|Tk 9<|Tk 10<|Tk 11<|Tk 12<|Tk 13<|Al 14<|Tk 15 .done) mixed (by kernel_rfl) <| pM (e 0) rfl rfl<|pT rfl rfl rfl TF_82_0 T1_74 H fun _ _ _ _ _ H=> pM (e 0) rfl rfl<|pT rfl rfl rfl TF_82_0 T1_74 H fun _ _ _ _ _ H=> pB rfl rfl TF_162_2 H fun _ _ H=> pM (e 0) rfl rfl<|pP rfl R_nil H fun _ H=> ?_; refine pP rfl (R_fld TF_82_1) H fun _ H=> pL rfl T1_4 H fun _ _ _ H=> aE rfl<|H_call HB_103 H fun t49 h H=> ⟨(hskip rfl (hskip rfl (hskip rfl hnil))), pS t49 rfl rfl<|vp_done ?_⟩
     refine WPc_seq (fun e h=> z1h_.j3 (e 0) h Q) ?_ (fun e h H=> ?_)
     rotate_left
     · unfold z1h_.j3 at H
       refine WPc_seq' <| W_drawn [0,1,3,7,0,16,48,112,240,496,1023,2047] (Tk 0<|Tk 1<|Tk 2<|Tk 3<|Tk 4<|Tk 5<|Tk 6<|Tk 7<|Tk 8<|Tk 9<|Tk 10<|Tk 11 .done) mixed (by kernel_rfl) <| pM (e 0) rfl rfl<|pT rfl rfl rfl TF_82_7 T1_80 H fun _ _ _ _ _ H=> pM (e 0) rfl rfl<|pT rfl rfl rfl TF_82_7 T1_80 H fun _ _ _ _ _ H=> pP rfl (R_len Tryz.underlying80) H fun _ H=> pP rfl R_sub H fun _ H=> pP rfl (R_idx TE_80) H fun t89 H=> pS t89 rfl rfl ?_; refine vp_done <| WPc_seq' <| W_drawn [0,0,2,6,14,30,62,126,0,256,768,1792,4094,8190,16383,32767,65535] (Tk 0<|Tk 1<|Tk 2<|Tk 3<|Tk 4<|Tk 5<|Tk 6<|Tk 7<|Tk 8<|Tk 9<|Tk 10<|Tk 11<|Tk 12<|Tk 13<|Tk 14<|Tk 15<|Al 16 .done) mixed (by kernel_rfl) <| pM (e 0) rfl rfl<|pM t89 rfl rfl<|pT rfl rfl rfl TF_78_0 T1_76 H fun _ _ _ _ _ H=> pT rfl rfl rfl TF_167_2 T1_25 H fun _ _ _ _ _ H=> pM t89 rfl rfl<|pB rfl rfl TF_78_1 H fun _ _ H=> ?_; exact pL rfl T1_3 H fun _ _ _ H=> pP rfl (R_idx TE_25) H fun _ H=> tkL rfl<|R_loadN TN_45 H fun _ _ _ _ H _ _=> pB rfl rfl TF_82_8 H fun _ _ H=> aE rfl<|H_storeN TS_45 H fun h H=> ⟨(hskip rfl (hskip rfl (hskip rfl (hskip rfl hnil)))), vp_done <| sR <| nS (.bool true) rfl<|vl_e <| WPc_ret <| resH_of rfl<|H⟩
     refine WPc_block ?_; refine loop_at (fun e=> [e 3]) (fun e=> [e 0]) H rfl rfl ?_; intro K1 e1 h H hin1
     replace H : z1h_.l4.b (e1 0) (e1 3) h K1 Q := H
     unfold z1h_.l4.b at H; clear hin1; refine WPc_block <| sR <| nM (e1 0) rfl<|nM (e1 0) rfl<|nT TF_82_7 T1_80 H fun _ _ _ H=> nM (e1 3) rfl<|nP (R_build TB_78 rfl (by decide)) H fun _ H=> vl_n <| H_mkSl TZ_80 (by decide) rfl H rfl fun _ h H=> vl_n <| H_app TZ_80 TU_80 H fun _ h H=> nB TF_82_7 H fun _ _ H=> vl_n <| H_store1 TS_80 H fun h H=> ?_; refine vl_e ?_; refine WPc_seq (fun e h=> z1h_.j5 (e 0) (e 3) h K1 Q ∧ [e1 0] = [e 0]) ?_ (fun e h ⟨H, hq1⟩=> ?_)
     rotate_left
     · unfold z1h_.j5 at H
       refine W_drawn [0,1,3,7,0,16,48,112,240,496,1008,0,2048,6144,14336,32767,65535] (Tk 0<|Tk 1<|Tk 2<|Tk 3<|Tk 4<|Tk 5<|Tk 6<|Tk 7<|Tk 8<|Tk 9<|Tk 10<|Tk 11<|Tk 12<|Tk 13<|Tk 14<|Al 15<|Tk 16 .done) mixed (by kernel_rfl) <| pM (e 0) rfl rfl<|pT rfl rfl rfl TF_82_0 T1_74 H fun _ _ _ _ _ H=> pM (e 3) rfl rfl<|pT rfl rfl rfl TF_167_3 T1_165 H fun _ _ _ _ _ H=> pP rfl R_nil H fun _ H=> pL rfl T1_168 H fun _ _ _ H=> pP rfl (R_idx TE_168) H fun _ H=> pM (e 0) rfl rfl<|pP rfl R_nil H fun _ H=> ?_; refine pP rfl (R_fld TF_82_1) H fun _ H=> pL rfl T1_4 H fun _ _ _ H=> aE rfl<|H_call HB_103 H fun t78 h H=> ⟨(hskip rfl (hskip rfl (hskip rfl (hskip rfl hnil)))), pS t78 rfl rfl<|vp_done ?_⟩
       exact ⟨H, hq1⟩
     refine sR <| nM (e1 3) rfl<|vl_n <| H_call HB_104 H fun _ h H=> vl_e ?_; refine cI H (fun H=> ?_) fun H=> ?_
     · refine WPc_exit ?_
       exact H
     · refine WPc_skip ?_
       exact ⟨H, rfl⟩
   refine sR <| nM (e 0) rfl<|nT TF_82_0 T1_74 H fun _ _ _ H=> nT TF_162_2 T1_76 H fun _ _ _ H=> nP (R_eqNilP Tryz.underlying76 rfl) H fun _ H=> vl_e ?_; refine cI H (fun H=> ?_) fun H=> ?_
   · exact sR <| nS (.bool false) rfl<|vl_e <| WPc_ret <| resH_of rfl<|H
   · exact WPc_skip <| H
 refine sR <| nM a0 rfl<|nT TF_82_0 T1_74 H fun _ _ _ H=> nP (R_eqNilP Tryz.underlying74 rfl) H fun _ H=> vl_e ?_; refine cI H (fun H=> ?_) fun H=> ?_
 · exact sR <| nS (.bool false) rfl<|vl_e <| WPc_ret <| resH_of rfl<|H
 · exact WPc_skip <| H
def z1r_.j4 (s0 : Value) (h : Heap) (Q : Value → Heap → Prop) : Prop := nilck s0 fun b=>fld 14 b fun d=>load1 d h fun g=>nilck s0 fun i=>fld 14 i fun j=>load1 j h fun k=>lenV k fun l=>arith (· - ·) l (.int .i64 1) fun m=>idx 2 g m fun n=>nilck n fun o=>fld 0 o fun p=>load1 p h fun q=>nilck q fun u=>fld 2 u fun v=>load1 v h fun w=>nilck n fun x=>fld 1 x fun y=>load1 y h fun z=>idx 2 w z fun b0=>loadN 2 b0 h fun b1=>nilck s0 fun b2=>fld 15 b2 fun b3=>storeN 2 b3 b1 h fun h=>Q (.bool true) h
def z1r_.j6 (s0 : Value) (h : Heap) (K1 : List Value → Heap → Prop) (Q : Value → Heap → Prop) : Prop := nilck s0 fun b=>fld 14 b fun d=>load1 d h fun g=>nilck s0 fun i=>fld 14 i fun j=>load1 j h fun k=>lenV k fun l=>arith (· - ·) l (.int .i64 1) fun m=>idx 2 g m fun n=>nilck n fun o=>fld 1 o fun p=>load1 p h fun q=>nilck n fun u=>fld 0 u fun v=>load1 v h fun w=>nilck w fun x=>fld 2 x fun y=>load1 y h fun z=>lenV z fun b0=>cmpI (fun a b=> decide (a < b)) q b0 fun b1=>ifV b1 (z1r_.j4 s0 h Q) (K1 [] h)
def z1r_.l5.b (c0 : Value) (h : Heap) (K1 : List Value → Heap → Prop) (Q : Value → Heap → Prop) : Prop := nilck c0 fun b=>fld 14 b fun d=>load1 d h fun g=>nilck c0 fun i=>fld 14 i fun j=>load1 j h fun k=>lenV k fun l=>arith (· - ·) l (.int .i64 1) fun m=>slc 2 g none (some m) none fun n=>nilck c0 fun o=>fld 14 o fun p=>store1 p n h fun h=>nilck c0 fun q=>fld 14 q fun u=>load1 u h fun v=>lenV v fun w=>cmpI (fun a b=> a == b) w (.int .i64 0) fun x=>ifV x (nilck c0 fun y=>fld 5 y fun z=>store1 z (.bool true) h fun h=>Q (.bool false) h) (z1r_.j6 c0 h K1 Q)
def z1r_.j8 (s0 s4 : Value) (h : Heap) (K1 : List Value → Heap → Prop) (Q : Value → Heap → Prop) : Prop := nilck s0 fun b=>fld 0 b fun d=>load1 d h fun g=>nilck s4 fun i=>fld 3 i fun j=>load1 j h fun k=>nilck k fun l=>load1 l h fun m=>idx 1 m (.int .i64 0) fun n=>nilck s0 fun o=>fld 1 o fun p=>load1 p h fun q=>z0l_.call #[g, n, q] h fun u h=>K1 [u] h
def z1r_.l7.b (c0 s4 : Value) (h : Heap) (K1 : List Value → Heap → Prop) (Q : Value → Heap → Prop) : Prop := nilck c0 fun b=>fld 14 b fun d=>load1 d h fun g=>buildV [(.pointer none), (.int .i64 0)] [(0, 1, s4), (1, 1, (.int .i64 0))] fun i=>mkSl (if 1 * 2 = 0 then [] else zeros [(.pointer none), (.int .i64 0)] 1) 1 [(0 * 2, 2, i)] 78 h fun j h=>app 78 2 16 [(.pointer none), (.int .i64 0)] g j h fun k h=>nilck c0 fun l=>fld 14 l fun m=>store1 m k h fun h=>z20_.call #[s4] h fun n h=>ifV n (z1r_.j4 c0 h Q) (z1r_.j8 c0 s4 h K1 Q)
def z1r_.j3 (s0 : Value) (h : Heap) (Q : Value → Heap → Prop) : Prop := nilck s0 fun b=>fld 14 b fun d=>load1 d h fun g=>nilck s0 fun i=>fld 14 i fun j=>load1 j h fun k=>lenV k fun l=>arith (· - ·) l (.int .i64 1) fun m=>idx 2 g m fun n=>nilck n fun o=>fld 1 o fun p=>load1 p h fun q=>arith (· + ·) q (.int .i64 1) fun u=>nilck n fun v=>fld 1 v fun w=>store1 w u h fun h=>nilck n fun x=>fld 0 x fun y=>load1 y h fun z=>z20_.call #[z] h fun b0 h=>ifV b0 (nilck n fun b1=>fld 1 b1 fun b2=>load1 b2 h fun b3=>nilck n fun b4=>fld 0 b4 fun b5=>load1 b5 h fun b6=>nilck b6 fun b7=>fld 2 b7 fun b8=>load1 b8 h fun b9=>lenV b9 fun d0=>cmpI (fun a b=> a == b) b3 d0 fun d1=>ifV d1 (loopC (fun c s h K1=> z1r_.l5.b (c.getD 0 undef) h K1 Q) [s0] [] h) (z1r_.j4 s0 h Q)) (nilck s0 fun d2=>fld 0 d2 fun d3=>load1 d3 h fun d4=>nilck n fun d5=>fld 0 d5 fun d6=>load1 d6 h fun d7=>nilck d7 fun d8=>fld 3 d8 fun d9=>load1 d9 h fun g0=>nilck g0 fun g1=>load1 g1 h fun g2=>nilck n fun g3=>fld 1 g3 fun g4=>load1 g4 h fun g5=>idx 1 g2 g5 fun g6=>nilck s0 fun g7=>fld 1 g7 fun g8=>load1 g8 h fun g9=>z0l_.call #[d4, g6, g9] h fun i0 h=>loopC (fun c s h K1=> z1r_.l7.b (c.getD 0 undef) (s.getD 0 undef) h K1 Q) [s0] [i0] h)
def z1r_.j9 (h : Heap) (Q : Value → Heap → Prop) : Prop := Q (.bool false) h
def z1r_.j2 (s0 : Value) (h : Heap) (Q : Value → Heap → Prop) : Prop := nilck s0 fun b=>fld 14 b fun d=>load1 d h fun g=>lenV g fun i=>cmpI (fun a b=> a == b) i (.int .i64 0) fun j=>ifV j (nilck s0 fun k=>fld 4 k fun l=>load1 l h fun m=>ifV m (z1h_.call #[s0] h fun n h=>br n true (z1r_.call #[s0] h fun o h=>Q o h) (Q (.bool false) h)) (z1r_.j9 h Q)) (z1r_.j3 s0 h Q)
def z1r_.j1 (s0 : Value) (h : Heap) (Q : Value → Heap → Prop) : Prop := nilck s0 fun b=>fld 3 b fun d=>load1 d h fun g=>notV g fun i=>ifV i (z1h_.call #[s0] h fun j h=>Q j h) (z1r_.j2 s0 h Q)
def z1r_.sh (a0 : Value) (h : Heap) (Q : Value → Heap → Prop) : Prop := nilck a0 fun b=>fld 0 b fun d=>load1 d h fun g=>eqNilP g fun i=>ifV i (Q (.bool false) h) (z1r_.j1 a0 h Q)
theorem z1r_.body (a0 : Value) (h : Heap) (Q : Value → Heap → Prop) (H : z1r_.sh a0 h Q) : z1r_.call #[a0] h Q := by
 refine callsH_of (args := [a0]) Tryz.func94 rfl rfl ?_; unfold z1r_.sh at H; refine sR <| nS (.bool false) rfl<|vl_e ?_; refine WPc_seq (fun e h=> z1r_.j1 (e 0) h Q) ?_ (fun e h H=> ?_)
 rotate_left
 · unfold z1r_.j1 at H
   refine WPc_seq (fun e h=> z1r_.j2 (e 0) h Q) ?_ (fun e h H=> ?_)
   rotate_left
   · unfold z1r_.j2 at H
     refine WPc_seq (fun e h=> z1r_.j3 (e 0) h Q) ?_ (fun e h H=> ?_)
     rotate_left
     · unfold z1r_.j3 at H
       refine WPc_seq' <| W_drawn [0,1,3,7,0,16,48,112,240,496,1023,2047] (Tk 0<|Tk 1<|Tk 2<|Tk 3<|Tk 4<|Tk 5<|Tk 6<|Tk 7<|Tk 8<|Tk 9<|Tk 10<|Tk 11 .done) mixed (by kernel_rfl) <| pM (e 0) rfl rfl<|pT rfl rfl rfl TF_82_7 T1_80 H fun _ _ _ _ _ H=> pM (e 0) rfl rfl<|pT rfl rfl rfl TF_82_7 T1_80 H fun _ _ _ _ _ H=> pP rfl (R_len Tryz.underlying80) H fun _ H=> pP rfl R_sub H fun _ H=> pP rfl (R_idx TE_80) H fun t43 H=> pS t43 rfl rfl ?_; refine vp_done <| sR <| nM t43 rfl<|nT TF_78_1 T1_3 H fun _ _ _ H=> nP R_add H fun _ H=> nB TF_78_1 H fun _ _ H=> vl_n <| H_store1 TS_3 H fun h H=> vl_e ?_; refine WPc_seq (fun e h=> z1r_.j4 (e 0) h Q) ?_ (fun e h H=> ?_)
       rotate_left
       · unfold z1r_.j4 at H
         refine WPc_seq' <| W_drawn [0,1,3,7,0,16,48,112,240,496,1023,2047] (Tk 0<|Tk 1<|Tk 2<|Tk 3<|Tk 4<|Tk 5<|Tk 6<|Tk 7<|Tk 8<|Tk 9<|Tk 10<|Tk 11 .done) mixed (by kernel_rfl) <| pM (e 0) rfl rfl<|pT rfl rfl rfl TF_82_7 T1_80 H fun _ _ _ _ _ H=> pM (e 0) rfl rfl<|pT rfl rfl rfl TF_82_7 T1_80 H fun _ _ _ _ _ H=> pP rfl (R_len Tryz.underlying80) H fun _ H=> pP rfl R_sub H fun _ H=> pP rfl (R_idx TE_80) H fun t178 H=> pS t178 rfl rfl ?_; refine vp_done <| WPc_seq' <| W_drawn [0,0,2,6,14,30,62,126,0,256,768,1792,4094,8190,16383,32767,65535] (Tk 0<|Tk 1<|Tk 2<|Tk 3<|Tk 4<|Tk 5<|Tk 6<|Tk 7<|Tk 8<|Tk 9<|Tk 10<|Tk 11<|Tk 12<|Tk 13<|Tk 14<|Tk 15<|Al 16 .done) mixed (by kernel_rfl) <| pM (e 0) rfl rfl<|pM t178 rfl rfl<|pT rfl rfl rfl TF_78_0 T1_76 H fun _ _ _ _ _ H=> pT rfl rfl rfl TF_167_2 T1_25 H fun _ _ _ _ _ H=> pM t178 rfl rfl<|pB rfl rfl TF_78_1 H fun _ _ H=> ?_; exact pL rfl T1_3 H fun _ _ _ H=> pP rfl (R_idx TE_25) H fun _ H=> tkL rfl<|R_loadN TN_45 H fun _ _ _ _ H _ _=> pB rfl rfl TF_82_8 H fun _ _ H=> aE rfl<|H_storeN TS_45 H fun h H=> ⟨(hskip rfl (hskip rfl (hskip rfl (hskip rfl hnil)))), vp_done <| sR <| nS (.bool true) rfl<|vl_e <| WPc_ret <| resH_of rfl<|H⟩
       refine sR <| nM t43 rfl<|nT TF_78_0 T1_76 H fun _ _ _ H=> vl_n <| H_call HB_104 H fun _ h H=> vl_e ?_; refine cI H (fun H=> ?_) fun H=> ?_
       · refine WPc_seq' <| W_drawn [0,1,3,7,0,16,48,112,240,496,1008,2032,4095] (Tk 0<|Tk 1<|Tk 2<|Tk 3<|Tk 4<|Tk 5<|Tk 6<|Tk 7<|Tk 8<|Tk 9<|Tk 10<|Tk 11<|Tk 12 .done) mixed (by kernel_rfl) <| pM t43 rfl rfl<|pT rfl rfl rfl TF_78_1 T1_3 H fun _ _ _ _ _ H=> pM t43 rfl rfl<|pT rfl rfl rfl TF_78_0 T1_76 H fun _ _ _ _ _ H=> pT rfl rfl rfl TF_167_2 T1_25 H fun _ _ _ _ _ H=> pP rfl (R_len Tryz.underlying25) H fun _ H=> ?_
         refine pP rfl R_eqI H fun _ H=> vp_done ?_; refine cI H (fun H=> ?_) fun H=> ?_
         · refine WPc_block ?_
           refine loop_at (fun e=> []) (fun e=> [e 0]) H rfl rfl ?_; intro K1 e1 h H hin1
           replace H : z1r_.l5.b (e1 0) h K1 Q := H
           unfold z1r_.l5.b at H; clear hin1; refine WPc_block <| WPc_seq' <| W_drawn [0,0,2,6,14,0,32,96,224,480,992,2046,4095,8191,16383] (Tk 0<|Tk 1<|Tk 2<|Tk 3<|Tk 4<|Tk 5<|Tk 6<|Tk 7<|Tk 8<|Tk 9<|Tk 10<|Tk 11<|Tk 12<|Tk 13<|Al 14 .done) mixed (by kernel_rfl) <| pM (e1 0) rfl rfl<|pM (e1 0) rfl rfl<|pT rfl rfl rfl TF_82_7 T1_80 H fun _ _ _ _ _ H=> pM (e1 0) rfl rfl<|pT rfl rfl rfl TF_82_7 T1_80 H fun _ _ _ _ _ H=> pP rfl (R_len Tryz.underlying80) H fun _ H=> pP rfl R_sub H fun _ H=> ?_; refine pP rfl (R_slice TE_80 (by decide)) H fun _ H=> pB rfl rfl TF_82_7 H fun _ _ H=> aE rfl<|H_store1 TS_80 H fun h H=> ⟨(hskip rfl (hskip rfl hnil)), vp_done ?_⟩
           refine WPc_seq (fun e h=> z1r_.j6 (e 0) h K1 Q ∧ [e1 0] = [e 0]) ?_ (fun e h ⟨H, hq1⟩=> ?_)
           rotate_left
           · unfold z1r_.j6 at H
             refine WPc_seq' <| W_drawn [0,1,3,7,0,16,48,112,240,496,1023,2047] (Tk 0<|Tk 1<|Tk 2<|Tk 3<|Tk 4<|Tk 5<|Tk 6<|Tk 7<|Tk 8<|Tk 9<|Tk 10<|Tk 11 .done) mixed (by kernel_rfl) <| pM (e 0) rfl rfl<|pT rfl rfl rfl TF_82_7 T1_80 H fun _ _ _ _ _ H=> pM (e 0) rfl rfl<|pT rfl rfl rfl TF_82_7 T1_80 H fun _ _ _ _ _ H=> pP rfl (R_len Tryz.underlying80) H fun _ H=> pP rfl R_sub H fun _ H=> pP rfl (R_idx TE_80) H fun t102 H=> pS t102 rfl rfl ?_; refine vp_done <| WPc_seq' <| W_drawn [0,1,3,7,0,16,48,112,240,496,1008,2032,4095] (Tk 0<|Tk 1<|Tk 2<|Tk 3<|Tk 4<|Tk 5<|Tk 6<|Tk 7<|Tk 8<|Tk 9<|Tk 10<|Tk 11<|Tk 12 .done) mixed (by kernel_rfl) <| pM t102 rfl rfl<|pT rfl rfl rfl TF_78_1 T1_3 H fun _ _ _ _ _ H=> pM t102 rfl rfl<|pT rfl rfl rfl TF_78_0 T1_76 H fun _ _ _ _ _ H=> pT rfl rfl rfl TF_167_2 T1_25 H fun _ _ _ _ _ H=> ?_; refine pP rfl (R_len Tryz.underlying25) H fun _ H=> pP rfl R_lss H fun _ H=> vp_done ?_; refine cI H (fun H=> ?_) fun H=> ?_
             · refine WPc_exit ?_
               exact H
             · refine WPc_skip ?_
               exact ⟨H, hq1⟩
           refine sR <| nM (e1 0) rfl<|nT TF_82_7 T1_80 H fun _ _ _ H=> nP (R_len Tryz.underlying80) H fun _ H=> nP R_eqI H fun _ H=> vl_e ?_; refine cI H (fun H=> ?_) fun H=> ?_
           · exact sR <| nM (e1 0) rfl<|nB TF_82_5 H fun _ _ H=> vl_n <| H_store1 TS_4 H fun h H=> vl_e <| sR <| nS (.bool false) rfl<|vl_e <| WPc_ret <| resH_of rfl<|H
           · refine WPc_skip ?_
             exact ⟨H, rfl⟩
         · exact WPc_skip <| H
       · refine WPc_seq' <| W_drawn [0,1,3,7,0,16,48,112,240,496,1008,2032,4080,0,8192,24576,57344,131056,0,262144,786432,1835008,4194303,8388607] (Tk 0<|Tk 1<|Tk 2<|Tk 3<|Tk 4<|Tk 5<|Tk 6<|Tk 7<|Tk 8<|Tk 9<|Tk 10<|Tk 11<|Tk 12<|Tk 13<|Tk 14<|Tk 15<|Tk 16<|Tk 17<|Tk 18<|Tk 19<|Tk 20<|Tk 21<|Al 22<|Tk 23 .done) mixed (by kernel_rfl) <| pM (e 0) rfl rfl<|pT rfl rfl rfl TF_82_0 T1_74 H fun _ _ _ _ _ H=> pM t43 rfl rfl<|pT rfl rfl rfl TF_78_0 T1_76 H fun _ _ _ _ _ H=> pT rfl rfl rfl TF_167_3 T1_165 H fun _ _ _ _ _ H=> pP rfl R_nil H fun _ H=> ?_
         refine pL rfl T1_168 H fun _ _ _ H=> pM t43 rfl rfl<|pT rfl rfl rfl TF_78_1 T1_3 H fun _ _ _ _ _ H=> pP rfl (R_idx TE_168) H fun _ H=> pM (e 0) rfl rfl<|pT rfl rfl rfl TF_82_1 T1_4 H fun _ _ _ _ _ H=> aE rfl<|H_call HB_103 H fun t138 h H=> ⟨(hskip rfl (hskip rfl (hskip rfl (hskip rfl (hskip rfl (hskip rfl hnil)))))), pS t138 rfl rfl<|vp_done <| WPc_block ?_⟩
         refine loop_at (fun e=> [e 4]) (fun e=> [e 0]) H rfl rfl ?_; intro K1 e1 h H hin1
         replace H : z1r_.l7.b (e1 0) (e1 4) h K1 Q := H
         unfold z1r_.l7.b at H; clear hin1; refine WPc_block <| sR <| nM (e1 0) rfl<|nM (e1 0) rfl<|nT TF_82_7 T1_80 H fun _ _ _ H=> nM (e1 4) rfl<|nP (R_build TB_78 rfl (by decide)) H fun _ H=> vl_n <| H_mkSl TZ_80 (by decide) rfl H rfl fun _ h H=> vl_n <| H_app TZ_80 TU_80 H fun _ h H=> nB TF_82_7 H fun _ _ H=> vl_n <| H_store1 TS_80 H fun h H=> ?_; refine vl_e ?_; refine WPc_seq (fun e h=> z1r_.j8 (e 0) (e 4) h K1 Q ∧ [e1 0] = [e 0]) ?_ (fun e h ⟨H, hq1⟩=> ?_)
         rotate_left
         · unfold z1r_.j8 at H
           refine W_drawn [0,1,3,7,0,16,48,112,240,496,1008,0,2048,6144,14336,32767,65535] (Tk 0<|Tk 1<|Tk 2<|Tk 3<|Tk 4<|Tk 5<|Tk 6<|Tk 7<|Tk 8<|Tk 9<|Tk 10<|Tk 11<|Tk 12<|Tk 13<|Tk 14<|Al 15<|Tk 16 .done) mixed (by kernel_rfl) <| pM (e 0) rfl rfl<|pT rfl rfl rfl TF_82_0 T1_74 H fun _ _ _ _ _ H=> pM (e 4) rfl rfl<|pT rfl rfl rfl TF_167_3 T1_165 H fun _ _ _ _ _ H=> pP rfl R_nil H fun _ H=> pL rfl T1_168 H fun _ _ _ H=> pP rfl (R_idx TE_168) H fun _ H=> pM (e 0) rfl rfl<|pP rfl R_nil H fun _ H=> ?_; refine pP rfl (R_fld TF_82_1) H fun _ H=> pL rfl T1_4 H fun _ _ _ H=> aE rfl<|H_call HB_103 H fun t167 h H=> ⟨(hskip rfl (hskip rfl (hskip rfl (hskip rfl hnil)))), pS t167 rfl rfl<|vp_done ?_⟩
           exact ⟨H, hq1⟩
         refine sR <| nM (e1 4) rfl<|vl_n <| H_call HB_104 H fun _ h H=> vl_e ?_; refine cI H (fun H=> ?_) fun H=> ?_
         · refine WPc_exit ?_
           exact H
         · refine WPc_skip ?_
           exact ⟨H, rfl⟩
     refine sR <| nM (e 0) rfl<|nT TF_82_7 T1_80 H fun _ _ _ H=> nP (R_len Tryz.underlying80) H fun _ H=> nP R_eqI H fun _ H=> vl_e ?_; refine cI H (fun H=> ?_) fun H=> ?_
     · refine WPc_seq (fun e h=> z1r_.j9 h Q) ?_ (fun e h H=> ?_)
       rotate_left
       · unfold z1r_.j9 at H
         exact sR <| nS (.bool false) rfl<|vl_e <| WPc_ret <| resH_of rfl<|H
       refine sR <| nM (e 0) rfl<|nT TF_82_4 T1_4 H fun _ _ _ H=> vl_e ?_; refine cI H (fun H=> ?_) fun H=> ?_
       · refine sR <| nM (e 0) rfl<|vl_n <| H_call HB_98 H fun t28 h H=> nM t28 rfl ?_
         obtain ⟨b_3, hb, H1, H2⟩ := H
         cases b_3
         · have H := H2 rfl
           clear H1 H2; refine vl_s rfl (nbT hb) ?_; refine vl_s rfl (nbT hb) ?_; exact nA (R_pickC (v := (.bool false)) false hb rfl) <| nS (.bool false) rfl<|vl_e <| WPc_ret <| resH_of rfl<|H
         · have H := H1 rfl
           clear H1 H2; refine vl_y rfl hb ?_; refine H_of_R (R_move (v := (e 0)) rfl ?_)
           refine vl_y rfl hb ?_; refine H_call HB_94 H fun t31 h H=> ?_; exact nA (R_pickC (v := t31) true hb rfl) <| nS t31 rfl<|vl_e <| WPc_ret <| resH_of rfl<|H
       · exact WPc_skip <| H
     · exact WPc_skip <| H
   refine sR <| nM (e 0) rfl<|nT TF_82_3 T1_4 H fun _ _ _ H=> nP R_not H fun _ H=> vl_e ?_; refine cI H (fun H=> ?_) fun H=> ?_
   · exact sR <| nM (e 0) rfl<|vl_n <| H_call HB_98 H fun t16 h H=> nS t16 rfl<|vl_e <| WPc_ret <| resH_of rfl<|H
   · exact WPc_skip <| H
 refine sR <| nM a0 rfl<|nT TF_82_0 T1_74 H fun _ _ _ H=> nP (R_eqNilP Tryz.underlying74 rfl) H fun _ H=> vl_e ?_; refine cI H (fun H=> ?_) fun H=> ?_
 · exact sR <| nS (.bool false) rfl<|vl_e <| WPc_ret <| resH_of rfl<|H
 · exact WPc_skip <| H
def z1s_.j4 (s0 : Value) (h : Heap) (Q : Value → Heap → Prop) : Prop := nilck s0 fun b=>fld 14 b fun d=>load1 d h fun g=>nilck s0 fun i=>fld 14 i fun j=>load1 j h fun k=>lenV k fun l=>arith (· - ·) l (.int .i64 1) fun m=>idx 2 g m fun n=>nilck n fun o=>fld 0 o fun p=>load1 p h fun q=>nilck q fun u=>fld 2 u fun v=>load1 v h fun w=>nilck n fun x=>fld 1 x fun y=>load1 y h fun z=>idx 2 w z fun b0=>loadN 2 b0 h fun b1=>nilck s0 fun b2=>fld 15 b2 fun b3=>storeN 2 b3 b1 h fun h=>Q (.bool true) h
def z1s_.j6 (s0 : Value) (h : Heap) (K1 : List Value → Heap → Prop) (Q : Value → Heap → Prop) : Prop := nilck s0 fun b=>fld 14 b fun d=>load1 d h fun g=>nilck s0 fun i=>fld 14 i fun j=>load1 j h fun k=>lenV k fun l=>arith (· - ·) l (.int .i64 1) fun m=>idx 2 g m fun n=>nilck n fun o=>fld 1 o fun p=>load1 p h fun q=>arith (· - ·) q (.int .i64 1) fun u=>nilck n fun v=>fld 1 v fun w=>store1 w u h fun h=>nilck n fun x=>fld 1 x fun y=>load1 y h fun z=>cmpI (fun a b=> decide (a > b)) z (.int .i64 (-1)) fun b0=>ifV b0 (z1s_.j4 s0 h Q) (K1 [] h)
def z1s_.l5.b (c0 : Value) (h : Heap) (K1 : List Value → Heap → Prop) (Q : Value → Heap → Prop) : Prop := nilck c0 fun b=>fld 14 b fun d=>load1 d h fun g=>nilck c0 fun i=>fld 14 i fun j=>load1 j h fun k=>lenV k fun l=>arith (· - ·) l (.int .i64 1) fun m=>slc 2 g none (some m) none fun n=>nilck c0 fun o=>fld 14 o fun p=>store1 p n h fun h=>nilck c0 fun q=>fld 14 q fun u=>load1 u h fun v=>lenV v fun w=>cmpI (fun a b=> a == b) w (.int .i64 0) fun x=>ifV x (nilck c0 fun y=>fld 4 y fun z=>store1 z (.bool true) h fun h=>Q (.bool false) h) (z1s_.j6 c0 h K1 Q)
def z1s_.j8 (s0 s4 : Value) (h : Heap) (K1 : List Value → Heap → Prop) (Q : Value → Heap → Prop) : Prop := nilck s0 fun b=>fld 0 b fun d=>load1 d h fun g=>nilck s4 fun i=>fld 3 i fun j=>load1 j h fun k=>nilck k fun l=>load1 l h fun m=>nilck s4 fun n=>fld 2 n fun o=>load1 o h fun p=>lenV p fun q=>idx 1 m q fun u=>nilck s0 fun v=>fld 1 v fun w=>load1 w h fun x=>z0l_.call #[g, u, x] h fun y h=>K1 [y] h
def z1s_.l7.b (c0 s4 : Value) (h : Heap) (K1 : List Value → Heap → Prop) (Q : Value → Heap → Prop) : Prop := nilck c0 fun b=>fld 14 b fun d=>load1 d h fun g=>nilck s4 fun i=>fld 2 i fun j=>load1 j h fun k=>lenV k fun l=>buildV [(.pointer none), (.int .i64 0)] [(0, 1, s4), (1, 1, l)] fun m=>mkSl (if 1 * 2 = 0 then [] else zeros [(.pointer none), (.int .i64 0)] 1) 1 [(0 * 2, 2, m)] 78 h fun n h=>still1 d g h ∧ app 78 2 16 [(.pointer none), (.int .i64 0)] g n h fun o h=>nilck c0 fun p=>fld 14 p fun q=>store1 q o h fun h=>z20_.call #[s4] h fun u h=>ifV u (nilck c0 fun v=>fld 14 v fun w=>load1 w h fun x=>nilck c0 fun y=>fld 14 y fun z=>load1 z h fun b0=>lenV b0 fun b1=>arith (· - ·) b1 (.int .i64 1) fun b2=>idx 2 x b2 fun b3=>fld 1 b3 fun b4=>load1 b4 h fun b5=>arith (· - ·) b5 (.int .i64 1) fun b6=>idx 2 x b2 fun b7=>fld 1 b7 fun b8=>store1 b8 b6 h fun h=>z1s_.j4 c0 h Q) (z1s_.j8 c0 s4 h K1 Q)
def z1s_.j3 (s0 : Value) (h : Heap) (Q : Value → Heap → Prop) : Prop := nilck s0 fun b=>fld 14 b fun d=>load1 d h fun g=>nilck s0 fun i=>fld 14 i fun j=>load1 j h fun k=>lenV k fun l=>arith (· - ·) l (.int .i64 1) fun m=>idx 2 g m fun n=>nilck n fun o=>fld 0 o fun p=>load1 p h fun q=>z20_.call #[q] h fun u h=>ifV u (nilck n fun v=>fld 1 v fun w=>load1 w h fun x=>arith (· - ·) x (.int .i64 1) fun y=>nilck n fun z=>fld 1 z fun b0=>store1 b0 y h fun h=>nilck n fun b1=>fld 1 b1 fun b2=>load1 b2 h fun b3=>cmpI (fun a b=> a == b) b3 (.int .i64 (-1)) fun b4=>ifV b4 (loopC (fun c s h K1=> z1s_.l5.b (c.getD 0 undef) h K1 Q) [s0] [] h) (z1s_.j4 s0 h Q)) (nilck s0 fun b5=>fld 0 b5 fun b6=>load1 b6 h fun b7=>nilck n fun b8=>fld 0 b8 fun b9=>load1 b9 h fun d0=>nilck d0 fun d1=>fld 3 d1 fun d2=>load1 d2 h fun d3=>nilck d3 fun d4=>load1 d4 h fun d5=>nilck n fun d6=>fld 1 d6 fun d7=>load1 d7 h fun d8=>idx 1 d5 d8 fun d9=>nilck s0 fun g0=>fld 1 g0 fun g1=>load1 g1 h fun g2=>z0l_.call #[b7, d9, g2] h fun g3 h=>loopC (fun c s h K1=> z1s_.l7.b (c.getD 0 undef) (s.getD 0 undef) h K1 Q) [s0] [g3] h)
def z1s_.j9 (h : Heap) (Q : Value → Heap → Prop) : Prop := Q (.bool false) h
def z1s_.j2 (s0 : Value) (h : Heap) (Q : Value → Heap → Prop) : Prop := nilck s0 fun b=>fld 14 b fun d=>load1 d h fun g=>lenV g fun i=>cmpI (fun a b=> a == b) i (.int .i64 0) fun j=>ifV j (nilck s0 fun k=>fld 5 k fun l=>load1 l h fun m=>ifV m (z1q_.call #[s0] h fun n h=>br n true (z1s_.call #[s0] h fun o h=>Q o h) (Q (.bool false) h)) (z1s_.j9 h Q)) (z1s_.j3 s0 h Q)
def z1s_.j1 (s0 : Value) (h : Heap) (Q : Value → Heap → Prop) : Prop := nilck s0 fun b=>fld 3 b fun d=>load1 d h fun g=>notV g fun i=>ifV i (Q (.bool false) h) (z1s_.j2 s0 h Q)
def z1s_.sh (a0 : Value) (h : Heap) (Q : Value → Heap → Prop) : Prop := nilck a0 fun b=>fld 0 b fun d=>load1 d h fun g=>eqNilP g fun i=>ifV i (Q (.bool false) h) (z1s_.j1 a0 h Q)
theorem z1s_.body (a0 : Value) (h : Heap) (Q : Value → Heap → Prop) (H : z1s_.sh a0 h Q) : z1s_.call #[a0] h Q := by
 refine callsH_of (args := [a0]) Tryz.func95 rfl rfl ?_; unfold z1s_.sh at H; refine sR <| nS (.bool false) rfl<|vl_e ?_; refine WPc_seq (fun e h=> z1s_.j1 (e 0) h Q) ?_ (fun e h H=> ?_)
 rotate_left
 · unfold z1s_.j1 at H
   refine WPc_seq (fun e h=> z1s_.j2 (e 0) h Q) ?_ (fun e h H=> ?_)
   rotate_left
   · unfold z1s_.j2 at H
     refine WPc_seq (fun e h=> z1s_.j3 (e 0) h Q) ?_ (fun e h H=> ?_)
     rotate_left
     · unfold z1s_.j3 at H
       refine WPc_seq' <| W_drawn [0,1,3,7,0,16,48,112,240,496,1023,2047] (Tk 0<|Tk 1<|Tk 2<|Tk 3<|Tk 4<|Tk 5<|Tk 6<|Tk 7<|Tk 8<|Tk 9<|Tk 10<|Tk 11 .done) mixed (by kernel_rfl) <| pM (e 0) rfl rfl<|pT rfl rfl rfl TF_82_7 T1_80 H fun _ _ _ _ _ H=> pM (e 0) rfl rfl<|pT rfl rfl rfl TF_82_7 T1_80 H fun _ _ _ _ _ H=> pP rfl (R_len Tryz.underlying80) H fun _ H=> pP rfl R_sub H fun _ H=> pP rfl (R_idx TE_80) H fun t41 H=> pS t41 rfl rfl ?_; refine vp_done ?_; refine WPc_seq (fun e h=> z1s_.j4 (e 0) h Q) ?_ (fun e h H=> ?_)
       rotate_left
       · unfold z1s_.j4 at H
         refine WPc_seq' <| W_drawn [0,1,3,7,0,16,48,112,240,496,1023,2047] (Tk 0<|Tk 1<|Tk 2<|Tk 3<|Tk 4<|Tk 5<|Tk 6<|Tk 7<|Tk 8<|Tk 9<|Tk 10<|Tk 11 .done) mixed (by kernel_rfl) <| pM (e 0) rfl rfl<|pT rfl rfl rfl TF_82_7 T1_80 H fun _ _ _ _ _ H=> pM (e 0) rfl rfl<|pT rfl rfl rfl TF_82_7 T1_80 H fun _ _ _ _ _ H=> pP rfl (R_len Tryz.underlying80) H fun _ H=> pP rfl R_sub H fun _ H=> pP rfl (R_idx TE_80) H fun t193 H=> pS t193 rfl rfl ?_; refine vp_done <| WPc_seq' <| W_drawn [0,0,2,6,14,30,62,126,0,256,768,1792,4094,8190,16383,32767,65535] (Tk 0<|Tk 1<|Tk 2<|Tk 3<|Tk 4<|Tk 5<|Tk 6<|Tk 7<|Tk 8<|Tk 9<|Tk 10<|Tk 11<|Tk 12<|Tk 13<|Tk 14<|Tk 15<|Al 16 .done) mixed (by kernel_rfl) <| pM (e 0) rfl rfl<|pM t193 rfl rfl<|pT rfl rfl rfl TF_78_0 T1_76 H fun _ _ _ _ _ H=> pT rfl rfl rfl TF_167_2 T1_25 H fun _ _ _ _ _ H=> pM t193 rfl rfl<|pB rfl rfl TF_78_1 H fun _ _ H=> ?_; exact pL rfl T1_3 H fun _ _ _ H=> pP rfl (R_idx TE_25) H fun _ H=> tkL rfl<|R_loadN TN_45 H fun _ _ _ _ H _ _=> pB rfl rfl TF_82_8 H fun _ _ H=> aE rfl<|H_storeN TS_45 H fun h H=> ⟨(hskip rfl (hskip rfl (hskip rfl (hskip rfl hnil)))), vp_done <| sR <| nS (.bool true) rfl<|vl_e <| WPc_ret <| resH_of rfl<|H⟩
       refine sR <| nM t41 rfl<|nT TF_78_0 T1_76 H fun _ _ _ H=> vl_n <| H_call HB_104 H fun _ h H=> vl_e ?_; refine cI H (fun H=> ?_) fun H=> ?_
       · refine sR <| nM t41 rfl<|nT TF_78_1 T1_3 H fun _ _ _ H=> nP R_sub H fun _ H=> nB TF_78_1 H fun _ _ H=> vl_n <| H_store1 TS_3 H fun h H=> vl_e <| sR <| nM t41 rfl<|nB TF_78_1 H fun _ _ H=> ?_
         refine nL T1_3 H fun _ H=> nP R_eqI H fun _ H=> vl_e ?_; refine cI H (fun H=> ?_) fun H=> ?_
         · refine WPc_block ?_
           refine loop_at (fun e=> []) (fun e=> [e 0]) H rfl rfl ?_; intro K1 e1 h H hin1
           replace H : z1s_.l5.b (e1 0) h K1 Q := H
           unfold z1s_.l5.b at H; clear hin1; refine WPc_block <| WPc_seq' <| W_drawn [0,0,2,6,14,0,32,96,224,480,992,2046,4095,8191,16383] (Tk 0<|Tk 1<|Tk 2<|Tk 3<|Tk 4<|Tk 5<|Tk 6<|Tk 7<|Tk 8<|Tk 9<|Tk 10<|Tk 11<|Tk 12<|Tk 13<|Al 14 .done) mixed (by kernel_rfl) <| pM (e1 0) rfl rfl<|pM (e1 0) rfl rfl<|pT rfl rfl rfl TF_82_7 T1_80 H fun _ _ _ _ _ H=> pM (e1 0) rfl rfl<|pT rfl rfl rfl TF_82_7 T1_80 H fun _ _ _ _ _ H=> pP rfl (R_len Tryz.underlying80) H fun _ H=> pP rfl R_sub H fun _ H=> ?_; refine pP rfl (R_slice TE_80 (by decide)) H fun _ H=> pB rfl rfl TF_82_7 H fun _ _ H=> aE rfl<|H_store1 TS_80 H fun h H=> ⟨(hskip rfl (hskip rfl hnil)), vp_done ?_⟩
           refine WPc_seq (fun e h=> z1s_.j6 (e 0) h K1 Q ∧ [e1 0] = [e 0]) ?_ (fun e h ⟨H, hq1⟩=> ?_)
           rotate_left
           · unfold z1s_.j6 at H
             refine WPc_seq' <| W_drawn [0,1,3,7,0,16,48,112,240,496,1023,2047] (Tk 0<|Tk 1<|Tk 2<|Tk 3<|Tk 4<|Tk 5<|Tk 6<|Tk 7<|Tk 8<|Tk 9<|Tk 10<|Tk 11 .done) mixed (by kernel_rfl) <| pM (e 0) rfl rfl<|pT rfl rfl rfl TF_82_7 T1_80 H fun _ _ _ _ _ H=> pM (e 0) rfl rfl<|pT rfl rfl rfl TF_82_7 T1_80 H fun _ _ _ _ _ H=> pP rfl (R_len Tryz.underlying80) H fun _ H=> pP rfl R_sub H fun _ H=> pP rfl (R_idx TE_80) H fun t92 H=> pS t92 rfl rfl ?_; refine vp_done <| sR <| nM t92 rfl<|nT TF_78_1 T1_3 H fun _ _ _ H=> nP R_sub H fun _ H=> nB TF_78_1 H fun _ _ H=> vl_n <| H_store1 TS_3 H fun h H=> vl_e <| sR <| nM t92 rfl<|nP R_nil H fun _ H=> ?_; refine nP (R_fld TF_78_1) H fun _ H=> nL T1_3 H fun _ H=> nP R_gtr H fun _ H=> vl_e ?_; refine cI H (fun H=> ?_) fun H=> ?_
             · refine WPc_exit ?_
               exact H
             · refine WPc_skip ?_
               exact ⟨H, hq1⟩
           refine sR <| nM (e1 0) rfl<|nT TF_82_7 T1_80 H fun _ _ _ H=> nP (R_len Tryz.underlying80) H fun _ H=> nP R_eqI H fun _ H=> vl_e ?_; refine cI H (fun H=> ?_) fun H=> ?_
           · exact sR <| nM (e1 0) rfl<|nB TF_82_4 H fun _ _ H=> vl_n <| H_store1 TS_4 H fun h H=> vl_e <| sR <| nS (.bool false) rfl<|vl_e <| WPc_ret <| resH_of rfl<|H
           · refine WPc_skip ?_
             exact ⟨H, rfl⟩
         · exact WPc_skip <| H
       · refine WPc_seq' <| W_drawn [0,1,3,7,0,16,48,112,240,496,1008,2032,4080,0,8192,24576,57344,131056,0,262144,786432,1835008,4194303,8388607] (Tk 0<|Tk 1<|Tk 2<|Tk 3<|Tk 4<|Tk 5<|Tk 6<|Tk 7<|Tk 8<|Tk 9<|Tk 10<|Tk 11<|Tk 12<|Tk 13<|Tk 14<|Tk 15<|Tk 16<|Tk 17<|Tk 18<|Tk 19<|Tk 20<|Tk 21<|Al 22<|Tk 23 .done) mixed (by kernel_rfl) <| pM (e 0) rfl rfl<|pT rfl rfl rfl TF_82_0 T1_74 H fun _ _ _ _ _ H=> pM t41 rfl rfl<|pT rfl rfl rfl TF_78_0 T1_76 H fun _ _ _ _ _ H=> pT rfl rfl rfl TF_167_3 T1_165 H fun _ _ _ _ _ H=> pP rfl R_nil H fun _ H=> ?_
         refine pL rfl T1_168 H fun _ _ _ H=> pM t41 rfl rfl<|pT rfl rfl rfl TF_78_1 T1_3 H fun _ _ _ _ _ H=> pP rfl (R_idx TE_168) H fun _ H=> pM (e 0) rfl rfl<|pT rfl rfl rfl TF_82_1 T1_4 H fun _ _ _ _ _ H=> aE rfl<|H_call HB_103 H fun t127 h H=> ⟨(hskip rfl (hskip rfl (hskip rfl (hskip rfl (hskip rfl (hskip rfl hnil)))))), pS t127 rfl rfl<|vp_done <| WPc_block ?_⟩
         refine loop_at (fun e=> [e 4]) (fun e=> [e 0]) H rfl rfl ?_; intro K1 e1 h H hin1
         replace H : z1s_.l7.b (e1 0) (e1 4) h K1 Q := H
         unfold z1s_.l7.b at H; clear hin1; refine WPc_block <| WPc_seq' <| W_drawn [0,0,2,6,14,0,0,64,192,448,960,2016,4064,8190,16383,32767,65535] (Tk 0<|Tk 1<|Tk 2<|Tk 3<|Tk 4<|Tk 5<|Tk 6<|Tk 7<|Tk 8<|Tk 9<|Tk 10<|Tk 11<|Al 12<|Al 13<|Tk 14<|Tk 15<|Al 16 .done) mixed (by kernel_rfl) <| pM (e1 0) rfl rfl<|pM (e1 0) rfl rfl<|pT rfl rfl rfl TF_82_7 T1_80 H fun _ _ _ _ hat132 H=> pM (e1 4) rfl rfl<|pM (e1 4) rfl rfl<|pT rfl rfl rfl TF_167_2 T1_25 H fun _ _ _ _ _ H=> pP rfl (R_len Tryz.underlying25) H fun _ H=> ?_; refine pP rfl (R_build TB_78 rfl (by decide)) H fun _ H=> aE rfl<|H_mkSl TZ_80 (by decide) rfl H rfl fun _ h ⟨S, H⟩=> ⟨(hskip rfl (hcons rfl (still_1 S hat132) hnil)), aE rfl<|H_app TZ_80 TU_80 H fun _ h H=> ⟨(hskip rfl hnil), pB rfl rfl TF_82_7 H fun _ _ H=> aE rfl<|H_store1 TS_80 H fun h H=> ⟨hnil, vp_done ?_⟩⟩⟩
         refine WPc_seq (fun e h=> z1s_.j8 (e 0) (e 4) h K1 Q ∧ [e1 0] = [e 0]) ?_ (fun e h ⟨H, hq1⟩=> ?_)
         rotate_left
         · unfold z1s_.j8 at H
           refine W_drawn [0,1,3,7,0,16,48,112,240,496,0,1024,3072,7168,15360,32752,0,65536,196608,458752,1048575,2097151] (Tk 0<|Tk 1<|Tk 2<|Tk 3<|Tk 4<|Tk 5<|Tk 6<|Tk 7<|Tk 8<|Tk 9<|Tk 10<|Tk 11<|Tk 12<|Tk 13<|Tk 14<|Tk 15<|Tk 16<|Tk 17<|Tk 18<|Tk 19<|Al 20<|Tk 21 .done) mixed (by kernel_rfl) <| pM (e 0) rfl rfl<|pT rfl rfl rfl TF_82_0 T1_74 H fun _ _ _ _ _ H=> pM (e 4) rfl rfl<|pT rfl rfl rfl TF_167_3 T1_165 H fun _ _ _ _ _ H=> pP rfl R_nil H fun _ H=> pL rfl T1_168 H fun _ _ _ H=> pM (e 4) rfl rfl<|pB rfl rfl TF_167_2 H fun _ _ H=> ?_; refine pL rfl T1_25 H fun _ _ _ H=> pP rfl (R_len Tryz.underlying25) H fun _ H=> pP rfl (R_idx TE_168) H fun _ H=> pM (e 0) rfl rfl<|pT rfl rfl rfl TF_82_1 T1_4 H fun _ _ _ _ _ H=> aE rfl<|H_call HB_103 H fun t182 h H=> ⟨(hskip rfl (hskip rfl (hskip rfl (hskip rfl (hskip rfl hnil))))), pS t182 rfl rfl<|vp_done ?_⟩
           exact ⟨H, hq1⟩
         refine sR <| nM (e1 4) rfl<|vl_n <| H_call HB_104 H fun _ h H=> vl_e ?_; refine cI H (fun H=> ?_) fun H=> ?_
         · refine WPc_seq' <| W_drawn [0,1,3,7,0,16,48,112,240,496,1023,2047,4095,8191,16383,32767,65535] (Tk 0<|Tk 1<|Tk 2<|Tk 3<|Tk 4<|Tk 5<|Tk 6<|Tk 7<|Tk 8<|Tk 9<|Tk 10<|Tk 11<|Tk 12<|Tk 13<|Tk 14<|Tk 15<|Al 16 .done) mixed (by kernel_rfl) <| pM (e1 0) rfl rfl<|pT rfl rfl rfl TF_82_7 T1_80 H fun _ _ _ _ _ H=> pM (e1 0) rfl rfl<|pT rfl rfl rfl TF_82_7 T1_80 H fun _ _ _ _ _ H=> pP rfl (R_len Tryz.underlying80) H fun _ H=> pP rfl R_sub H fun _ H=> pP rfl (R_idx TE_80) H fun _ H=> pP rfl (R_fld TF_78_1) H fun _ H=> ?_
           refine pL rfl T1_3 H fun _ _ _ H=> pP rfl R_sub H fun _ H=> pP rfl (R_idx TE_80) H fun _ H=> pP rfl (R_fld TF_78_1) H fun _ H=> aE rfl<|H_store1 TS_3 H fun h H=> ⟨(hskip rfl (hskip rfl (hskip rfl hnil))), vp_done ?_⟩
           refine WPc_exit ?_; exact H
         · refine WPc_skip ?_
           exact ⟨H, rfl⟩
     refine sR <| nM (e 0) rfl<|nT TF_82_7 T1_80 H fun _ _ _ H=> nP (R_len Tryz.underlying80) H fun _ H=> nP R_eqI H fun _ H=> vl_e ?_; refine cI H (fun H=> ?_) fun H=> ?_
     · refine WPc_seq (fun e h=> z1s_.j9 h Q) ?_ (fun e h H=> ?_)
       rotate_left
       · unfold z1s_.j9 at H
         exact sR <| nS (.bool false) rfl<|vl_e <| WPc_ret <| resH_of rfl<|H
       refine sR <| nM (e 0) rfl<|nT TF_82_5 T1_4 H fun _ _ _ H=> vl_e ?_; refine cI H (fun H=> ?_) fun H=> ?_
       · refine sR <| nM (e 0) rfl<|vl_n <| H_call HB_93 H fun t26 h H=> nM t26 rfl ?_
         obtain ⟨b_3, hb, H1, H2⟩ := H
         cases b_3
         · have H := H2 rfl
           clear H1 H2; refine vl_s rfl (nbT hb) ?_; refine vl_s rfl (nbT hb) ?_; exact nA (R_pickC (v := (.bool false)) false hb rfl) <| nS (.bool false) rfl<|vl_e <| WPc_ret <| resH_of rfl<|H
         · have H := H1 rfl
           clear H1 H2; refine vl_y rfl hb ?_; refine H_of_R (R_move (v := (e 0)) rfl ?_)
           refine vl_y rfl hb ?_; refine H_call HB_95 H fun t29 h H=> ?_; exact nA (R_pickC (v := t29) true hb rfl) <| nS t29 rfl<|vl_e <| WPc_ret <| resH_of rfl<|H
       · exact WPc_skip <| H
     · exact WPc_skip <| H
   refine sR <| nM (e 0) rfl<|nT TF_82_3 T1_4 H fun _ _ _ H=> nP R_not H fun _ H=> vl_e ?_; refine cI H (fun H=> ?_) fun H=> ?_
   · exact sR <| nS (.bool false) rfl<|vl_e <| WPc_ret <| resH_of rfl<|H
   · exact WPc_skip <| H
 refine sR <| nM a0 rfl<|nT TF_82_0 T1_74 H fun _ _ _ H=> nP (R_eqNilP Tryz.underlying74 rfl) H fun _ H=> vl_e ?_; refine cI H (fun H=> ?_) fun H=> ?_
 · exact sR <| nS (.bool false) rfl<|vl_e <| WPc_ret <| resH_of rfl<|H
 · exact WPc_skip <| H
def z1b_.j1 (s0 s1 s3 s4 s7 : Value) (h : Heap) (Q : Value → Heap → Prop) : Prop := loadN 2 s7 h fun b=>z04_.call #[s0, s1, b, s3, s4] h fun d h=>extr 0 d fun g=>extr 1 d fun i=>Q (.tuple #[g, i]) h
def z1b_.sh (a0 a1 a2 a3 a4 : Value) (h : Heap) (Q : Value → Heap → Prop) : Prop := box 45 a2 h fun b h=>eqNilP a3 fun d=>ifV d (loadN 2 b h fun g=>z0k_.call #[a0, a1, g] h fun i h=>extr 0 i fun j=>extr 1 i fun k=>Q (.tuple #[j, k]) h) (z1b_.j1 a0 a1 a3 a4 b h Q)
theorem z1b_.body (a0 a1 a2 a3 a4 : Value) (h : Heap) (Q : Value → Heap → Prop) (H : z1b_.sh a0 a1 a2 a3 a4 h Q) : z1b_.call #[a0, a1, a2, a3, a4] h Q := by
 refine callsH_of (args := [a0, a1, a2, a3, a4]) Tryz.func168 rfl rfl ?_; unfold z1b_.sh at H; refine sR <| vl_n <| H_box H fun _ h H=> nS (.int .i64 0) rfl<|nS (.bool false) rfl<|vl_e ?_; refine WPc_seq (fun e h=> z1b_.j1 (e 0) (e 1) (e 3) (e 4) (e 7) h Q) ?_ (fun e h H=> ?_)
 rotate_left
 · unfold z1b_.j1 at H
   exact sR <| nM (e 0) rfl<|nM (e 1) rfl<|nLN TN_45 H fun _ H=> nM (e 3) rfl<|nM (e 4) rfl<|vl_n <| H_call HB_194 H fun _ h H=> nP R_ext H fun t26 H=> nP R_ext H fun t27 H=> nS t26 rfl<|nS t27 rfl<|vl_e <| WPc_ret <| resH_of rfl<|H
 refine sR <| nM a3 rfl<|nP (R_eqNilP Tryz.underlying154 rfl) H fun _ H=> vl_e ?_; refine cI H (fun H=> ?_) fun H=> ?_
 · exact sR <| nM a0 rfl<|nM a1 rfl<|nLN TN_45 H fun _ H=> vl_n <| H_call HB_193 H fun _ h H=> nP R_ext H fun t18 H=> nP R_ext H fun t19 H=> nS t18 rfl<|nS t19 rfl<|vl_e <| WPc_ret <| resH_of rfl<|H
 · exact WPc_skip <| H
def z1p_.sh (a0 : Value) (h : Heap) (Q : Value → Heap → Prop) : Prop := alloc [(.int .i64 0), (.int .i64 0)] 45 h fun b h=>nilck a0 fun d=>fld 15 d fun g=>loadN 2 g h fun i=>storeN 2 b i h fun h=>loadN 2 b h fun j=>Q j h
theorem z1p_.body (a0 : Value) (h : Heap) (Q : Value → Heap → Prop) (H : z1p_.sh a0 h Q) : z1p_.call #[a0] h Q := by
 refine callsH_of (args := [a0]) Tryz.func99 rfl rfl ?_; unfold z1p_.sh at H; exact sR <| vl_n <| H_alloc TV_45 H fun _ h H=> vl_e <| sR <| nM a0 rfl<|nB TF_82_8 H fun _ _ H=> nLN TN_45 H fun _ H=> vl_n <| H_storeN TS_45 H fun h H=> vl_e <| WPc_ret <| resH_of rfl<|resL_N TN_45 <| loadN_imp H fun r2 H=> H
def z2o_.j1 (s6 : Value) (h : Heap) (Q : Value → Heap → Prop) : Prop := Q s6 h
def z2o_.j4 (s0 s5 s6 s10 s11 s12 : Value) (h : Heap) (K1 : List Value → Heap → Prop) (Q : Value → Heap → Prop) : Prop := arith (· + ·) s12 (.int .i64 1) fun b=>K1 [s6, b] h
def z2o_.j5 (s0 s5 s6 s9 s10 s11 s12 : Value) (h : Heap) (K1 : List Value → Heap → Prop) (Q : Value → Heap → Prop) : Prop := z1p_.call #[s0] h fun b h=>z2n_.call #[b, s9] h fun d h=>mkSl (if 1 * 3 = 0 then [] else zeros [(.int .i64 0), (.int .i64 0), (.bool false)] 1) 1 [(0 * 3, 3, d)] 47 h fun g h=>app 47 3 24 [(.int .i64 0), (.int .i64 0), (.bool false)] s6 g h fun i h=>z2o_.j4 s0 s5 i s10 s11 s12 h K1 Q
def z2o_.j3 (s0 s5 s6 s10 s11 s12 : Value) (h : Heap) (K1 : List Value → Heap → Prop) (Q : Value → Heap → Prop) : Prop := idx 3 s10 s12 fun b=>loadN 3 b h fun d=>alloc [(.int .i64 0), (.int .i64 0), (.int .i64 0)] 87 h fun g h=>storeN 3 g d h fun h=>fld 0 g fun i=>load1 i h fun j=>cmpI (fun a b=> a == b) j (.int .i64 1) fun k=>ifV k (z1q_.call #[s0] h fun l h=>z2o_.j5 s0 s5 s6 l s10 s11 s12 h K1 Q) (cmpI (fun a b=> a == b) j (.int .i64 2) fun m=>ifV m (z1r_.call #[s0] h fun n h=>z2o_.j5 s0 s5 s6 n s10 s11 s12 h K1 Q) (cmpI (fun a b=> a == b) j (.int .i64 3) fun o=>ifV o (z1s_.call #[s0] h fun p h=>z2o_.j5 s0 s5 s6 p s10 s11 s12 h K1 Q) (cmpI (fun a b=> a == b) j (.int .i64 4) fun q=>ifV q (fld 1 g fun u=>loadN 2 u h fun v=>z1t_.call #[s0, v] h fun w h=>z2o_.j5 s0 s5 s6 w s10 s11 s12 h K1 Q) (cmpI (fun a b=> a == b) j (.int .i64 5) fun x=>ifV x (fld 1 g fun y=>loadN 2 y h fun z=>z0q_.call #[s0, z, s5] h fun b0 h=>z2o_.j5 s0 s5 s6 b0 s10 s11 s12 h K1 Q) (z1h_.call #[s0] h fun b1 h=>z2o_.j5 s0 s5 s6 b1 s10 s11 s12 h K1 Q)))))
def z2o_.l2.b (c0 c5 c10 c11 s6 s12 : Value) (h : Heap) (K1 : List Value → Heap → Prop) (Q : Value → Heap → Prop) : Prop := cmpI (fun a b=> decide (a < b)) s12 c11 fun b=>ifV b (z2o_.j3 c0 c5 s6 c10 c11 s12 h K1 Q) (z2o_.j1 s6 h Q)
def z2o_.sh (a0 a1 : Value) (h : Heap) (Q : Value → Heap → Prop) : Prop := alloc [(.bool false), (.bool false), (.bool false), (.bool false), (.bool false), (.bool false), (.bool false), (.bool false), (.int .u8 0), (.int .u8 0), (.int .u8 0), (.int .u8 0), (.int .u8 0), (.int .u8 0), (.int .u8 0), (.int .u8 0)] 152 h fun b h=>lenV a1 fun d=>loopC (fun c s h K1=> z2o_.l2.b (c.getD 0 undef) (c.getD 1 undef) (c.getD 2 undef) (c.getD 3 undef) (s.getD 0 undef) (s.getD 1 undef) h K1 Q) [a0, b, a1, d] [(.slice none 0 0), (.int .i64 0)] h
theorem z2o_.body (a0 a1 : Value) (h : Heap) (Q : Value → Heap → Prop) (H : z2o_.sh a0 a1 h Q) : z2o_.call #[a0, a1] h Q := by
 refine callsH_of (args := [a0, a1]) Tryz.func46 rfl rfl ?_; unfold z2o_.sh at H; refine sR <| nS (.slice none 0 0) rfl<|vl_e <| sR <| vl_n <| H_alloc TV_152 H fun _ h H=> vl_e <| sR <| nS (.slice none 0 0) rfl<|vl_e ?_; refine WPc_seq (fun e h=> z2o_.j1 (e 6) h Q) ?_ (fun e h H=> ?_)
 rotate_left
 · unfold z2o_.j1 at H
   exact sR <| nM (e 6) rfl<|nS (e 6) rfl<|vl_e <| WPc_ret <| resH_of rfl<|H
 refine sR <| nM a1 rfl<|nP (R_len Tryz.underlying29) H fun _ H=> nM (.int .i64 0) rfl<|vl_e <| WPc_block ?_; refine loop_at (fun e=> [e 6, e 12]) (fun e=> [e 0, e 5, e 10, e 11]) H rfl rfl ?_; intro K1 e1 h H hin1
 replace H : z2o_.l2.b (e1 0) (e1 5) (e1 10) (e1 11) (e1 6) (e1 12) h K1 Q := H
 unfold z2o_.l2.b at H; clear hin1; refine sR <| nP R_lss H fun _ H=> vl_e ?_; refine WPc_seq (fun e h=> z2o_.j3 (e 0) (e 5) (e 6) (e 10) (e 11) (e 12) h K1 Q ∧ [e1 0, e1 5, e1 10, e1 11] = [e 0, e 5, e 10, e 11]) ?_ (fun e h ⟨H, hq1⟩=> ?_)
 rotate_left
 · unfold z2o_.j3 at H
   refine WPc_seq (fun e h=> z2o_.j4 (e 0) (e 5) (e 6) (e 10) (e 11) (e 12) h K1 Q ∧ [e1 0, e1 5, e1 10, e1 11] = [e 0, e 5, e 10, e 11]) ?_ (fun e h ⟨H, hq1⟩=> ?_)
   rotate_left
   · unfold z2o_.j4 at H
     refine W_region (by kernel_rfl) <| nP R_add H fun t51 H=> nM t51 rfl<|vl_e ?_; exact ⟨H, hq1⟩
   refine WPc_block <| sR <| nP (R_idx TE_29) H fun _ H=> nLN TN_87 H fun _ H=> vl_n <| H_alloc TV_87 H fun _ h H=> vl_n <| H_storeN TS_87 H fun h H=> vl_e <| sR <| nS (.bool false) rfl<|vl_e ?_; refine WPc_seq (fun e h=> z2o_.j5 (e 0) (e 5) (e 6) (e 9) (e 10) (e 11) (e 12) h K1 Q ∧ [e1 0, e1 5, e1 10, e1 11] = [e 0, e 5, e 10, e 11]) ?_ (fun e h ⟨H, hq1⟩=> ?_)
   rotate_left
   · unfold z2o_.j5 at H
     refine W_region (by kernel_rfl) <| nM (e 6) rfl<|nM (e 0) rfl<|vl_n <| H_call HB_99 H fun _ h H=> nM (e 9) rfl<|vl_n <| H_call HB_48 H fun _ h H=> vl_n <| H_mkSl TZ_30 (by decide) rfl H rfl fun _ h H=> vl_n <| H_app TZ_30 TU_30 H fun t50 h H=> nS t50 rfl<|vl_e ?_; exact ⟨H, hq1⟩
   refine sR <| nP (R_fld TF_87_0) H fun _ H=> nL T1_3 H fun _ H=> vl_e <| WPc_block <| sR <| nP R_eqI H fun t21 H=> nS t21 rfl<|vl_e ?_; refine cI H (fun H=> ?_) fun H=> ?_
   · refine W_region (by kernel_rfl) <| nM (e 0) rfl<|vl_n <| H_call HB_93 H fun t23 h H=> nS t23 rfl<|vl_e ?_
     exact ⟨H, hq1⟩
   · refine sR <| nP R_eqI H fun t25 H=> nS t25 rfl<|vl_e ?_
     refine cI H (fun H=> ?_) fun H=> ?_
     · refine W_region (by kernel_rfl) <| nM (e 0) rfl<|vl_n <| H_call HB_94 H fun t27 h H=> nS t27 rfl<|vl_e ?_
       exact ⟨H, hq1⟩
     · refine sR <| nP R_eqI H fun t29 H=> nS t29 rfl<|vl_e ?_
       refine cI H (fun H=> ?_) fun H=> ?_
       · refine W_region (by kernel_rfl) <| nM (e 0) rfl<|vl_n <| H_call HB_95 H fun t31 h H=> nS t31 rfl<|vl_e ?_
         exact ⟨H, hq1⟩
       · refine sR <| nP R_eqI H fun t33 H=> nS t33 rfl<|vl_e ?_
         refine cI H (fun H=> ?_) fun H=> ?_
         · refine W_region (by kernel_rfl) <| nM (e 0) rfl<|nP (R_fld TF_87_1) H fun _ H=> nLN TN_45 H fun _ H=> vl_n <| H_call HB_96 H fun t37 h H=> nS t37 rfl<|vl_e ?_
           exact ⟨H, hq1⟩
         · refine sR <| nP R_eqI H fun t39 H=> nS t39 rfl<|vl_e ?_
           refine cI H (fun H=> ?_) fun H=> ?_
           · refine W_region (by kernel_rfl) <| nM (e 0) rfl<|nP (R_fld TF_87_1) H fun _ H=> nLN TN_45 H fun _ H=> vl_n <| H_call HB_97 H fun t43 h H=> nS t43 rfl<|vl_e ?_
             exact ⟨H, hq1⟩
           · refine W_region (by kernel_rfl) <| nM (e 0) rfl<|vl_n <| H_call HB_98 H fun t19 h H=> nS t19 rfl<|vl_e ?_
             exact ⟨H, hq1⟩
 refine cI H (fun H=> ?_) fun H=> ?_
 · refine WPc_skip ?_
   exact ⟨H, rfl⟩
 · refine WPc_exit ?_
   exact H
def z0y_.j2 (s0 : Value) (h : Heap) (Q : Value → Heap → Prop) : Prop := nilck s0 fun b=>fld 14 b fun d=>load1 d h fun g=>slc 2 g none (some (.int .i64 0)) none fun i=>buildV [(.pointer none), (.bool false), (.bool false), (.bool false), (.bool false), (.bool false), (.pointer none), (.int .i64 0), (.pointer none), (.int .i64 0), (.pointer none), (.int .i64 0), (.pointer none), (.int .i64 0), (.slice none 0 0), (.int .i64 0), (.int .i64 0)] [] fun j=>nilck s0 fun k=>storeN 17 k j h fun h=>nilck s0 fun l=>fld 14 l fun m=>store1 m i h fun h=>Q (.tuple #[]) h
def z0y_.j1 (s0 : Value) (h : Heap) (Q : Value → Heap → Prop) : Prop := nilck s0 fun b=>fld 2 b fun d=>load1 d h fun g=>ifV g (nilck s0 fun i=>fld 0 i fun j=>load1 j h fun k=>nilck s0 fun l=>fld 1 l fun m=>load1 m h fun n=>z0x_.call #[k, n] h fun o h=>nilck s0 fun p=>fld 2 p fun q=>store1 q (.bool false) h fun h=>z0y_.j2 s0 h Q) (z0y_.j2 s0 h Q)
def z0y_.sh (a0 : Value) (h : Heap) (Q : Value → Heap → Prop) : Prop := nilck a0 fun b=>fld 0 b fun d=>load1 d h fun g=>eqNilP g fun i=>ifV i (Q (.tuple #[]) h) (z0y_.j1 a0 h Q)
theorem z0y_.body (a0 : Value) (h : Heap) (Q : Value → Heap → Prop) (H : z0y_.sh a0 h Q) : z0y_.call #[a0] h Q := by
 refine callsH_of (args := [a0]) Tryz.func47 rfl rfl ?_; unfold z0y_.sh at H; refine WPc_seq (fun e h=> z0y_.j1 (e 0) h Q) ?_ (fun e h H=> ?_)
 rotate_left
 · unfold z0y_.j1 at H
   refine WPc_seq (fun e h=> z0y_.j2 (e 0) h Q) ?_ (fun e h H=> ?_)
   rotate_left
   · unfold z0y_.j2 at H
     refine sR <| nM (e 0) rfl<|nT TF_82_7 T1_80 H fun _ _ _ H=> nP (R_slice TE_80 (by decide)) H fun t28 H=> nS t28 rfl<|vl_e <| sR <| nM (e 0) rfl<|nP (R_build TB_82 rfl (by decide)) H fun _ H=> nP R_nil H fun _ H=> vl_n <| H_storeN TS_82 H fun h H=> vl_e ?_; exact W_region (by kernel_rfl) <| nM (e 0) rfl<|nM t28 rfl<|nB TF_82_7 H fun _ _ H=> vl_n <| H_store1 TS_80 H fun h H=> vl_e <| resH_of rfl<|H
   refine sR <| nM (e 0) rfl<|nT TF_82_2 T1_4 H fun _ _ _ H=> vl_e ?_; refine cI H (fun H=> ?_) fun H=> ?_
   · refine WPc_seq' <| W_drawn [0,1,3,7,0,16,48,112,255] (Tk 0<|Tk 1<|Tk 2<|Tk 3<|Tk 4<|Tk 5<|Tk 6<|Tk 7<|Al 8 .done) mixed (by kernel_rfl) <| pM (e 0) rfl rfl<|pT rfl rfl rfl TF_82_0 T1_74 H fun _ _ _ _ _ H=> pM (e 0) rfl rfl<|pT rfl rfl rfl TF_82_1 T1_4 H fun _ _ _ _ _ H=> aE rfl<|H_call HB_100 H fun _ h H=> ⟨(hskip rfl (hskip rfl hnil)), vp_done <| W_region (by kernel_rfl) <| nM (e 0) rfl ?_⟩
     exact nB TF_82_2 H fun _ _ H=> vl_n <| H_store1 TS_4 H fun h H=> vl_e <| H
   · exact WPc_skip <| H
 refine sR <| nM a0 rfl<|nT TF_82_0 T1_74 H fun _ _ _ H=> nP (R_eqNilP Tryz.underlying74 rfl) H fun _ H=> vl_e ?_; refine cI H (fun H=> ?_) fun H=> ?_
 · exact WPc_ret <| resH_of rfl<|H
 · exact WPc_skip <| H
def z2j_.sh (a0 a1 a2 : Value) (h : Heap) (Q : Value → Heap → Prop) : Prop := box 24 a0 h fun b h=>loadN 3 b h fun d=>z2v_.call #[d, a1] h fun g h=>z16_.call #[g] h fun i h=>alloc [(.pointer none), (.bool false), (.bool false), (.bool false), (.bool false), (.bool false), (.pointer none), (.int .i64 0), (.pointer none), (.int .i64 0), (.pointer none), (.int .i64 0), (.pointer none), (.int .i64 0), (.slice none 0 0), (.int .i64 0), (.int .i64 0)] 82 h fun j h=>storeN 17 j i h fun h=>z2o_.call #[j, a2] h fun k h=>z0y_.call #[j] h fun l h=>Q k h
theorem z2j_.body (a0 a1 a2 : Value) (h : Heap) (Q : Value → Heap → Prop) (H : z2j_.sh a0 a1 a2 h Q) : z2j_.call #[a0, a1, a2] h Q := by
 refine callsH_of (args := [a0, a1, a2]) Tryz.func11 rfl rfl ?_; unfold z2j_.sh at H; refine sR <| vl_n <| H_box H fun _ h H=> nS (.slice none 0 0) rfl<|vl_e <| sR <| nLN TN_24 H fun _ H=> nM a1 rfl<|vl_n <| H_call HB_43 H fun _ h H=> vl_n <| H_call HB_45 H fun _ h H=> vl_n <| H_alloc TV_82 H fun _ h H=> vl_n <| H_storeN TS_82 H fun h H=> vl_e <| sR <| nM a2 rfl ?_; exact vl_n <| H_call HB_46 H fun t14 h H=> nS t14 rfl<|vl_e <| sR <| vl_n <| H_call HB_47 H fun _ h H=> vl_e <| sR <| nM t14 rfl<|nS t14 rfl<|vl_e <| WPc_ret <| resH_of rfl<|H
def z1j_.sh (a0 f0 f1 : Value) (h : Heap) (Q : Value → Heap → Prop) : Prop := loadN 3 f0 h fun b=>load1 f1 h fun d=>z2j_.call #[b, d, a0] h fun g h=>Q g h
theorem z1j_.body (a0 f0 f1 : Value) (h : Heap) (Q : Value → Heap → Prop) (H : z1j_.sh a0 f0 f1 h Q) : z1j_.call #[a0, f0, f1] h Q := by
 refine callsH_of (args := [a0, f0, f1]) Tryz.func10 rfl rfl ?_; unfold z1j_.sh at H; exact sR <| nS (.slice none 0 0) rfl<|vl_e <| sR <| nLN TN_24 H fun _ H=> nL T1_25 H fun _ H=> nM a0 rfl<|vl_n <| H_call HB_11 H fun t8 h H=> nS t8 rfl<|vl_e <| WPc_ret <| resH_of rfl<|H
def z2r_.j3 (s12 : Value) (h : Heap) (Q : Value → Heap → Prop) : Prop := Q (.tuple #[s12, (.bool true)]) h
def z2r_.j6 (s12 s44 s45 s46 : Value) (h : Heap) (K1 : List Value → Heap → Prop) (Q : Value → Heap → Prop) : Prop := arith (· + ·) s46 (.int .i64 1) fun b=>K1 [s12, b] h
def z2r_.j7 (s12 s14 s44 s45 s46 : Value) (h : Heap) (K1 : List Value → Heap → Prop) (Q : Value → Heap → Prop) : Prop := fld 0 s14 fun b=>loadN 2 b h fun d=>mkSl (if 1 * 2 = 0 then [] else zeros [(.int .i64 0), (.int .i64 0)] 1) 1 [(0 * 2, 2, d)] 45 h fun g h=>app 45 2 16 [(.int .i64 0), (.int .i64 0)] s12 g h fun i h=>z2r_.j6 i s44 s45 s46 h K1 Q
def z2r_.j5 (s12 s44 s45 s46 : Value) (h : Heap) (K1 : List Value → Heap → Prop) (Q : Value → Heap → Prop) : Prop := idx 3 s44 s46 fun b=>loadN 3 b h fun d=>alloc [(.int .i64 0), (.int .i64 0), (.bool false)] 47 h fun g h=>storeN 3 g d h fun h=>fld 2 g fun i=>load1 i h fun j=>notV j fun k=>ifV k (Q (.tuple #[(.slice none 0 0), (.bool false)]) h) (z2r_.j7 s12 g s44 s45 s46 h K1 Q)
def z2r_.l4.b (c44 c45 s12 s46 : Value) (h : Heap) (K1 : List Value → Heap → Prop) (Q : Value → Heap → Prop) : Prop := cmpI (fun a b=> decide (a < b)) s46 c45 fun b=>ifV b (z2r_.j5 s12 c44 c45 s46 h K1 Q) (z2r_.j3 s12 h Q)
def z2r_.j2 (s3 s11 : Value) (h : Heap) (Q : Value → Heap → Prop) : Prop := slc 3 s11 none (some s3) none fun b=>lenV b fun d=>loopC (fun c s h K1=> z2r_.l4.b (c.getD 0 undef) (c.getD 1 undef) (s.getD 0 undef) (s.getD 1 undef) h K1 Q) [b, d] [(.slice none 0 0), (.int .i64 0)] h
def z2r_.j1 (s0 s3 s10 : Value) (h : Heap) (Q : Value → Heap → Prop) : Prop := callV Tryz.prog s0 #[s10] h fun b h=>lenV b fun d=>arith (· + ·) s3 (.int .i64 1) fun g=>cmpI (fun a b=> a != b) d g fun i=>br i false (idx 3 b s3 fun j=>fld 2 j fun k=>load1 k h fun l=>ifV l (Q (.tuple #[(.slice none 0 0), (.bool false)]) h) (z2r_.j2 s3 b h Q)) (Q (.tuple #[(.slice none 0 0), (.bool false)]) h)
def z2r_.j10 (s0 s2 s3 s10 s18 s19 : Value) (h : Heap) (K1 : List Value → Heap → Prop) (Q : Value → Heap → Prop) : Prop := arith (· + ·) s19 (.int .i64 1) fun b=>K1 [s10, b] h
def z2r_.j9 (s0 s2 s3 s10 s18 s19 : Value) (h : Heap) (K1 : List Value → Heap → Prop) (Q : Value → Heap → Prop) : Prop := buildV [(.int .i64 0), (.int .i64 0), (.int .i64 0)] [(0, 1, s2)] fun b=>mkSl (if 1 * 3 = 0 then [] else zeros [(.int .i64 0), (.int .i64 0), (.int .i64 0)] 1) 1 [(0 * 3, 3, b)] 87 h fun d h=>app 87 3 24 [(.int .i64 0), (.int .i64 0), (.int .i64 0)] s10 d h fun g h=>z2r_.j10 s0 s2 s3 g s18 s19 h K1 Q
def z2r_.l8.b (c0 c2 c3 c18 s10 s19 : Value) (h : Heap) (K1 : List Value → Heap → Prop) (Q : Value → Heap → Prop) : Prop := cmpI (fun a b=> decide (a < b)) s19 c18 fun b=>ifV b (z2r_.j9 c0 c2 c3 s10 c18 s19 h K1 Q) (z2r_.j1 c0 c3 s10 h Q)
def z2r_.sh (a0 a1 a2 a3 : Value) (h : Heap) (Q : Value → Heap → Prop) : Prop := buildV [(.int .i64 0), (.int .i64 0), (.int .i64 0)] [(0, 1, a1)] fun b=>mkSl (if 1 * 3 = 0 then [] else zeros [(.int .i64 0), (.int .i64 0), (.int .i64 0)] 1) 1 [(0 * 3, 3, b)] 87 h fun d h=>loopC (fun c s h K1=> z2r_.l8.b (c.getD 0 undef) (c.getD 1 undef) (c.getD 2 undef) (c.getD 3 undef) (s.getD 0 undef) (s.getD 1 undef) h K1 Q) [a0, a2, a3, a3] [d, (.int .i64 0)] h
theorem z2r_.body (a0 a1 a2 a3 : Value) (h : Heap) (Q : Value → Heap → Prop) (H : z2r_.sh a0 a1 a2 a3 h Q) : z2r_.call #[a0, a1, a2, a3] h Q := by
 refine callsH_of (args := [a0, a1, a2, a3]) Tryz.func12 rfl rfl ?_; unfold z2r_.sh at H; refine sR <| nS (.slice none 0 0) rfl<|nS (.bool false) rfl<|vl_e <| sR <| nM a1 rfl<|nP (R_build TB_87 rfl (by decide)) H fun _ H=> vl_n <| H_mkSl TZ_29 (by decide) rfl H rfl fun t17 h H=> nS t17 rfl<|vl_e ?_; refine WPc_seq (fun e h=> z2r_.j1 (e 0) (e 3) (e 10) h Q) ?_ (fun e h H=> ?_)
 rotate_left
 · unfold z2r_.j1 at H
   refine sR <| nM (e 0) rfl<|nM (e 10) rfl<|vl_n <| H_callV H fun t29 h H=> nS t29 rfl<|vl_e ?_; refine WPc_seq (fun e h=> z2r_.j2 (e 3) (e 11) h Q) ?_ (fun e h H=> ?_)
   rotate_left
   · unfold z2r_.j2 at H
     refine sR <| nS (.slice none 0 0) rfl<|vl_e ?_; refine WPc_seq (fun e h=> z2r_.j3 (e 12) h Q) ?_ (fun e h H=> ?_)
     rotate_left
     · unfold z2r_.j3 at H
       exact sR <| nM (e 12) rfl<|nS (e 12) rfl<|nS (.bool true) rfl<|vl_e <| WPc_ret <| resH_of rfl<|H
     refine sR <| nM (e 11) rfl<|nM (e 3) rfl<|nP (R_slice TE_30 (by decide)) H fun _ H=> nP (R_len Tryz.underlying30) H fun _ H=> nM (.int .i64 0) rfl<|vl_e <| WPc_block ?_; refine loop_at (fun e=> [e 12, e 46]) (fun e=> [e 44, e 45]) H rfl rfl ?_; intro K1 e1 h H hin1
     replace H : z2r_.l4.b (e1 44) (e1 45) (e1 12) (e1 46) h K1 Q := H
     unfold z2r_.l4.b at H; clear hin1; refine sR <| nP R_lss H fun _ H=> vl_e ?_; refine WPc_seq (fun e h=> z2r_.j5 (e 12) (e 44) (e 45) (e 46) h K1 Q ∧ [e1 44, e1 45] = [e 44, e 45]) ?_ (fun e h ⟨H, hq1⟩=> ?_)
     rotate_left
     · unfold z2r_.j5 at H
       refine WPc_seq (fun e h=> z2r_.j6 (e 12) (e 44) (e 45) (e 46) h K1 Q ∧ [e1 44, e1 45] = [e 44, e 45]) ?_ (fun e h ⟨H, hq1⟩=> ?_)
       rotate_left
       · unfold z2r_.j6 at H
         refine W_region (by kernel_rfl) <| nP R_add H fun t58 H=> nM t58 rfl<|vl_e ?_; exact ⟨H, hq1⟩
       refine WPc_block <| sR <| nP (R_idx TE_30) H fun _ H=> nLN TN_47 H fun _ H=> vl_n <| H_alloc TV_47 H fun _ h H=> vl_n <| H_storeN TS_47 H fun h H=> vl_e ?_; refine WPc_seq (fun e h=> z2r_.j7 (e 12) (e 14) (e 44) (e 45) (e 46) h K1 Q ∧ [e1 44, e1 45] = [e 44, e 45]) ?_ (fun e h ⟨H, hq1⟩=> ?_)
       rotate_left
       · unfold z2r_.j7 at H
         refine W_region (by kernel_rfl) <| nM (e 12) rfl<|nP (R_fld TF_47_0) H fun _ H=> nLN TN_45 H fun _ H=> vl_n <| H_mkSl TZ_25 (by decide) rfl H rfl fun _ h H=> vl_n <| H_app TZ_25 TU_25 H fun t57 h H=> nS t57 rfl<|vl_e ?_; exact ⟨H, hq1⟩
       refine sR <| nP (R_fld TF_47_1) H fun _ H=> nL T1_4 H fun _ H=> nP R_not H fun _ H=> vl_e ?_; refine cI H (fun H=> ?_) fun H=> ?_
       · exact sR <| nS (.slice none 0 0) rfl<|nS (.bool false) rfl<|vl_e <| WPc_ret <| resH_of rfl<|H
       · refine WPc_skip ?_
         exact ⟨H, hq1⟩
     refine cI H (fun H=> ?_) fun H=> ?_
     · refine WPc_skip ?_
       exact ⟨H, rfl⟩
     · refine WPc_exit ?_
       exact H
   refine sR <| nM t29 rfl<|nP (R_len Tryz.underlying30) H fun _ H=> nM (e 3) rfl<|nP R_add H fun _ H=> nP R_neI H fun t34 H=> nM t34 rfl ?_; obtain ⟨b, hb, H1, H2⟩ := H
   cases b
   · have H := H1 rfl
     clear H1 H2; refine vl_y rfl hb ?_; refine H_of_R (R_move (v := t29) rfl ?_)
     refine vl_y rfl hb ?_; refine H_of_R (R_move (v := (e 3)) rfl ?_)
     refine vl_y rfl hb ?_; refine H_of_R (R_idx TE_30 H fun _ H=> ?_)
     refine vl_y rfl hb ?_; refine H_of_R (R_fld TF_47_1 H fun _ H=> ?_)
     refine vl_y rfl hb ?_; refine H_of_R (R_load1 T1_4 H fun _ t40 _ _ H=> ?_)
     refine nA (R_pickC (v := t40) false hb rfl) <| vl_e ?_; refine cI H (fun H=> ?_) fun H=> ?_
     · exact sR <| nS (.slice none 0 0) rfl<|nS (.bool false) rfl<|vl_e <| WPc_ret <| resH_of rfl<|H
     · exact WPc_skip <| H
   · have H := H2 rfl
     clear H1 H2; refine vl_s rfl (nbF hb) ?_; refine vl_s rfl (nbF hb) ?_; refine vl_s rfl (nbF hb) ?_; refine vl_s rfl (nbF hb) ?_; refine vl_s rfl (nbF hb) ?_; refine nA (R_pickC (v := (.bool true)) true hb rfl) <| vl_e ?_; refine WPc_cond (t := true) rfl (fun _=> ?_) (fun hh=> by cases hh)
     exact sR <| nS (.slice none 0 0) rfl<|nS (.bool false) rfl<|vl_e <| WPc_ret <| resH_of rfl<|H
 refine sR <| nM a3 rfl<|nM (.int .i64 0) rfl<|vl_e <| WPc_block ?_; refine loop_at (fun e=> [e 10, e 19]) (fun e=> [e 0, e 2, e 3, e 18]) H rfl rfl ?_; intro K1 e1 h H hin1
 replace H : z2r_.l8.b (e1 0) (e1 2) (e1 3) (e1 18) (e1 10) (e1 19) h K1 Q := H
 unfold z2r_.l8.b at H; clear hin1; refine sR <| nP R_lss H fun _ H=> vl_e ?_; refine WPc_seq (fun e h=> z2r_.j9 (e 0) (e 2) (e 3) (e 10) (e 18) (e 19) h K1 Q ∧ [e1 0, e1 2, e1 3, e1 18] = [e 0, e 2, e 3, e 18]) ?_ (fun e h ⟨H, hq1⟩=> ?_)
 rotate_left
 · unfold z2r_.j9 at H
   refine WPc_seq (fun e h=> z2r_.j10 (e 0) (e 2) (e 3) (e 10) (e 18) (e 19) h K1 Q ∧ [e1 0, e1 2, e1 3, e1 18] = [e 0, e 2, e 3, e 18]) ?_ (fun e h ⟨H, hq1⟩=> ?_)
   rotate_left
   · unfold z2r_.j10 at H
     refine W_region (by kernel_rfl) <| nP R_add H fun t26 H=> nM t26 rfl<|vl_e ?_; exact ⟨H, hq1⟩
   refine WPc_block <| W_region (by kernel_rfl) <| nM (e 10) rfl<|nM (e 2) rfl<|nP (R_build TB_87 rfl (by decide)) H fun _ H=> vl_n <| H_mkSl TZ_29 (by decide) rfl H rfl fun _ h H=> vl_n <| H_app TZ_29 TU_29 H fun t25 h H=> nS t25 rfl<|vl_e ?_; exact ⟨H, hq1⟩
 refine cI H (fun H=> ?_) fun H=> ?_
 · refine WPc_skip ?_
   exact ⟨H, rfl⟩
 · refine WPc_exit ?_
   exact H
def z2q_.j1 (s4 : Value) (h : Heap) (Q : Value → Heap → Prop) : Prop := Q (.tuple #[s4, (.bool true)]) h
def z2q_.j4 (s4 s7 s8 s9 : Value) (h : Heap) (K1 : List Value → Heap → Prop) (Q : Value → Heap → Prop) : Prop := arith (· + ·) s9 (.int .i64 1) fun b=>K1 [s4, b] h
def z2q_.j5 (s4 s6 s7 s8 s9 : Value) (h : Heap) (K1 : List Value → Heap → Prop) (Q : Value → Heap → Prop) : Prop := fld 0 s6 fun b=>loadN 2 b h fun d=>mkSl (if 1 * 2 = 0 then [] else zeros [(.int .i64 0), (.int .i64 0)] 1) 1 [(0 * 2, 2, d)] 45 h fun g h=>app 45 2 16 [(.int .i64 0), (.int .i64 0)] s4 g h fun i h=>z2q_.j4 i s7 s8 s9 h K1 Q
def z2q_.j3 (s4 s7 s8 s9 : Value) (h : Heap) (K1 : List Value → Heap → Prop) (Q : Value → Heap → Prop) : Prop := idx 3 s7 s9 fun b=>loadN 3 b h fun d=>alloc [(.int .i64 0), (.int .i64 0), (.bool false)] 47 h fun g h=>storeN 3 g d h fun h=>fld 2 g fun i=>load1 i h fun j=>notV j fun k=>ifV k (Q (.tuple #[(.slice none 0 0), (.bool false)]) h) (z2q_.j5 s4 g s7 s8 s9 h K1 Q)
def z2q_.l2.b (c7 c8 s4 s9 : Value) (h : Heap) (K1 : List Value → Heap → Prop) (Q : Value → Heap → Prop) : Prop := cmpI (fun a b=> decide (a < b)) s9 c8 fun b=>ifV b (z2q_.j3 s4 c7 c8 s9 h K1 Q) (z2q_.j1 s4 h Q)
def z2q_.sh (a0 : Value) (h : Heap) (Q : Value → Heap → Prop) : Prop := lenV a0 fun b=>loopC (fun c s h K1=> z2q_.l2.b (c.getD 0 undef) (c.getD 1 undef) (s.getD 0 undef) (s.getD 1 undef) h K1 Q) [a0, b] [(.slice none 0 0), (.int .i64 0)] h
theorem z2q_.body (a0 : Value) (h : Heap) (Q : Value → Heap → Prop) (H : z2q_.sh a0 h Q) : z2q_.call #[a0] h Q := by
 refine callsH_of (args := [a0]) Tryz.func13 rfl rfl ?_; unfold z2q_.sh at H; refine sR <| nS (.slice none 0 0) rfl<|nS (.bool false) rfl<|vl_e <| sR <| nS (.slice none 0 0) rfl<|vl_e ?_; refine WPc_seq (fun e h=> z2q_.j1 (e 4) h Q) ?_ (fun e h H=> ?_)
 rotate_left
 · unfold z2q_.j1 at H
   exact sR <| nM (e 4) rfl<|nS (e 4) rfl<|nS (.bool true) rfl<|vl_e <| WPc_ret <| resH_of rfl<|H
 refine sR <| nM a0 rfl<|nP (R_len Tryz.underlying30) H fun _ H=> nM (.int .i64 0) rfl<|vl_e <| WPc_block ?_; refine loop_at (fun e=> [e 4, e 9]) (fun e=> [e 7, e 8]) H rfl rfl ?_; intro K1 e1 h H hin1
 replace H : z2q_.l2.b (e1 7) (e1 8) (e1 4) (e1 9) h K1 Q := H
 unfold z2q_.l2.b at H; clear hin1; refine sR <| nP R_lss H fun _ H=> vl_e ?_; refine WPc_seq (fun e h=> z2q_.j3 (e 4) (e 7) (e 8) (e 9) h K1 Q ∧ [e1 7, e1 8] = [e 7, e 8]) ?_ (fun e h ⟨H, hq1⟩=> ?_)
 rotate_left
 · unfold z2q_.j3 at H
   refine WPc_seq (fun e h=> z2q_.j4 (e 4) (e 7) (e 8) (e 9) h K1 Q ∧ [e1 7, e1 8] = [e 7, e 8]) ?_ (fun e h ⟨H, hq1⟩=> ?_)
   rotate_left
   · unfold z2q_.j4 at H
     refine W_region (by kernel_rfl) <| nP R_add H fun t21 H=> nM t21 rfl<|vl_e ?_; exact ⟨H, hq1⟩
   refine WPc_block <| sR <| nP (R_idx TE_30) H fun _ H=> nLN TN_47 H fun _ H=> vl_n <| H_alloc TV_47 H fun _ h H=> vl_n <| H_storeN TS_47 H fun h H=> vl_e ?_; refine WPc_seq (fun e h=> z2q_.j5 (e 4) (e 6) (e 7) (e 8) (e 9) h K1 Q ∧ [e1 7, e1 8] = [e 7, e 8]) ?_ (fun e h ⟨H, hq1⟩=> ?_)
   rotate_left
   · unfold z2q_.j5 at H
     refine W_region (by kernel_rfl) <| nM (e 4) rfl<|nP (R_fld TF_47_0) H fun _ H=> nLN TN_45 H fun _ H=> vl_n <| H_mkSl TZ_25 (by decide) rfl H rfl fun _ h H=> vl_n <| H_app TZ_25 TU_25 H fun t20 h H=> nS t20 rfl<|vl_e ?_; exact ⟨H, hq1⟩
   refine sR <| nP (R_fld TF_47_1) H fun _ H=> nL T1_4 H fun _ H=> nP R_not H fun _ H=> vl_e ?_; refine cI H (fun H=> ?_) fun H=> ?_
   · exact sR <| nS (.slice none 0 0) rfl<|nS (.bool false) rfl<|vl_e <| WPc_ret <| resH_of rfl<|H
   · refine WPc_skip ?_
     exact ⟨H, hq1⟩
 refine cI H (fun H=> ?_) fun H=> ?_
 · refine WPc_skip ?_
   exact ⟨H, rfl⟩
 · refine WPc_exit ?_
   exact H
def z12_.j5 (s0 s1 s2 s6 s8 s9 : Value) (h : Heap) (K1 : List Value → Heap → Prop) (Q : Value → Heap → Prop) : Prop := nilck s8 fun b=>fld 3 b fun d=>load1 d h fun g=>nilck g fun i=>load1 i h fun j=>idx 1 j s9 fun k=>z0l_.call #[s0, k, s2] h fun l h=>K1 [s1, l] h
def z12_.j8 (s0 s1 s2 s6 s8 s9 : Value) (h : Heap) (K1 : List Value → Heap → Prop) (K2 : List Value → Heap → Prop) (Q : Value → Heap → Prop) : Prop := arith (· + ·) s9 (.int .i64 1) fun b=>K2 [s1, b] h
def z12_.j9 (s0 s1 s2 s6 s8 s9 : Value) (h : Heap) (K1 : List Value → Heap → Prop) (K2 : List Value → Heap → Prop) (Q : Value → Heap → Prop) : Prop := nilck s8 fun b=>fld 3 b fun d=>load1 d h fun g=>nilck g fun i=>load1 i h fun j=>idx 1 j s9 fun k=>load1 k h fun l=>nilck l fun m=>fld 1 m fun n=>load1 n h fun o=>arith (· + ·) o (.int .i64 1) fun p=>arith (· - ·) s1 p fun q=>z12_.j8 s0 q s2 s6 s8 s9 h K1 K2 Q
def z12_.j7 (s0 s1 s2 s6 s8 s9 : Value) (h : Heap) (K1 : List Value → Heap → Prop) (K2 : List Value → Heap → Prop) (Q : Value → Heap → Prop) : Prop := nilck s8 fun b=>fld 3 b fun d=>load1 d h fun g=>nilck g fun i=>load1 i h fun j=>idx 1 j s9 fun k=>load1 k h fun l=>nilck l fun m=>fld 1 m fun n=>load1 n h fun o=>cmpI (fun a b=> decide (a < b)) s1 o fun p=>ifV p (z12_.j5 s0 s1 s2 s6 s8 s9 h K1 Q) (nilck s8 fun q=>fld 3 q fun u=>load1 u h fun v=>nilck v fun w=>load1 w h fun x=>idx 1 x s9 fun y=>load1 y h fun z=>nilck z fun b0=>fld 1 b0 fun b1=>load1 b1 h fun b2=>cmpI (fun a b=> a == b) s1 b2 fun b3=>ifV b3 (nilck s8 fun b4=>fld 2 b4 fun b5=>load1 b5 h fun b6=>idx 2 b6 s9 fun b7=>loadN 2 b7 h fun b8=>storeN 2 s6 b8 h fun h=>loadN 2 s6 h fun b9=>Q (.tuple #[b9, (.bool true)]) h) (z12_.j9 s0 s1 s2 s6 s8 s9 h K1 K2 Q))
def z12_.l6.b (c0 c2 c6 c8 s1 s9 : Value) (h : Heap) (K1 : List Value → Heap → Prop) (K2 : List Value → Heap → Prop) (Q : Value → Heap → Prop) : Prop := nilck c8 fun b=>fld 2 b fun d=>load1 d h fun g=>lenV g fun i=>cmpI (fun a b=> decide (a < b)) s9 i fun j=>ifV j (z12_.j7 c0 s1 c2 c6 c8 s9 h K1 K2 Q) (z12_.j5 c0 s1 c2 c6 c8 s9 h K1 Q)
def z12_.j4 (s0 s1 s2 s6 s8 : Value) (h : Heap) (K1 : List Value → Heap → Prop) (Q : Value → Heap → Prop) : Prop := loopC (fun c s h K2=> z12_.l6.b (c.getD 0 undef) (c.getD 1 undef) (c.getD 2 undef) (c.getD 3 undef) (s.getD 0 undef) (s.getD 1 undef) h K1 K2 Q) [s0, s2, s6, s8] [s1, (.int .i64 0)] h
def z12_.l3.b (c0 c2 c6 s1 s8 : Value) (h : Heap) (K1 : List Value → Heap → Prop) (Q : Value → Heap → Prop) : Prop := z20_.call #[s8] h fun b h=>ifV b (nilck s8 fun d=>fld 2 d fun g=>load1 g h fun i=>idx 2 i s1 fun j=>loadN 2 j h fun k=>storeN 2 c6 k h fun h=>loadN 2 c6 h fun l=>Q (.tuple #[l, (.bool true)]) h) (z12_.j4 c0 s1 c2 c6 s8 h K1 Q)
def z12_.j2 (s0 s1 s2 s6 : Value) (h : Heap) (Q : Value → Heap → Prop) : Prop := nilck s0 fun b=>fld 2 b fun d=>z0l_.call #[s0, d, s2] h fun g h=>loopC (fun c s h K1=> z12_.l3.b (c.getD 0 undef) (c.getD 1 undef) (c.getD 2 undef) (s.getD 0 undef) (s.getD 1 undef) h K1 Q) [s0, s2, s6] [s1, g] h
def z12_.j1 (s0 s1 s2 s6 : Value) (h : Heap) (Q : Value → Heap → Prop) : Prop := nilck s0 fun b=>fld 2 b fun d=>load1 d h fun g=>eqNilP g fun i=>br i false (cmpI (fun a b=> decide (a < b)) s1 (.int .i64 0) fun j=>br j false (nilck s0 fun k=>fld 3 k fun l=>load1 l h fun m=>cmpI (fun a b=> decide (a ≥ b)) s1 m fun n=>ifV n (nilck s0 fun o=>fld 7 o fun p=>loadN 2 p h fun q=>storeN 2 s6 q h fun h=>loadN 2 s6 h fun u=>Q (.tuple #[u, (.bool false)]) h) (z12_.j2 s0 s1 s2 s6 h Q)) (nilck s0 fun v=>fld 7 v fun w=>loadN 2 w h fun x=>storeN 2 s6 x h fun h=>loadN 2 s6 h fun y=>Q (.tuple #[y, (.bool false)]) h)) (nilck s0 fun z=>fld 7 z fun b0=>loadN 2 b0 h fun b1=>storeN 2 s6 b1 h fun h=>loadN 2 s6 h fun b2=>Q (.tuple #[b2, (.bool false)]) h)
def z12_.sh (a0 a1 a2 : Value) (h : Heap) (Q : Value → Heap → Prop) : Prop := alloc [(.int .i64 0), (.int .i64 0)] 45 h fun b h=>z1e_.call #[a0, a2] h fun d h=>ifV d (False) (z12_.j1 a0 a1 a2 b h Q)
theorem z12_.body (a0 a1 a2 : Value) (h : Heap) (Q : Value → Heap → Prop) (H : z12_.sh a0 a1 a2 h Q) : z12_.call #[a0, a1, a2] h Q := by
 refine callsH_of (args := [a0, a1, a2]) Tryz.func101 rfl rfl ?_; unfold z12_.sh at H; refine sR <| vl_n <| H_alloc TV_45 H fun _ h H=> nS (.bool false) rfl<|vl_e ?_; refine WPc_seq (fun e h=> z12_.j1 (e 0) (e 1) (e 2) (e 6) h Q) ?_ (fun e h H=> ?_)
 rotate_left
 · unfold z12_.j1 at H
   refine WPc_seq (fun e h=> z12_.j2 (e 0) (e 1) (e 2) (e 6) h Q) ?_ (fun e h H=> ?_)
   rotate_left
   · unfold z12_.j2 at H
     refine sR <| nM (e 0) rfl<|nM (e 0) rfl<|nB TF_162_2 H fun _ _ H=> nM (e 2) rfl<|vl_n <| H_call HB_103 H fun t41 h H=> nS t41 rfl<|vl_e <| WPc_block ?_; refine loop_at (fun e=> [e 1, e 8]) (fun e=> [e 0, e 2, e 6]) H rfl rfl ?_; intro K1 e1 h H hin1
     replace H : z12_.l3.b (e1 0) (e1 2) (e1 6) (e1 1) (e1 8) h K1 Q := H
     unfold z12_.l3.b at H; clear hin1; refine WPc_block ?_; refine WPc_seq (fun e h=> z12_.j4 (e 0) (e 1) (e 2) (e 6) (e 8) h K1 Q ∧ [e1 0, e1 2, e1 6] = [e 0, e 2, e 6]) ?_ (fun e h ⟨H, hq1⟩=> ?_)
     rotate_left
     · unfold z12_.j4 at H
       refine sR <| nS (.int .i64 0) rfl<|vl_e ?_; refine WPc_seq (fun e h=> z12_.j5 (e 0) (e 1) (e 2) (e 6) (e 8) (e 9) h K1 Q ∧ [e1 0, e1 2, e1 6] = [e 0, e 2, e 6]) ?_ (fun e h ⟨H, hq1⟩=> ?_)
       rotate_left
       · unfold z12_.j5 at H
         refine W_region (by kernel_rfl) <| nM (e 0) rfl<|nM (e 8) rfl<|nT TF_167_3 T1_165 H fun _ _ _ H=> nP R_nil H fun _ H=> nL T1_168 H fun _ H=> nM (e 9) rfl<|nP (R_idx TE_168) H fun _ H=> nM (e 2) rfl<|vl_n <| H_call HB_103 H fun t120 h H=> nS t120 rfl<|vl_e ?_; exact ⟨H, hq1⟩
       refine WPc_block ?_; refine loop_at (fun e=> [e 1, e 9]) (fun e=> [e 0, e 2, e 6, e 8]) H rfl rfl ?_; intro K2 e2 h H hin2
       replace H : z12_.l6.b (e2 0) (e2 2) (e2 6) (e2 8) (e2 1) (e2 9) h K1 K2 Q := H
       unfold z12_.l6.b at H
       have hz1 : [e1 0, e1 2, e1 6] = [e2 0, e2 2, e2 6] := Eq.trans hq1 (congrArg (fun l : List Value=> [l.getD 0 undef, l.getD 1 undef, l.getD 2 undef]) hin2)
       clear hin2; refine WPc_seq (fun e h=> z12_.j7 (e 0) (e 1) (e 2) (e 6) (e 8) (e 9) h K1 K2 Q ∧ [e1 0, e1 2, e1 6] = [e 0, e 2, e 6] ∧ [e2 0, e2 2, e2 6, e2 8] = [e 0, e 2, e 6, e 8]) ?_ (fun e h ⟨H, hq1, hq2⟩=> ?_)
       rotate_left
       · unfold z12_.j7 at H
         refine WPc_seq (fun e h=> z12_.j8 (e 0) (e 1) (e 2) (e 6) (e 8) (e 9) h K1 K2 Q ∧ [e1 0, e1 2, e1 6] = [e 0, e 2, e 6] ∧ [e2 0, e2 2, e2 6, e2 8] = [e 0, e 2, e 6, e 8]) ?_ (fun e h ⟨H, hq1, hq2⟩=> ?_)
         rotate_left
         · unfold z12_.j8 at H
           refine W_region (by kernel_rfl) <| nM (e 9) rfl<|nP R_add H fun t59 H=> nS t59 rfl<|vl_e ?_; exact ⟨H, hq2⟩
         refine WPc_block ?_; refine WPc_seq (fun e h=> z12_.j9 (e 0) (e 1) (e 2) (e 6) (e 8) (e 9) h K1 K2 Q ∧ [e1 0, e1 2, e1 6] = [e 0, e 2, e 6] ∧ [e2 0, e2 2, e2 6, e2 8] = [e 0, e 2, e 6, e 8]) ?_ (fun e h ⟨H, hq1, hq2⟩=> ?_)
         rotate_left
         · unfold z12_.j9 at H
           refine W_region (by kernel_rfl) <| nM (e 1) rfl<|nM (e 8) rfl<|nT TF_167_3 T1_165 H fun _ _ _ H=> nP R_nil H fun _ H=> nL T1_168 H fun _ H=> nM (e 9) rfl<|nP (R_idx TE_168) H fun _ H=> nL T1_76 H fun _ H=> nT TF_167_1 T1_3 H fun _ _ _ H=> ?_; refine nP R_add H fun _ H=> nP R_sub H fun t109 H=> nS t109 rfl<|vl_e ?_; exact ⟨H, hq1, hq2⟩
         refine sR <| nM (e 1) rfl<|nM (e 8) rfl<|nT TF_167_3 T1_165 H fun _ _ _ H=> nP R_nil H fun _ H=> nL T1_168 H fun _ H=> nM (e 9) rfl<|nP (R_idx TE_168) H fun _ H=> nL T1_76 H fun _ H=> nT TF_167_1 T1_3 H fun _ _ _ H=> ?_; refine nP R_lss H fun _ H=> vl_e ?_; refine cI H (fun H=> ?_) fun H=> ?_
         · refine WPc_exit ?_
           exact ⟨H, hq1⟩
         · refine sR <| nM (e 1) rfl<|nM (e 8) rfl<|nT TF_167_3 T1_165 H fun _ _ _ H=> nP R_nil H fun _ H=> nL T1_168 H fun _ H=> nM (e 9) rfl<|nP (R_idx TE_168) H fun _ H=> nL T1_76 H fun _ H=> nT TF_167_1 T1_3 H fun _ _ _ H=> ?_
           refine nP R_eqI H fun _ H=> vl_e ?_; refine cI H (fun H=> ?_) fun H=> ?_
           · refine sR <| nM (e 8) rfl<|nT TF_167_2 T1_25 H fun _ _ _ H=> nM (e 9) rfl<|nP (R_idx TE_25) H fun _ H=> nLN TN_45 H fun _ H=> vl_n <| H_storeN TS_45 H fun h H=> nS (.bool true) rfl<|vl_e <| WPc_ret <| resH_of rfl<|resL_N TN_45 ?_
             exact loadN_imp H fun r6 H=> resL_t <| H
           · refine WPc_skip ?_
             exact ⟨H, hq1, hq2⟩
       refine sR <| nM (e2 9) rfl<|nM (e2 8) rfl<|nT TF_167_2 T1_25 H fun _ _ _ H=> nP (R_len Tryz.underlying25) H fun _ H=> nP R_lss H fun _ H=> vl_e ?_; refine cI H (fun H=> ?_) fun H=> ?_
       · refine WPc_skip ?_
         exact ⟨H, hz1, rfl⟩
       · refine WPc_exit ?_
         exact ⟨H, hz1⟩
     refine sR <| nM (e1 8) rfl<|vl_n <| H_call HB_104 H fun _ h H=> vl_e ?_; refine cI H (fun H=> ?_) fun H=> ?_
     · refine sR <| nM (e1 8) rfl<|nT TF_167_2 T1_25 H fun _ _ _ H=> nM (e1 1) rfl<|nP (R_idx TE_25) H fun _ H=> nLN TN_45 H fun _ H=> vl_n <| H_storeN TS_45 H fun h H=> nS (.bool true) rfl<|vl_e <| WPc_ret <| resH_of rfl<|resL_N TN_45 ?_
       exact loadN_imp H fun r6 H=> resL_t <| H
     · refine WPc_skip ?_
       exact ⟨H, rfl⟩
   refine sR <| nM (e 0) rfl<|nT TF_162_2 T1_76 H fun _ _ _ H=> nP (R_eqNilP Tryz.underlying76 rfl) H fun t19 H=> nM t19 rfl ?_; obtain ⟨b, hb, H1, H2⟩ := H
   cases b
   · have H := H1 rfl
     clear H1 H2; refine vl_y rfl hb ?_; refine H_of_R (R_move (v := (e 1)) rfl ?_)
     refine vl_y rfl hb ?_; refine H_of_R (R_lss H fun t22 H=> ?_)
     refine nA (R_pickC (v := t22) false hb rfl) <| nM t22 rfl ?_; obtain ⟨b_2, hb_2, H1, H2⟩ := H
     cases b_2
     · have H := H1 rfl
       clear H1 H2; refine vl_y rfl hb_2 ?_; refine H_of_R (R_move (v := (e 1)) rfl ?_)
       refine vl_y rfl hb_2 ?_; refine H_of_R (R_move (v := (e 0)) rfl ?_)
       refine vl_y rfl hb_2 ?_; refine H_of_R (R_nil H fun _ H=> ?_)
       refine vl_y rfl hb_2 ?_; refine H_of_R (R_fld TF_162_3 H fun _ H=> ?_)
       refine vl_y rfl hb_2 ?_; refine H_of_R (R_load1 T1_3 H fun _ _ _ _ H=> ?_)
       refine vl_y rfl hb_2 ?_; refine H_of_R (R_geq H fun t30 H=> ?_)
       refine nA (R_pickC (v := t30) false hb_2 rfl) <| vl_e ?_; refine cI H (fun H=> ?_) fun H=> ?_
       · exact sR <| nM (e 0) rfl<|nB TF_162_7 H fun _ _ H=> nLN TN_45 H fun _ H=> vl_n <| H_storeN TS_45 H fun h H=> nS (.bool false) rfl<|vl_e <| WPc_ret <| resH_of rfl<|resL_N TN_45 <| loadN_imp H fun r6 H=> resL_t <| H
       · exact WPc_skip <| H
     · have H := H2 rfl
       clear H1 H2; refine vl_s rfl (nbF hb_2) ?_; refine vl_s rfl (nbF hb_2) ?_; refine vl_s rfl (nbF hb_2) ?_; refine vl_s rfl (nbF hb_2) ?_; refine vl_s rfl (nbF hb_2) ?_; refine vl_s rfl (nbF hb_2) ?_; refine nA (R_pickC (v := (.bool true)) true hb_2 rfl) <| vl_e ?_; refine WPc_cond (t := true) rfl (fun _=> ?_) (fun hh=> by cases hh)
       exact sR <| nM (e 0) rfl<|nB TF_162_7 H fun _ _ H=> nLN TN_45 H fun _ H=> vl_n <| H_storeN TS_45 H fun h H=> nS (.bool false) rfl<|vl_e <| WPc_ret <| resH_of rfl<|resL_N TN_45 <| loadN_imp H fun r6_2 H=> resL_t <| H
   · have H := H2 rfl
     clear H1 H2; refine vl_s rfl (nbF hb) ?_; refine vl_s rfl (nbF hb) ?_; refine nA (R_pickC (v := (.bool true)) true hb rfl) <| nM (.bool true) rfl ?_; refine vl_s rfl (nbF rfl) ?_; refine vl_s rfl (nbF rfl) ?_; refine vl_s rfl (nbF rfl) ?_; refine vl_s rfl (nbF rfl) ?_; refine vl_s rfl (nbF rfl) ?_; refine vl_s rfl (nbF rfl) ?_; refine nA (R_pickC (v := (.bool true)) true rfl rfl) <| vl_e ?_; refine WPc_cond (t := true) rfl (fun _=> ?_) (fun hh=> by cases hh)
     exact sR <| nM (e 0) rfl<|nB TF_162_7 H fun _ _ H=> nLN TN_45 H fun _ H=> vl_n <| H_storeN TS_45 H fun h H=> nS (.bool false) rfl<|vl_e <| WPc_ret <| resH_of rfl<|resL_N TN_45 <| loadN_imp H fun r6_3 H=> resL_t <| H
 refine sR <| nM a0 rfl<|nM a2 rfl<|vl_n <| H_call HB_102 H fun _ h H=> vl_e ?_; refine cI H (fun H=> ?_) fun H=> ?_
 · refine W_region (by kernel_rfl) <| nM a0 rfl<|nM a2 rfl ?_
   refine vl_n ?_; exact H.elim
 · exact WPc_skip <| H
def z10_.sh (a0 a1 : Value) (h : Heap) (Q : Value → Heap → Prop) : Prop := alloc [(.int .i64 0), (.int .i64 0)] 45 h fun b h=>z12_.call #[a0, a1, (.bool false)] h fun d h=>extr 0 d fun g=>extr 1 d fun i=>storeN 2 b g h fun h=>loadN 2 b h fun j=>Q (.tuple #[j, i]) h
theorem z10_.body (a0 a1 : Value) (h : Heap) (Q : Value → Heap → Prop) (H : z10_.sh a0 a1 h Q) : z10_.call #[a0, a1] h Q := by
 refine callsH_of (args := [a0, a1]) Tryz.func49 rfl rfl ?_; unfold z10_.sh at H; refine sR <| vl_n <| H_alloc TV_45 H fun _ h H=> nS (.bool false) rfl<|vl_e <| sR <| nM a0 rfl<|nM a1 rfl<|vl_n <| H_call HB_101 H fun _ h H=> nP R_ext H fun _ H=> nP R_ext H fun t10 H=> vl_n <| H_storeN TS_45 H fun h H=> nS t10 rfl<|vl_e <| WPc_ret ?_; exact resH_of rfl<|resL_N TN_45 <| loadN_imp H fun r4 H=> resL_t <| H
def z2c_.j1 (s8 : Value) (h : Heap) (Q : Value → Heap → Prop) : Prop := Q s8 h
def z2c_.j4 (s7 s8 s14 s15 s16 : Value) (h : Heap) (K1 : List Value → Heap → Prop) (Q : Value → Heap → Prop) : Prop := arith (· + ·) s16 (.int .i64 1) fun b=>K1 [s8, b] h
def z2c_.j3 (s7 s8 s14 s15 s16 : Value) (h : Heap) (K1 : List Value → Heap → Prop) (Q : Value → Heap → Prop) : Prop := idx 1 s14 s16 fun b=>load1 b h fun d=>z10_.call #[s7, d] h fun g h=>extr 0 g fun i=>extr 1 g fun j=>z2n_.call #[i, j] h fun k h=>mkSl (if 1 * 3 = 0 then [] else zeros [(.int .i64 0), (.int .i64 0), (.bool false)] 1) 1 [(0 * 3, 3, k)] 47 h fun l h=>app 47 3 24 [(.int .i64 0), (.int .i64 0), (.bool false)] s8 l h fun m h=>z2c_.j4 s7 m s14 s15 s16 h K1 Q
def z2c_.l2.b (c7 c14 c15 s8 s16 : Value) (h : Heap) (K1 : List Value → Heap → Prop) (Q : Value → Heap → Prop) : Prop := cmpI (fun a b=> decide (a < b)) s16 c15 fun b=>ifV b (z2c_.j3 c7 s8 c14 c15 s16 h K1 Q) (z2c_.j1 s8 h Q)
def z2c_.sh (a0 a1 a2 : Value) (h : Heap) (Q : Value → Heap → Prop) : Prop := box 24 a0 h fun b h=>loadN 3 b h fun d=>z2v_.call #[d, a1] h fun g h=>lenV a2 fun i=>loopC (fun c s h K1=> z2c_.l2.b (c.getD 0 undef) (c.getD 1 undef) (c.getD 2 undef) (s.getD 0 undef) (s.getD 1 undef) h K1 Q) [g, a2, i] [(.slice none 0 0), (.int .i64 0)] h
theorem z2c_.body (a0 a1 a2 : Value) (h : Heap) (Q : Value → Heap → Prop) (H : z2c_.sh a0 a1 a2 h Q) : z2c_.call #[a0, a1, a2] h Q := by
 refine callsH_of (args := [a0, a1, a2]) Tryz.func14 rfl rfl ?_; unfold z2c_.sh at H; refine sR <| vl_n <| H_box H fun _ h H=> nS (.slice none 0 0) rfl<|vl_e <| sR <| nLN TN_24 H fun _ H=> nM a1 rfl<|vl_n <| H_call HB_43 H fun t13 h H=> nS t13 rfl<|vl_e <| sR <| nS (.slice none 0 0) rfl<|vl_e ?_; refine WPc_seq (fun e h=> z2c_.j1 (e 8) h Q) ?_ (fun e h H=> ?_)
 rotate_left
 · unfold z2c_.j1 at H
   exact sR <| nM (e 8) rfl<|nS (e 8) rfl<|vl_e <| WPc_ret <| resH_of rfl<|H
 refine sR <| nM a2 rfl<|nP (R_len Tryz.underlying22) H fun _ H=> nM (.int .i64 0) rfl<|vl_e <| WPc_block ?_; refine loop_at (fun e=> [e 8, e 16]) (fun e=> [e 7, e 14, e 15]) H rfl rfl ?_; intro K1 e1 h H hin1
 replace H : z2c_.l2.b (e1 7) (e1 14) (e1 15) (e1 8) (e1 16) h K1 Q := H
 unfold z2c_.l2.b at H; clear hin1; refine sR <| nP R_lss H fun _ H=> vl_e ?_; refine WPc_seq (fun e h=> z2c_.j3 (e 7) (e 8) (e 14) (e 15) (e 16) h K1 Q ∧ [e1 7, e1 14, e1 15] = [e 7, e 14, e 15]) ?_ (fun e h ⟨H, hq1⟩=> ?_)
 rotate_left
 · unfold z2c_.j3 at H
   refine WPc_seq (fun e h=> z2c_.j4 (e 7) (e 8) (e 14) (e 15) (e 16) h K1 Q ∧ [e1 7, e1 14, e1 15] = [e 7, e 14, e 15]) ?_ (fun e h ⟨H, hq1⟩=> ?_)
   rotate_left
   · unfold z2c_.j4 at H
     refine W_region (by kernel_rfl) <| nP R_add H fun t29 H=> nM t29 rfl<|vl_e ?_; exact ⟨H, hq1⟩
   refine WPc_block <| sR <| nP (R_idx TE_22) H fun _ H=> nL T1_3 H fun t19 H=> nS t19 rfl<|vl_e <| W_region (by kernel_rfl) <| nM (e 8) rfl<|nM (e 7) rfl<|nM t19 rfl<|vl_n <| H_call HB_49 H fun _ h H=> nP R_ext H fun _ H=> nP R_ext H fun _ H=> vl_n <| H_call HB_48 H fun _ h H=> ?_; refine vl_n <| H_mkSl TZ_30 (by decide) rfl H rfl fun _ h H=> vl_n <| H_app TZ_30 TU_30 H fun t28 h H=> nS t28 rfl<|vl_e ?_; exact ⟨H, hq1⟩
 refine cI H (fun H=> ?_) fun H=> ?_
 · refine WPc_skip ?_
   exact ⟨H, rfl⟩
 · refine WPc_exit ?_
   exact H
def z2h_.j1 (s3 : Value) (h : Heap) (Q : Value → Heap → Prop) : Prop := Q s3 h
def z2h_.j4 (s3 s5 s6 : Value) (h : Heap) (K1 : List Value → Heap → Prop) (Q : Value → Heap → Prop) : Prop := arith (· + ·) s6 (.int .i64 1) fun b=>K1 [s3, b] h
def z2h_.j3 (s3 s5 s6 : Value) (h : Heap) (K1 : List Value → Heap → Prop) (Q : Value → Heap → Prop) : Prop := mkSl (if 1 * 1 = 0 then [] else zeros [(.int .i64 0)] 1) 1 [(0 * 1, 1, s6)] 3 h fun b h=>app 3 1 8 [(.int .i64 0)] s3 b h fun d h=>z2h_.j4 d s5 s6 h K1 Q
def z2h_.l2.b (c5 s3 s6 : Value) (h : Heap) (K1 : List Value → Heap → Prop) (Q : Value → Heap → Prop) : Prop := cmpI (fun a b=> decide (a < b)) s6 c5 fun b=>ifV b (z2h_.j3 s3 c5 s6 h K1 Q) (z2h_.j1 s3 h Q)
def z2h_.sh (a0 : Value) (h : Heap) (Q : Value → Heap → Prop) : Prop := loopC (fun c s h K1=> z2h_.l2.b (c.getD 0 undef) (s.getD 0 undef) (s.getD 1 undef) h K1 Q) [a0] [(.slice none 0 0), (.int .i64 0)] h
theorem z2h_.body (a0 : Value) (h : Heap) (Q : Value → Heap → Prop) (H : z2h_.sh a0 h Q) : z2h_.call #[a0] h Q := by
 refine callsH_of (args := [a0]) Tryz.func15 rfl rfl ?_; unfold z2h_.sh at H; refine sR <| nS (.slice none 0 0) rfl<|vl_e <| sR <| nS (.slice none 0 0) rfl<|vl_e ?_; refine WPc_seq (fun e h=> z2h_.j1 (e 3) h Q) ?_ (fun e h H=> ?_)
 rotate_left
 · unfold z2h_.j1 at H
   exact sR <| nM (e 3) rfl<|nS (e 3) rfl<|vl_e <| WPc_ret <| resH_of rfl<|H
 refine sR <| nM a0 rfl<|nM (.int .i64 0) rfl<|vl_e <| WPc_block ?_; refine loop_at (fun e=> [e 3, e 6]) (fun e=> [e 5]) H rfl rfl ?_; intro K1 e1 h H hin1
 replace H : z2h_.l2.b (e1 5) (e1 3) (e1 6) h K1 Q := H
 unfold z2h_.l2.b at H; clear hin1; refine sR <| nP R_lss H fun _ H=> vl_e ?_; refine WPc_seq (fun e h=> z2h_.j3 (e 3) (e 5) (e 6) h K1 Q ∧ [e1 5] = [e 5]) ?_ (fun e h ⟨H, hq1⟩=> ?_)
 rotate_left
 · unfold z2h_.j3 at H
   refine WPc_seq (fun e h=> z2h_.j4 (e 3) (e 5) (e 6) h K1 Q ∧ [e1 5] = [e 5]) ?_ (fun e h ⟨H, hq1⟩=> ?_)
   rotate_left
   · unfold z2h_.j4 at H
     refine W_region (by kernel_rfl) <| nP R_add H fun t13 H=> nM t13 rfl<|vl_e ?_; exact ⟨H, hq1⟩
   refine WPc_block <| sR <| nM (e 6) rfl<|nS (e 6) rfl<|vl_e <| W_region (by kernel_rfl) <| nM (e 3) rfl<|nM (e 6) rfl<|vl_n <| H_mkSl TZ_22 (by decide) rfl H rfl fun _ h H=> vl_n <| H_app TZ_22 TU_22 H fun t12 h H=> nS t12 rfl<|vl_e ?_; exact ⟨H, hq1⟩
 refine cI H (fun H=> ?_) fun H=> ?_
 · refine WPc_skip ?_
   exact ⟨H, rfl⟩
 · refine WPc_exit ?_
   exact H
theorem degree_ok {h : Heap} {Q : Value → Heap → Prop} {d : Int} (h1 : 2 ≤ d) (h2 : d ≤ 1073741824) (H : Q (.tuple #[.int .i64 (d - 1), .int .i64 (2 * d - 1)]) h) : z14_.call #[.int .i64 d] h Q := by
 refine z14_.body _ _ _ ?_; unfold z14_.sh
 simp only [w_load1, w_loadN, w_nil, w_fld, w_idx, w_len, w_lenStr, w_cap, w_arith, w_divi, w_remi, w_cmpI, w_cmpS, w_not, w_ext, w_eqNilP, w_neNilP, w_eqB, w_pick, w_max, w_ifV, w_br, w_store1, w_storeN, w_alloc, w_box, add_mk, Nat.zero_add, Nat.add_zero, Option.some.injEq, exists_eq_left', List.getElem?_cons_zero, List.getElem?_cons_succ, List.getD_cons_zero, List.getD_cons_succ]
 refine ⟨fun e => absurd e (by simp; omega), fun _ => ⟨fun e => absurd e (by simp; omega), fun _ => ?_⟩⟩
 unfold z14_.j1
 simp only [w_load1, w_loadN, w_nil, w_fld, w_idx, w_len, w_lenStr, w_cap, w_arith, w_divi, w_remi, w_cmpI, w_cmpS, w_not, w_ext, w_eqNilP, w_neNilP, w_eqB, w_pick, w_max, w_ifV, w_br, w_store1, w_storeN, w_alloc, w_box, add_mk, Nat.zero_add, Nat.add_zero, Option.some.injEq, exists_eq_left', List.getElem?_cons_zero, List.getElem?_cons_succ, List.getD_cons_zero, List.getD_cons_succ]
 rw [i64w (n := d * 2) (by omega) (by omega), i64w (n := d * 2 - 1) (by omega) (by omega)]
 have hd : (d * 2 - 1).tdiv 2 = d - 1 := by rw [Int.tdiv_eq_ediv_of_nonneg (by omega)]; omega
 rw [hd, i64w (n := d - 1) (by omega) (by omega), show d * 2 - 1 = 2 * d - 1 by omega]; exact ⟨by decide, H⟩
theorem degree_zero {h : Heap} {Q : Value → Heap → Prop} (H : Q (.tuple #[.int .i64 31, .int .i64 63]) h) : z14_.call #[.int .i64 0] h Q := by
 refine z14_.body _ _ _ ?_; unfold z14_.sh
 simp only [w_load1, w_loadN, w_nil, w_fld, w_idx, w_len, w_lenStr, w_cap, w_arith, w_divi, w_remi, w_cmpI, w_cmpS, w_not, w_ext, w_eqNilP, w_neNilP, w_eqB, w_pick, w_max, w_ifV, w_br, w_store1, w_storeN, w_alloc, w_box, add_mk, Nat.zero_add, Nat.add_zero, Option.some.injEq, exists_eq_left', List.getElem?_cons_zero, List.getElem?_cons_succ, List.getD_cons_zero, List.getD_cons_succ]
 refine ⟨fun _ => ?_, fun e => absurd e (by simp)⟩
 unfold z14_.j1
 simp only [w_load1, w_loadN, w_nil, w_fld, w_idx, w_len, w_lenStr, w_cap, w_arith, w_divi, w_remi, w_cmpI, w_cmpS, w_not, w_ext, w_eqNilP, w_neNilP, w_eqB, w_pick, w_max, w_ifV, w_br, w_store1, w_storeN, w_alloc, w_box, add_mk, Nat.zero_add, Nat.add_zero, Option.some.injEq, exists_eq_left', List.getElem?_cons_zero, List.getElem?_cons_succ, List.getD_cons_zero, List.getD_cons_succ]
 exact ⟨by decide, H⟩
end Go.Proofs.YtgnnidefbeoibaaGreat
end
section
namespace Go.Proofs.YtgnnidefbeoibaaGreat.Gi
open Go.Hp
abbrev It := Int × Int
abbrev enc (p : It) : List Value := [.int .i64 p.1, .int .i64 p.2]
abbrev emp : It := (0, 0)
abbrev av (p : It) : Value := .agg (enc p).toArray
abbrev hd0 (iso : Int) (ctr : Option Addr) : List Value := [.int .u64 iso, .pointer ctr]
abbrev hd4 (lf : Value) (mn mx : Int) : List Value := [.bool false, .bool false, lf] ++ enc emp ++ [.int .i64 mx, .int .i64 mn]
abbrev hdr (iso : Int) (ctr root : Option Addr) (cnt : Int) (lf : Value) (mn mx : Int) : List Value := [.int .u64 iso, .pointer ctr, .pointer root, .int .i64 cnt] ++ hd4 lf mn mx
theorem encl (p : It) : (enc p).length = 2 := rfl
theorem enc1 (p : It) : ∀ y ∈ enc p, one1 y = true := by simp [one1]
structure OrdC (Z : List Rg) (lf : Value) (lt : It → It → Bool) : Prop where
 nn : notNil lf = true
 one : one1 lf = true
 call : ∀ {h0 h : Heap} {E : List Rg} {a b : It} {Q : Value → Heap → Prop}, St h0 Z E h → (∀ E' h', St h [] E' h' → Q (.bool (lt a b)) h') → callV Tryz.prog lf #[av a, av b] h Q
theorem OrdC.mono {Z Z' : List Rg} {lf : Value} {lt : It → It → Bool} (o : OrdC Z lf lt) (hz : ∀ r, r ∈ Z → r ∈ Z') : OrdC Z' lf lt := ⟨o.nn, o.one, fun s H => o.call (s.subZ hz) H⟩
def HintC (hc : List Value) : Prop := ∃ (us : List Bool) (ps : List Int), us.length = 8 ∧ ps.length = 8 ∧ (∀ p ∈ ps, 0 ≤ p ∧ p ≤ 255) ∧ hc = (us.map fun b => .bool b) ++ ps.map fun p => .int .u8 p
theorem HintC.len {hc : List Value} (h : HintC hc) : hc.length = 16 := by
 obtain ⟨us, ps, h1, h2, _, rfl⟩ := h; simp [h1, h2]
theorem HintC.used {hc : List Value} (h : HintC hc) {i : Nat} (hi : i < 8) : ∃ b, hc[i]? = some (.bool b) := by
 obtain ⟨us, ps, h1, h2, _, rfl⟩ := h; exact ⟨us[i], by rw [List.getElem?_append_left (by simp; omega), List.getElem?_map, List.getElem?_eq_getElem (by omega)]; rfl⟩
theorem HintC.path {hc : List Value} (h : HintC hc) {i : Nat} (hi : i < 8) : ∃ p, hc[8 + i]? = some (.int .u8 p) ∧ 0 ≤ p ∧ p ≤ 255 := by
 obtain ⟨us, ps, h1, h2, h3, rfl⟩ := h; refine ⟨ps[i], ?_, h3 _ (List.getElem_mem _)⟩
 rw [List.getElem?_append_right (by simp; omega), length_map, h1, Nat.add_sub_cancel_left, List.getElem?_map, List.getElem?_eq_getElem (by omega)]; rfl
theorem HintC.setU {hc : List Value} (h : HintC hc) {i : Nat} (hi : i < 8) (b : Bool) : HintC (hc.set i (.bool b)) := by
 obtain ⟨us, ps, h1, h2, h3, rfl⟩ := h; refine ⟨us.set i b, ps, by simp [h1], h2, h3, ?_⟩
 rw [List.set_append_left _ _ (by simp; omega), List.map_set]
theorem HintC.setP {hc : List Value} (h : HintC hc) {i : Nat} (hi : i < 8) {p : Int} (h0 : 0 ≤ p) (hp : p ≤ 255) : HintC (hc.set (8 + i) (.int .u8 p)) := by
 obtain ⟨us, ps, h1, h2, h3, rfl⟩ := h; refine ⟨us, ps.set i p, h1, by simp [h2], fun q hq => ?_, ?_⟩
 · rcases List.mem_or_eq_of_mem_set hq with e | e
   · exact h3 q e
   · rw [e]; exact ⟨h0, hp⟩
 · rw [List.set_append_right _ _ (by simp; omega), length_map, h1, Nat.add_sub_cancel_left, List.map_set]
theorem HintC.zero : HintC (List.replicate 8 (.bool false) ++ List.replicate 8 (.int .u8 0)) := ⟨List.replicate 8 false, List.replicate 8 0, rfl, rfl, by simp, by simp⟩
def HnO (hv : Value) (hb ho : Nat) (hc : List Value) : Prop := (hv = .pointer none ∧ hc = []) ∨ (hv = ptr hb ho ∧ HintC hc)
abbrev Hn (hv : Value) (hb : Nat) (hc : List Value) : Prop := HnO hv hb 0 hc
theorem Hn.none : Hn (.pointer none) 0 [] := .inl ⟨rfl, rfl⟩
theorem Hn.some {hb : Nat} {hc : List Value} (h : HintC hc) : Hn (ptr hb 0) hb hc := .inr ⟨rfl, h⟩
theorem u64w {n : Int} (h1 : 0 ≤ n) (h2 : n ≤ 9223372036854775807) : IntKind.wrap .u64 n = n := by
 have e : IntKind.wrap .u64 n = n % 18446744073709551616 := rfl
 rw [e]; omega
theorem u8w (n : Int) : 0 ≤ IntKind.wrap .u8 n ∧ IntKind.wrap .u8 n ≤ 255 := by
 have e : IntKind.wrap .u8 n = n % 256 := rfl
 rw [e]; omega
theorem r_idxA {len sz b o : Nat} {k : IntKind} {i : Int} {K : Value → Prop} (n j : Nat) (hi : i = n) (hn : n < len) (hj : o + n * sz = j) (H : K (ptr b j)) : idxA len sz (ptr b o) (.int k i) K :=
 ⟨_, k, i, rfl, rfl, by omega, by omega, by rw [add_mk, show i.toNat = n by omega, hj]; exact H⟩
theorem r_div2 {n : Nat} {K : Value → Prop} (h : n ≤ 9223372036854775807) (H : K (.int .i64 ((n / 2 : Nat) : Int))) : divi (.int .i64 n) (.int .i64 2) K :=
 ⟨.i64, _, _, rfl, rfl, by decide, by rw [show ((n : Int)).tdiv 2 = ((n / 2 : Nat) : Int) from (Int.ofNat_tdiv n 2).symm, i64w (by omega) (by omega)]; exact H⟩
theorem _root_.Go.Hp.St.dropMid {h0 h : Heap} {Z A E : List Rg} {r : Rg} (s : St h0 Z (r :: (A ++ E)) h) : St h0 Z (r :: E) h := s.sub (List.Sublist.cons_cons _ (List.sublist_append_right _ _))
theorem found_at {lt : It → It → Bool} (o : Swo lt) {its : List It} {x : It} (ha : Asc lt its) {i : Nat} (hi : i < its.length) (h1 : lt x its[i] = false) (h2 : lt its[i] x = false) : pos lt its x = i ∧ (lget lt its x).isSome = true := by
 have hs : ∀ i j (hi : i < its.length) (hj : j < its.length), i < j → lt its[i] its[j] = true := fun i j hi hj hij => List.pairwise_iff_getElem.1 ha i j hi hj hij
 have e : pos lt its x = i := pos_uni (by omega) (fun j hj hjl => o.tr1 (hs j i hj hi hjl) h1) (fun _ => h2)
 refine ⟨e, ?_⟩
 unfold lget; rw [e, List.getElem?_eq_getElem hi, Option.bind_some, h1]; rfl
theorem notfound_at {lt : It → It → Bool} (o : Swo lt) {its : List It} {x : It} (ha : Asc lt its) {i : Nat} (hi : i ≤ its.length) (h1 : ∀ (h : i < its.length), lt x its[i] = true) (h2 : ∀ (h : i - 1 < its.length), 0 < i → lt its[i - 1] x = true) : pos lt its x = i ∧ (lget lt its x).isSome = false := by
 have hs : ∀ i j (hi : i < its.length) (hj : j < its.length), i < j → lt its[i] its[j] = true := fun i j hi hj hij => List.pairwise_iff_getElem.1 ha i j hi hj hij
 have e : pos lt its x = i := by
  refine pos_uni hi (fun j hj hjl => ?_) (fun hl => o.asym (h1 hl))
  rcases Nat.lt_or_ge j (i - 1) with hl | hl
  · exact o.tr _ _ _ (hs j (i - 1) hj (by omega) hl) (h2 (by omega) (by omega))
  · have : j = i - 1 := by omega
    subst this; exact h2 hj (by omega)
 refine ⟨e, ?_⟩
 unfold lget; rw [e]
 rcases Nat.lt_or_ge i its.length with hl | hl
 · rw [List.getElem?_eq_getElem hl, Option.bind_some, h1 hl]; rfl
 · rw [List.getElem?_eq_none hl]; rfl
end Go.Proofs.YtgnnidefbeoibaaGreat.Gi
end
section
namespace Go.Proofs.YtgnnidefbeoibaaGreat.Gi
open Go.Hp Go.Proofs.YtgnnidefbeoibaaGreat
variable {h0 h : Heap} {Z E : List Rg} {Q : Value → Heap → Prop} {lt : It → It → Bool} {lf : Value}
theorem bsearch_ok (o : Swo lt) (hO : OrdC Z lf lt) {tb n : Nat} {iv : Value} {its : List It} {x : It} (s : St h0 Z E h) (hlf : cl h tb 6 = some lf) (hn : cl h n 2 = some iv) (hr : Rdl 2 h iv its.length (its.flatMap enc)) (ha : Asc lt its) (hb : its.length ≤ 4611686018427387903)
  (H : ∀ E' h', St h [] E' h' → Q (.tuple #[.int .i64 (pos lt its x), .bool (lget lt its x).isSome]) h') : z0k_.call #[ptr tb 0, ptr n 0, av x] h Q := by
 have hs : ∀ i j (hi : i < its.length) (hj : j < its.length), i < j → lt its[i] its[j] = true := fun i j hi hj hij => List.pairwise_iff_getElem.1 ha i j hi hj hij
 refine z0k_.body _ _ _ _ _ ?_; unfold z0k_.sh
 have u := St.start h
 refine St.r_box (cs := enc x) u fun t5 h1 u => ?_; refine r_nil (r_fld ?_)
 refine u.r_loadB hn ?_; refine hr.lenV ?_
 refine loop_intro (fun st h' => ∃ (lo hi : Nat) (R : List Rg), st = [.int .i64 lo, .int .i64 hi] ∧ lo ≤ hi ∧ hi ≤ its.length ∧ (∀ i (hi' : i < its.length), i < lo → lt x its[i] = false) ∧ (∀ i (hi' : i < its.length), hi ≤ i → lt x its[i] = true) ∧ St h [] ((t5, 0, enc x) :: R) h')
  (fun st _ => (Hp.iv (st.getD 1 undef) - Hp.iv (st.getD 0 undef)).toNat) ⟨0, its.length, [], rfl, by omega, by omega, fun i hi hl => by omega, fun i h1 h2 => by omega, u⟩ ?_
 clear u
 rintro st h1 ⟨lo, hi, R, rfl, h1', h2, h3, h4, u⟩
 unfold z0k_.l3.b; refine r_cmpI ?_; refine r_if (fun hlt => ?_) (fun hge => ?_)
 · have hlt : lo < hi := by simpa using hlt
   have hm : (lo + hi) / 2 < its.length := by omega
   unfold z0k_.j4; refine r_add (z := ((lo + hi : Nat) : Int)) (by rw [i64w (by omega) (by omega)]; omega) ?_; refine r_cvI (z := ((lo + hi : Nat) : Int)) (u64w (by omega) (by omega)) ?_; refine r_shr (z := (((lo + hi) / 2 : Nat) : Int)) (by decide) (by show (((lo + hi : Nat) : Int)).fdiv 2 = _; rw [Int.fdiv_eq_ediv_of_nonneg _ (by decide)]; omega) ?_; refine r_cvI (z := (((lo + hi) / 2 : Nat) : Int)) (i64w (by omega) (by omega)) ?_; refine r_nil (r_fld ?_)
   refine u.r_loadB hlf ?_; refine St.r_loadN0 u 0 rfl (by simp) ?_; refine r_nil (r_fld ?_)
   refine u.r_loadB hn ?_; refine hr.at (n := (lo + hi) / 2) (f := enc) rfl encl rfl rfl hm fun b ob hbb => ?_; refine (hbb.st u).loadN rfl ?_; refine hO.call (s.join u) (a := x) (b := its[(lo + hi) / 2]) fun E2 h2' u2 => ?_
   have u := (u.join u2).perm List.perm_append_comm
   refine r_not ?_; refine r_if (fun hc => ?_) (fun hc => ?_)
   · have hc : lt x its[(lo + hi) / 2] = false := by simpa using hc
     refine r_add (z := (((lo + hi) / 2 + 1 : Nat) : Int)) (by rw [i64w (by omega) (by omega)]; omega) ?_; refine ⟨⟨(lo + hi) / 2 + 1, hi, _, rfl, by omega, h2, fun i hi' hl => ?_, h4, u⟩, by simp; omega⟩
     rcases Nat.lt_or_ge i ((lo + hi) / 2) with hl | hl
     · cases e : lt x its[i] with
       | false => rfl
       | true => have := o.tr _ _ _ e (hs i _ hi' hm hl); rw [hc] at this; cases this
     · have : i = (lo + hi) / 2 := by omega
       subst this; exact hc
   · have hc : lt x its[(lo + hi) / 2] = true := by simpa using hc
     refine ⟨⟨lo, (lo + hi) / 2, _, rfl, by omega, by omega, h3, fun i hi1 hi2 => ?_, u⟩, by simp; omega⟩
     rcases Nat.lt_or_ge ((lo + hi) / 2) i with hl | hl
     · exact o.tr _ _ _ hc (hs _ i hm hi1 hl)
     · have : i = (lo + hi) / 2 := by omega
       subst this; exact hc
 · have hge : lo = hi := by simp at hge; omega
   subst hge
   have no : ∀ {h' : Heap} {R : List Rg}, St h [] R h' → (∀ hp : lo - 1 < its.length, 0 < lo → lt its[lo - 1] x = true) → z0k_.j2 (.int .i64 lo) h' Q := fun u h5 => by
    obtain ⟨e1, e2⟩ := notfound_at o (x := x) ha h2 (fun hl => h4 lo hl (Nat.le_refl _)) h5
    have := H _ _ u
    rw [e1, e2] at this; exact this
   unfold z0k_.j1; refine r_cmpI ?_; refine r_br (fun hpos => ?_) (fun hz => ?_)
   · have hpos : 0 < lo := by simpa using hpos
     have hm : lo - 1 < its.length := by omega
     refine r_nil (r_fld ?_)
     refine u.r_loadB hlf ?_; refine r_nil (r_fld ?_)
     refine u.r_loadB hn ?_; refine r_sub1 (by omega) (by omega) ?_; refine hr.at (n := lo - 1) (f := enc) rfl encl rfl rfl hm fun b ob hbb => ?_; refine (hbb.st u).loadN rfl ?_; refine St.r_loadN0 u 0 rfl (by simp) ?_; refine hO.call (s.join u) (a := its[lo - 1]) (b := x) fun E2 h2' u2 => ?_
     have u := (u.join u2).perm List.perm_append_comm
     refine r_not ?_; refine r_if (fun hc => ?_) (fun hc => ?_)
     · have hc : lt its[lo - 1] x = false := by simpa using hc
       refine r_sub1 (by omega) (by omega) ?_; obtain ⟨e1, e2⟩ := found_at o ha hm (h3 _ hm (by omega)) hc
       have := H _ _ u
       rw [e1, e2] at this; exact this
     · exact no u (fun _ _ => by simpa using hc)
   · exact no u (fun _ e => by simp at hz; omega)
theorem node_leaf_ok {n : Nat} {a : Option Addr} (hn : cl h n 3 = some (.pointer a)) (H : Q (.bool a.isNone) h) : z20_.call #[ptr n 0] h Q := by
 refine z20_.body _ _ _ ?_; unfold z20_.sh
 have s := St.start h
 refine r_nil (r_fld ?_)
 refine s.r_loadB hn ?_; refine r_eqNilP ?_; exact H
theorem Less_ok (hO : OrdC Z lf lt) {tb : Nat} {a b : It} (s : St h0 Z E h) (hlf : cl h tb 6 = some lf) (H : ∀ E' h', St h [] E' h' → Q (.bool (lt a b)) h') : z17_.call #[ptr tb 0, av a, av b] h Q := by
 refine z17_.body _ _ _ _ _ ?_; unfold z17_.sh
 have u := St.start h
 refine St.r_box (cs := enc a) u fun t4 h1 u => ?_; refine St.r_box (cs := enc b) u fun t5 h1 u => ?_; refine r_nil (r_fld ?_)
 refine u.r_loadB hlf ?_; refine St.r_loadN0 u 1 rfl (by simp) ?_; refine St.r_loadN0 u 0 rfl (by simp) ?_; refine hO.call (s.join u) fun E2 h2 u2 => ?_; exact H _ _ (u.join u2)
section
variable {tb n hb ho dp : Nat} {iv : Value} {its : List It} {x : It} {a : Option Addr}
theorem hint_end {hc : List Value} {i : Int} {f : Bool} (hh : HintC hc) (hd : dp ≤ 4611686018427387903) (s : St h0 Z ((hb, ho, hc) :: E) h) {c0 c1 c2 : Value} (hl : (n, 0, [c0, c1, c2, .pointer a]) ∈ E ++ Z) (hi : 0 ≤ i) (hi2 : i ≤ 4611686018427387903)
  (H : ∀ hc' h', HintC hc' → St h0 Z ((hb, ho, hc') :: E) h' → Q (.tuple #[.int .i64 i, .bool f]) h') : z04_.j1 (ptr n 0) (ptr hb ho) (.int .i64 dp) (.int .i64 i) (.bool f) h Q := by
 unfold z04_.j1
 have e2 : ∀ {hc' : List Value} {h' : Heap}, HintC hc' → St h0 Z ((hb, ho, hc') :: E) h' → z04_.j2 (.int .i64 i) (.bool f) h' Q := fun h1 s => H _ _ h1 s
 refine r_cmpI ?_; refine r_if (fun hlt => ?_) (fun _ => e2 hh s)
 have hlt : dp < 8 := by have := of_decide_eq_true hlt; omega
 have e3 : ∀ {hc' : List Value} {h' : Heap} (p : Int), HintC hc' → St h0 Z ((hb, ho, hc') :: E) h' → z04_.j3 (ptr hb ho) (.int .i64 dp) (.int .i64 i) (.bool f) (.int .u8 (IntKind.wrap .u8 p)) h' Q := fun {hc'} {h'} p hh s => by
  unfold z04_.j3; obtain ⟨q, hq, _, _⟩ := hh.path hlt
  have hlen := hh.len
  refine r_nil (r_fld ?_)
  refine r_idxA dp (ho + (8 + dp)) rfl hlt (by omega) ?_; refine St.r_load1 s 0 (j := 8 + dp) rfl hq ?_; refine r_cmpI ?_; refine r_if (fun _ => ?_) (fun _ => e2 hh s)
  refine r_nil (r_fld ?_)
  refine r_idxA dp (ho + (8 + dp)) rfl hlt (by omega) ?_; refine St.r_store1 s 0 (j := 8 + dp) rfl (by omega) rfl ?_; intro h' s
  have hh := hh.setP hlt (u8w p).1 (u8w p).2
  have s : St h0 Z ((hb, ho, hc'.set (8 + dp) (.int .u8 (IntKind.wrap .u8 p))) :: E) h' := s
  refine r_add1 (by omega) ?_; refine loop_intro (fun st h => ∃ (j : Nat) (hc : List Value), st = [.int .i64 j] ∧ j ≤ 8 ∧ HintC hc ∧ St h0 Z ((hb, ho, hc) :: E) h) (fun st _ => 8 - (Hp.iv (st.getD 0 undef)).toNat) ⟨dp + 1, _, rfl, by omega, hh, s⟩ ?_; clear hh s
  rintro st h ⟨j, hc, rfl, hj, hh, s⟩
  unfold z04_.l4.b
  have hlen := hh.len
  refine r_cmpI ?_; refine r_if (fun hl => ?_) (fun _ => e2 hh s)
  have hl : j < 8 := by have := of_decide_eq_true hl; omega
  unfold z04_.j5; refine r_nil (r_fld ?_)
  refine r_idxA j (ho + j) rfl hl (by omega) ?_; refine St.r_store1 s 0 (j := j) rfl (by omega) rfl ?_; intro h s
  unfold z04_.j6; refine r_add1 (by omega) ?_; exact ⟨⟨j + 1, _, rfl, by omega, hh.setU hl false, s⟩, by simp; omega⟩
 have hlen := hh.len
 refine r_nil (r_fld ?_)
 refine r_idxA dp (ho + dp) rfl hlt (by omega) ?_; refine St.r_store1 s 0 (j := dp) rfl (by omega) rfl ?_; intro h1 s1
 have hh1 := hh.setU hlt true
 have s1 : St h0 Z ((hb, ho, hc.set dp (.bool true)) :: E) h1 := s1
 have hl1 : cl h1 n 3 = some (.pointer a) := by
  have := s1.getM (j := 3) (mem_cons_of_mem _ hl) (by simp); simpa using this
 refine node_leaf_ok hl1 ?_; refine r_br (fun _ => ?_) (fun _ => ?_)
 · refine r_if (fun _ => ?_) (fun _ => ?_)
   · refine r_add (z := i + 1) (i64w (by omega) (by omega)) ?_
     exact r_cvI rfl (e3 _ hh1 s1)
   · exact r_cvI rfl (e3 _ hh1 s1)
 · exact r_cvI rfl (e3 _ hh1 s1)
theorem hint_mid (o : Swo lt) (hO : OrdC Z lf lt) {b : Heap} {R : List Rg} {t7 lo : Nat} {hi : Int} {hc : List Value} (hh : HintC hc) (hd : dp ≤ 4611686018427387903) (s : St h0 Z ((hb, ho, hc) :: E) b) (hlf : cl b tb 6 = some lf) {c0 c1 : Value} (hl : (n, 0, [c0, c1, iv, .pointer a]) ∈ E ++ Z) (hr : Rdl 2 b iv its.length (its.flatMap enc)) (ha : Asc lt its) (hb2 : its.length ≤ 4611686018427387903)
  (u : St b [] ((t7, 0, enc x) :: R) h) (h1 : (lo : Int) ≤ hi + 1) (h2 : hi < its.length) (h3 : ∀ i (hi' : i < its.length), i < lo → lt x its[i] = false) (h4 : ∀ i (hi' : i < its.length), hi < i → lt x its[i] = true)
  (H : ∀ hc' h', HintC hc' → St h0 Z ((hb, ho, hc') :: E) h' → Q (.tuple #[.int .i64 (pos lt its x), .bool (lget lt its x).isSome]) h') : z04_.j7 (ptr tb 0) (ptr n 0) (ptr hb ho) (.int .i64 dp) (ptr t7 0) (.int .i64 lo) (.int .i64 hi) h Q := by
 have hs : ∀ i j (hi : i < its.length) (hj : j < its.length), i < j → lt its[i] its[j] = true := fun i j hi hj hij => List.pairwise_iff_getElem.1 ha i j hi hj hij
 have hn : cl b n 2 = some iv := by
  have := s.getM (j := 2) (mem_cons_of_mem _ hl) (by simp); simpa using this
 have fin : ∀ {R : List Rg} {h' : Heap} {i : Nat} {f : Bool}, St b [] ((t7, 0, enc x) :: R) h' → pos lt its x = i → (lget lt its x).isSome = f → z04_.j1 (ptr n 0) (ptr hb ho) (.int .i64 dp) (.int .i64 i) (.bool f) h' Q := fun {R} {h'} {i} {f} u e1 e2 => by
  have hpl := pos_le (lt := lt) its x
  have s1 : St h0 Z ((hb, ho, hc) :: (((t7, 0, enc x) :: R) ++ E)) h' := (s.join u).perm (by apply perm_rg; intro f; simp only [PS]; ac_rfl)
  refine hint_end hh hd s1 (c0 := c0) (c1 := c1) (c2 := iv) (a := a) ?_ (by omega) (by omega) fun hc' h' hh' s' => ?_
  · rw [append_assoc]; exact List.mem_append_right _ hl
  · have := H hc' h' hh' s'.dropMid
    rw [e1, e2] at this; exact this
 unfold z04_.j7
 refine loop_intro (fun st h' => ∃ (lo : Nat) (hi : Int) (R : List Rg), st = [.int .i64 lo, .int .i64 hi] ∧ (lo : Int) ≤ hi + 1 ∧ hi < its.length ∧ (∀ i (hi' : i < its.length), i < lo → lt x its[i] = false) ∧ (∀ i (hi' : i < its.length), hi < i → lt x its[i] = true) ∧ St b [] ((t7, 0, enc x) :: R) h')
  (fun st _ => (Hp.iv (st.getD 1 undef) + 1 - Hp.iv (st.getD 0 undef)).toNat) ⟨lo, hi, R, rfl, h1, h2, h3, h4, u⟩ ?_
 clear u h1 h2 h3 h4
 rintro st h1 ⟨lo, hi, R, rfl, h1', h2, h3, h4, u⟩
 unfold z04_.l9.b; refine r_cmpI ?_; refine r_if (fun hlt => ?_) (fun hge => ?_)
 · have hlt : (lo : Int) ≤ hi := of_decide_eq_true hlt
   obtain ⟨hi, rfl⟩ : ∃ k : Nat, hi = k := ⟨hi.toNat, by omega⟩
   have hlt : lo ≤ hi := by omega
   have hm : lo + (hi + 1 - lo) / 2 < its.length := by omega
   unfold z04_.j10; refine r_add1 (by omega) ?_; refine r_sub (z := ((hi + 1 - lo : Nat) : Int)) (by rw [i64w (by omega) (by omega)]; omega) ?_; refine r_div2 (by omega) ?_; refine r_add (z := ((lo + (hi + 1 - lo) / 2 : Nat) : Int)) (by rw [i64w (by omega) (by omega)]; omega) ?_
   generalize hmid : lo + (hi + 1 - lo) / 2 = mid at hm ⊢
   refine St.r_loadN0 u 0 rfl (by simp) ?_; refine r_nil (r_fld ?_)
   refine u.r_loadB hn ?_; refine hr.at (n := mid) (f := enc) rfl encl rfl rfl hm fun bb ob hbb => ?_; refine (hbb.st u).loadN rfl ?_
   have hlf1 := u.base hlf
   refine Less_ok hO (a := x) (b := its[mid]) (s.join u) hlf1 fun E2 h2' u2 => ?_
   have u := (u.join u2).perm List.perm_append_comm
   refine r_not ?_; refine r_if (fun hc => ?_) (fun hc => ?_)
   · have hc : lt x its[mid] = false := by simpa using hc
     refine r_add1 (by omega) ?_; refine ⟨⟨mid + 1, hi, _, rfl, by omega, h2, fun i hi' hl => ?_, h4, u⟩, by simp; omega⟩
     rcases Nat.lt_or_ge i mid with hl | hl
     · cases e : lt x its[i] with
       | false => rfl
       | true => have := o.tr _ _ _ e (hs i _ hi' hm hl); rw [hc] at this; cases this
     · have : i = mid := by omega
       subst this; exact hc
   · have hc : lt x its[mid] = true := by simpa using hc
     refine r_sub (z := (mid : Int) - 1) (i64w (by omega) (by omega)) ?_; refine ⟨⟨lo, (mid : Int) - 1, _, rfl, by omega, by omega, h3, fun i hi1 hi2 => ?_, u⟩, by simp; omega⟩
     rcases Nat.lt_or_ge mid i with hl | hl
     · exact o.tr _ _ _ hc (hs _ i hm hi1 hl)
     · have : i = mid := by omega
       subst this; exact hc
 · have hge : hi = (lo : Int) - 1 := by
    have : ¬ ((lo : Int) ≤ hi) := of_decide_eq_false hge
    omega
   subst hge
   have no : ∀ {R : List Rg} {h' : Heap}, St b [] ((t7, 0, enc x) :: R) h' → (∀ hp : lo - 1 < its.length, 0 < lo → lt its[lo - 1] x = true) → z04_.j1 (ptr n 0) (ptr hb ho) (.int .i64 dp) (.int .i64 lo) (.bool false) h' Q := fun u h5 => by
    obtain ⟨e1, e2⟩ := notfound_at o (x := x) ha (by omega) (fun hl => h4 lo hl (by omega)) h5; exact fin u e1 e2
   unfold z04_.j8; refine r_cmpI ?_; refine r_br (fun hpos => ?_) (fun hz => ?_)
   · have hpos : 0 < lo := by simpa using hpos
     have hm : lo - 1 < its.length := by omega
     refine r_nil (r_fld ?_)
     refine u.r_loadB hn ?_; refine r_sub1 (by omega) (by omega) ?_; refine hr.at (n := lo - 1) (f := enc) rfl encl rfl rfl hm fun bb ob hbb => ?_; refine (hbb.st u).loadN rfl ?_; refine St.r_loadN0 u 0 rfl (by simp) ?_
     have hlf1 := u.base hlf
     refine Less_ok hO (a := its[lo - 1]) (b := x) (s.join u) hlf1 fun E2 h2' u2 => ?_
     have u := (u.join u2).perm List.perm_append_comm
     refine r_not ?_; refine r_if (fun hc => ?_) (fun hc => ?_)
     · have hc : lt its[lo - 1] x = false := by simpa using hc
       refine r_sub1 (by omega) (by omega) ?_; obtain ⟨e1, e2⟩ := found_at o ha hm (h3 _ hm (by omega)) hc; exact fin u e1 e2
     · exact no u (fun _ _ => by simpa using hc)
   · exact no u (fun _ e => by simp at hz; omega)
theorem hintsearch_ok (o : Swo lt) (hO : OrdC Z lf lt) {hc : List Value} (hh : HintC hc) (hd : dp ≤ 4611686018427387903) (s : St h0 Z ((hb, ho, hc) :: E) h) (hlf : cl h tb 6 = some lf) {c0 c1 : Value} (hl : (n, 0, [c0, c1, iv, .pointer a]) ∈ E ++ Z) (hr : Rdl 2 h iv its.length (its.flatMap enc)) (ha : Asc lt its) (hb2 : its.length ≤ 4611686018427387903) (hne : 1 ≤ its.length)
  (H : ∀ hc' h', HintC hc' → St h0 Z ((hb, ho, hc') :: E) h' → Q (.tuple #[.int .i64 (pos lt its x), .bool (lget lt its x).isSome]) h') : z04_.call #[ptr tb 0, ptr n 0, av x, ptr hb ho, .int .i64 dp] h Q := by
 have hs : ∀ i j (hi : i < its.length) (hj : j < its.length), i < j → lt its[i] its[j] = true := fun i j hi hj hij => List.pairwise_iff_getElem.1 ha i j hi hj hij
 have hn : cl h n 2 = some iv := by
  have := s.getM (j := 2) (mem_cons_of_mem _ hl) (by simp); simpa using this
 have fin : ∀ {R : List Rg} {h' : Heap} {i : Nat} {f : Bool} {t7 : Nat}, St h [] ((t7, 0, enc x) :: R) h' → pos lt its x = i → (lget lt its x).isSome = f → z04_.j1 (ptr n 0) (ptr hb ho) (.int .i64 dp) (.int .i64 i) (.bool f) h' Q := fun {R} {h'} {i} {f} {t7} u e1 e2 => by
  have hpl := pos_le (lt := lt) its x
  have s1 : St h0 Z ((hb, ho, hc) :: (((t7, 0, enc x) :: R) ++ E)) h' := (s.join u).perm (by apply perm_rg; intro f; simp only [PS]; ac_rfl)
  refine hint_end hh hd s1 (c0 := c0) (c1 := c1) (c2 := iv) (a := a) ?_ (by omega) (by omega) fun hc' h' hh' s' => ?_
  · rw [append_assoc]; exact List.mem_append_right _ hl
  · have := H hc' h' hh' s'.dropMid
    rw [e1, e2] at this; exact this
 have mid : ∀ {R : List Rg} {h' : Heap} {t7 lo : Nat} {hi : Int}, St h [] ((t7, 0, enc x) :: R) h' → (lo : Int) ≤ hi + 1 → hi < its.length → (∀ i (hi' : i < its.length), i < lo → lt x its[i] = false) → (∀ i (hi' : i < its.length), hi < i → lt x its[i] = true) →
   z04_.j7 (ptr tb 0) (ptr n 0) (ptr hb ho) (.int .i64 dp) (ptr t7 0) (.int .i64 lo) (.int .i64 hi) h' Q := fun u h1 h2 h3 h4 => hint_mid o hO hh hd s hlf hl hr ha hb2 u h1 h2 h3 h4 H
 refine z04_.body _ _ _ _ _ _ _ ?_; unfold z04_.sh
 have u := St.start h
 refine St.r_box (cs := enc x) u fun t7 h1 u => ?_
 have hlen := hh.len
 have cold : z04_.j7 (ptr tb 0) (ptr n 0) (ptr hb ho) (.int .i64 dp) (ptr t7 0) (.int .i64 0) (.int .i64 ((its.length - 1 : Nat) : Int)) h1 Q := mid (lo := 0) u (by omega) (by omega) (fun i _ hi => absurd hi (Nat.not_lt_zero _)) (fun i hi hl => by omega)
 have sj : ∀ {R : List Rg} {h' : Heap}, St h [] R h' → St h0 Z ((hb, ho, hc) :: (R ++ E)) h' := fun u => (s.join u).perm (by apply perm_rg; intro f; simp only [PS]; ac_rfl)
 -- a place within the node
 have within : ∀ {R : List Rg} {h' : Heap} {i : Nat}, St h [] ((t7, 0, enc x) :: R) h' → i < its.length → z04_.j11 (ptr tb 0) (ptr n 0) (ptr hb ho) (.int .i64 dp) (ptr t7 0) (.int .i64 i) (.bool false) (.int .i64 0) (.int .i64 ((its.length - 1 : Nat) : Int)) h' Q := fun {R} {h'} {i} u hi => by
  unfold z04_.j11; refine St.r_loadN0 u 0 rfl (by simp) ?_; refine r_nil (r_fld ?_)
  refine u.r_loadB hn ?_; refine hr.at (n := i) (f := enc) rfl encl rfl rfl hi fun bb ob hbb => ?_; refine (hbb.st u).loadN rfl ?_; refine Less_ok hO (a := x) (b := its[i]) (s.join u) (u.base hlf) fun E2 h2' u2 => ?_
  have u := (u.join u2).perm List.perm_append_comm
  refine r_if (fun hc => ?_) (fun hc => ?_)
  · refine r_cmpI ?_
    have back : ∀ {R : List Rg} {h' : Heap}, St h [] ((t7, 0, enc x) :: R) h' → (∀ hp : i - 1 < its.length, 0 < i → lt its[i - 1] x = true) → z04_.j1 (ptr n 0) (ptr hb ho) (.int .i64 dp) (.int .i64 i) (.bool false) h' Q := fun u h5 => by
     obtain ⟨e1, e2⟩ := notfound_at o (x := x) ha (Nat.le_of_lt hi) (fun _ => hc) h5; exact fin u e1 e2
    refine r_br (fun h0' => ?_) (fun h0' => ?_)
    · have hi0 : 0 < i := by
       have : ¬ ((i : Int) = 0) := by simpa using h0'
       omega
      refine r_nil (r_fld ?_)
      refine u.r_loadB hn ?_; refine r_sub1 (by omega) (by omega) ?_; refine hr.at (n := i - 1) (f := enc) rfl encl rfl rfl (by omega) fun bb ob hbb => ?_; refine (hbb.st u).loadN rfl ?_; refine St.r_loadN0 u 0 rfl (by simp) ?_; refine Less_ok hO (a := its[i - 1]) (b := x) (s.join u) (u.base hlf) fun E2 h2' u2 => ?_
      have u := (u.join u2).perm List.perm_append_comm
      refine r_if (fun h5 => back u fun _ _ => h5) (fun h5 => ?_)
      unfold z04_.j12; refine r_sub1 (by omega) (by omega) ?_; refine mid (lo := 0) u (by omega) (by omega) (fun i _ hi => absurd hi (Nat.not_lt_zero _)) (fun j hj hl => ?_)
      rcases Nat.lt_or_ge i j with hl2 | hl2
      · exact o.tr _ _ _ hc (hs _ j hi hj hl2)
      · have : j = i := by omega
        subst this; exact hc
    · have hi0 : i = 0 := by
       have : (i : Int) = 0 := by simpa using h0'
       omega
      exact back u fun _ e => by omega
  · refine r_nil (r_fld ?_)
    refine u.r_loadB hn ?_; refine hr.at (n := i) (f := enc) rfl encl rfl rfl hi fun bb ob hbb => ?_; refine (hbb.st u).loadN rfl ?_; refine St.r_loadN0 u 0 rfl (by simp) ?_; refine Less_ok hO (a := its[i]) (b := x) (s.join u) (u.base hlf) fun E2 h2' u2 => ?_
    have u := (u.join u2).perm List.perm_append_comm
    refine r_if (fun h5 => ?_) (fun h5 => ?_)
    · refine r_add1 (by omega) ?_
      refine mid (lo := i + 1) u (by omega) (by omega) (fun j hj hl => ?_) (fun j hj hl => by omega)
      exact o.asym (o.tr2 (lt := lt) (a := its[j]) (b := its[i]) (c := x) (by
       rcases Nat.lt_or_ge j i with hl2 | hl2
       · exact o.asym (hs j i hj hi hl2)
       · have : j = i := by omega
         subst this; exact o.irr _) h5)
    · obtain ⟨e1, e2⟩ := found_at o ha hi hc h5
      exact fin u e1 e2
 refine r_nil (r_fld ?_)
 refine u.r_loadB hn ?_; refine hr.lenV ?_; refine r_sub1 (by omega) (by omega) ?_; refine r_cmpI ?_; refine r_br (fun hlt => ?_) (fun _ => cold)
 have hlt : dp < 8 := by have := of_decide_eq_true hlt; omega
 obtain ⟨b, hb'⟩ := hh.used hlt; obtain ⟨p, hp, hp0, hp1⟩ := hh.path hlt; obtain ⟨p, rfl⟩ : ∃ k : Nat, p = k := ⟨p.toNat, by omega⟩; refine r_nil (r_fld ?_)
 refine r_idxA dp (ho + dp) rfl hlt (by omega) ?_; refine St.r_load1 (sj u) 0 (j := dp) rfl hb' ?_; refine r_if (fun _ => ?_) (fun _ => cold)
 refine r_nil (r_fld ?_)
 refine r_idxA dp (ho + (8 + dp)) rfl hlt (by omega) ?_; refine St.r_load1 (sj u) 0 (j := 8 + dp) rfl hp ?_; refine r_cvI (z := (p : Int)) (i64w (by omega) (by omega)) ?_; refine r_nil (r_fld ?_)
 refine u.r_loadB hn ?_; refine hr.lenV ?_; refine r_cmpI ?_; refine r_if (fun hge => ?_) (fun hl2 => ?_)
 · refine r_nil (r_fld ?_)
   refine u.r_loadB hn ?_; refine r_nil (r_fld ?_)
   refine u.r_loadB hn ?_; refine hr.lenV ?_; refine r_sub1 (by omega) (by omega) ?_; refine hr.at (n := its.length - 1) (f := enc) rfl encl rfl rfl (by omega) fun bb ob hbb => ?_; refine (hbb.st u).loadN rfl ?_; refine St.r_loadN0 u 0 rfl (by simp) ?_; refine Less_ok hO (a := its[its.length - 1]) (b := x) (s.join u) (u.base hlf) fun E2 h2' u2 => ?_
   have u := (u.join u2).perm List.perm_append_comm
   refine r_if (fun h5 => ?_) (fun h5 => ?_)
   · refine r_nil (r_fld ?_)
     refine u.r_loadB hn ?_; refine hr.lenV ?_; obtain ⟨e1, e2⟩ := notfound_at o (x := x) ha (Nat.le_refl _) (fun hl => absurd hl (Nat.lt_irrefl _)) (fun _ _ => h5); exact fin u e1 e2
   · unfold z04_.j13
     refine r_nil (r_fld ?_)
     refine u.r_loadB hn ?_; refine hr.lenV ?_; refine r_sub1 (by omega) (by omega) ?_; exact within u (by omega)
 · have : p < its.length := by have := of_decide_eq_false hl2; omega
   exact within u this
end
theorem findO_ok (o : Swo lt) (hO : OrdC Z lf lt) {hv : Value} {hb ho n tb dp : Nat} {hc : List Value} {its : List It} {x : It} {iv : Value} {a : Option Addr} (hh : HnO hv hb ho hc) (hd : dp ≤ 4611686018427387903) (s : St h0 Z ((hb, ho, hc) :: E) h) (hlf : cl h tb 6 = some lf) {c0 c1 : Value} (hl : (n, 0, [c0, c1, iv, .pointer a]) ∈ E ++ Z) (hr : Rdl 2 h iv its.length (its.flatMap enc)) (ha : Asc lt its) (hb2 : its.length ≤ 4611686018427387903) (hne : 1 ≤ its.length)
  (H : ∀ hc' h', HnO hv hb ho hc' → St h0 Z ((hb, ho, hc') :: E) h' → Q (.tuple #[.int .i64 (pos lt its x), .bool (lget lt its x).isSome]) h') : z1b_.call #[ptr tb 0, ptr n 0, av x, hv, .int .i64 dp] h Q := by
 have hn : cl h n 2 = some iv := by
  have := s.getM (j := 2) (mem_cons_of_mem _ hl) (by simp); simpa using this
 refine z1b_.body _ _ _ _ _ _ _ ?_; unfold z1b_.sh
 have u := St.start h
 refine St.r_box (cs := enc x) u fun t7 h1 u => ?_
 rcases hh with ⟨rfl, rfl⟩ | ⟨rfl, hh⟩
 · refine r_eqNilP ?_
   refine r_if (fun _ => ?_) (fun e => absurd e (by simp))
   refine St.r_loadN0 u 0 rfl (by simp) ?_; refine bsearch_ok o hO (s.join u) (u.base hlf) (u.base hn) (hr.st u) ha hb2 fun E2 h2 u2 => ?_; refine r_ext rfl (r_ext rfl ?_)
   exact H _ _ (.inl ⟨rfl, rfl⟩) (St.dropMid (A := E2 ++ [(t7, 0, enc x)]) ((s.join (u.join u2)).perm (by apply perm_rg; intro f; simp only [PS]; ac_rfl)))
 · refine r_eqNilP ?_
   refine r_if (fun e => absurd e (by simp)) (fun _ => ?_)
   unfold z1b_.j1; refine St.r_loadN0 u 0 rfl (by simp) ?_; refine hintsearch_ok o hO hh hd (E := [(t7, 0, enc x)] ++ E) ((s.join u).perm (by apply perm_rg; intro f; simp only [PS]; ac_rfl)) (u.base hlf) (c0 := c0) (c1 := c1) (a := a) (by rw [append_assoc]; exact List.mem_append_right _ hl) (hr.st u) ha hb2 hne fun hc' h2 hh' s2 => ?_; refine r_ext rfl (r_ext rfl ?_)
   exact H _ _ (.inr ⟨rfl, hh'⟩) (St.dropMid (A := [(t7, 0, enc x)]) s2)
theorem find_ok (o : Swo lt) (hO : OrdC Z lf lt) {hv : Value} {hb n tb dp : Nat} {hc : List Value} {its : List It} {x : It} {iv : Value} {a : Option Addr} (hh : Hn hv hb hc) (hd : dp ≤ 4611686018427387903) (s : St h0 Z ((hb, 0, hc) :: E) h) (hlf : cl h tb 6 = some lf) {c0 c1 : Value} (hl : (n, 0, [c0, c1, iv, .pointer a]) ∈ E ++ Z) (hr : Rdl 2 h iv its.length (its.flatMap enc)) (ha : Asc lt its) (hb2 : its.length ≤ 4611686018427387903) (hne : 1 ≤ its.length)
  (H : ∀ hc' h', Hn hv hb hc' → St h0 Z ((hb, 0, hc') :: E) h' → Q (.tuple #[.int .i64 (pos lt its x), .bool (lget lt its x).isSome]) h') : z1b_.call #[ptr tb 0, ptr n 0, av x, hv, .int .i64 dp] h Q := findO_ok o hO hh hd s hlf hl hr ha hb2 hne H
end Go.Proofs.YtgnnidefbeoibaaGreat.Gi
end
