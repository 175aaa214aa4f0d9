/-
  Texts of this claim, laid together: S15 S22 S23 S24 S25 S4 S8 S9 K0Si KaSi KbSi KcSi KdSi.
  Conditions: as each of them tells.
-/
import Derived.Test.YtdpkpcmoabfofaaRWRoutesB2
section
namespace Go.Proofs.Ytdpkpcmoabfofaa
open Go.Hp
set_option maxRecDepth 100000
set_option maxHeartbeats 8000000
set_option linter.unusedVariables false
set_option linter.unusedSimpArgs false

/-! ### (*pub/tidwallbtree.Map[string, int]).nodeScan -/
def Map_si_nodeScan.j2 (s0 s2 s3 s9 : Value) (h : Heap) (Q : Value → Heap → Prop) : Prop := nilck s9 fun b=>fld 3 b fun d=>load1 d h fun g=>nilck g fun i=>load1 i h fun j=>nilck s9 fun k=>fld 3 k fun l=>load1 l h fun m=>nilck m fun n=>load1 n h fun o=>lenV o fun p=>arith (· - ·) p (.int .i64 1) fun q=>idx 1 j q fun u=>Map_si_nodeScan.call #[s0, u, s2, s3] h fun v h=>Q v h
def Map_si_nodeScan.j5 (s0 s2 s3 s9 s11 : Value) (h : Heap) (K1 : List Value → Heap → Prop) (Q : Value → Heap → Prop) : Prop := arith (· + ·) s11 (.int .i64 1) fun b=>K1 [b] h
def Map_si_nodeScan.j6 (s0 s2 s3 s9 s11 : Value) (h : Heap) (K1 : List Value → Heap → Prop) (Q : Value → Heap → Prop) : Prop := nilck s9 fun b=>fld 2 b fun d=>load1 d h fun g=>idx 2 g s11 fun i=>fld 1 i fun j=>load1 j h fun k=>nilck s9 fun l=>fld 2 l fun m=>load1 m h fun n=>idx 2 n s11 fun o=>fld 0 o fun p=>load1 p h fun q=>callV Try.prog s2 #[k, q] h fun u h=>notV u fun v=>ifV v (Q (.bool false) h) (Map_si_nodeScan.j5 s0 s2 s3 s9 s11 h K1 Q)
def Map_si_nodeScan.j4 (s0 s2 s3 s9 s11 : Value) (h : Heap) (K1 : List Value → Heap → Prop) (Q : Value → Heap → Prop) : Prop := nilck s9 fun b=>fld 3 b fun d=>load1 d h fun g=>nilck g fun i=>load1 i h fun j=>idx 1 j s11 fun k=>Map_si_nodeScan.call #[s0, k, s2, s3] h fun l h=>notV l fun m=>ifV m (Q (.bool false) h) (Map_si_nodeScan.j6 s0 s2 s3 s9 s11 h K1 Q)
def Map_si_nodeScan.l3.b (c0 c2 c3 c9 s11 : Value) (h : Heap) (K1 : List Value → Heap → Prop) (Q : Value → Heap → Prop) : Prop := nilck c9 fun b=>fld 2 b fun d=>load1 d h fun g=>lenV g fun i=>cmpI (fun a b=>decide (a < b)) s11 i fun j=>ifV j (Map_si_nodeScan.j4 c0 c2 c3 c9 s11 h K1 Q) (Map_si_nodeScan.j2 c0 c2 c3 c9 h Q)
def Map_si_nodeScan.j1 (s0 s2 s3 s9 : Value) (h : Heap) (Q : Value → Heap → Prop) : Prop := loopC (fun c s h K1=>Map_si_nodeScan.l3.b (c.getD 0 undef) (c.getD 1 undef) (c.getD 2 undef) (c.getD 3 undef) (s.getD 0 undef) h K1 Q) [s0, s2, s3, s9] [(.int .i64 0)] h
def Map_si_nodeScan.j7 (h : Heap) (Q : Value → Heap → Prop) : Prop := Q (.bool true) h
def Map_si_nodeScan.j10 (s2 s9 s10 : Value) (h : Heap) (K1 : List Value → Heap → Prop) (Q : Value → Heap → Prop) : Prop := arith (· + ·) s10 (.int .i64 1) fun b=>K1 [b] h
def Map_si_nodeScan.j9 (s2 s9 s10 : Value) (h : Heap) (K1 : List Value → Heap → Prop) (Q : Value → Heap → Prop) : Prop := nilck s9 fun b=>fld 2 b fun d=>load1 d h fun g=>idx 2 g s10 fun i=>fld 1 i fun j=>load1 j h fun k=>nilck s9 fun l=>fld 2 l fun m=>load1 m h fun n=>idx 2 n s10 fun o=>fld 0 o fun p=>load1 p h fun q=>callV Try.prog s2 #[k, q] h fun u h=>notV u fun v=>ifV v (Q (.bool false) h) (Map_si_nodeScan.j10 s2 s9 s10 h K1 Q)
def Map_si_nodeScan.l8.b (c2 c9 s10 : Value) (h : Heap) (K1 : List Value → Heap → Prop) (Q : Value → Heap → Prop) : Prop := nilck c9 fun b=>fld 2 b fun d=>load1 d h fun g=>lenV g fun i=>cmpI (fun a b=>decide (a < b)) s10 i fun j=>ifV j (Map_si_nodeScan.j9 c2 c9 s10 h K1 Q) (Map_si_nodeScan.j7 h Q)
def Map_si_nodeScan.sh (a0 a1 a2 a3 : Value) (h : Heap) (Q : Value → Heap → Prop) : Prop := Map_si_isoLoad.call #[a0, a1, a3] h fun b h=>mapNode_si_leaf.call #[b] h fun d h=>ifV d (loopC (fun c s h K1=>Map_si_nodeScan.l8.b (c.getD 0 undef) (c.getD 1 undef) (s.getD 0 undef) h K1 Q) [a2, b] [(.int .i64 0)] h) (Map_si_nodeScan.j1 a0 a2 a3 b h Q)
theorem Map_si_nodeScan.body (a0 a1 a2 a3 : Value) (h : Heap) (Q : Value → Heap → Prop) (H : Map_si_nodeScan.sh a0 a1 a2 a3 h Q) : Map_si_nodeScan.call #[a0, a1, a2, a3] h Q := by
  refine callsH_of (args := [a0, a1, a2, a3]) Try.func240 rfl rfl ?_
  unfold Map_si_nodeScan.sh at H
  refine sR <| nS (.bool false) rfl <| vl_e <| sR <| nM a0 rfl <| nM a1 rfl <| nM a3 rfl <| vl_n <| H_call HB_206 H fun t15 h H => nS t15 rfl <| vl_e ?_
  refine WPc_seq (fun e h => Map_si_nodeScan.j1 (e 0) (e 2) (e 3) (e 9) h Q) ?_ (fun e h H => ?_)
  rotate_left
  · unfold Map_si_nodeScan.j1 at H
    refine WPc_seq (fun e h => Map_si_nodeScan.j2 (e 0) (e 2) (e 3) (e 9) h Q) ?_ (fun e h H => ?_)
    rotate_left
    · unfold Map_si_nodeScan.j2 at H
      refine WPc_seq' <| W_drawn [0, 0, 2, 6, 14, 30, 62, 0, 128, 384, 896, 1920, 3968, 8064, 16256, 32766, 0, 0, 262143, 524287] (.take 0 (.take 1 (.take 2 (.take 3 (.take 4 (.take 5 (.take 6 (.take 7 (.take 8 (.take 9 (.take 10 (.take 11 (.take 12 (.take 13 (.take 14 (.take 15 (.take 16 (.take 17 (.alt 18 (.take 19 .done) .none))))))))))))))))))) mixed (by kernel_rfl) <| pM (e 0) rfl rfl <| pM (e 9) rfl rfl <| pP rfl R_nil H fun _ H => pP rfl (R_fld TF_285_3) H fun _ H => pL rfl T1_283 H fun _ _ _ H => pP rfl R_nil H fun _ H => pL rfl T1_290 H fun _ _ _ H => pM (e 9) rfl rfl <| pP rfl R_nil H fun _ H => pP rfl (R_fld TF_285_3) H fun _ H => pL rfl T1_283 H fun _ _ _ H => pP rfl R_nil H fun _ H => ?_
      exact pL rfl T1_290 H fun _ _ _ H => pP rfl (R_len Try.underlying290) H fun _ H => pP rfl R_sub H fun _ H => pP rfl (R_idx TE_290) H fun _ H => pM (e 2) rfl rfl <| pM (e 3) rfl rfl <| aE rfl <| H_call HB_240 H fun t105 h H => ⟨(hskip rfl (hskip rfl (hskip rfl (hskip rfl hnil)))), pS t105 rfl rfl <| vp_done <| WPc_ret <| resH_of rfl <| H⟩
    refine sR <| nS (.int .i64 0) rfl <| vl_e <| WPc_block ?_
    refine loop_at (fun e => [e 11]) (fun e => [e 0, e 2, e 3, e 9]) H rfl rfl ?_
    intro K1 e1 h H hin1
    replace H : Map_si_nodeScan.l3.b (e1 0) (e1 2) (e1 3) (e1 9) (e1 11) h K1 Q := H
    unfold Map_si_nodeScan.l3.b at H
    clear hin1
    refine WPc_seq (fun e h => Map_si_nodeScan.j4 (e 0) (e 2) (e 3) (e 9) (e 11) h K1 Q ∧ [e1 0, e1 2, e1 3, e1 9] = [e 0, e 2, e 3, e 9]) ?_ (fun e h ⟨H, hq1⟩ => ?_)
    rotate_left
    · unfold Map_si_nodeScan.j4 at H
      refine WPc_seq (fun e h => Map_si_nodeScan.j5 (e 0) (e 2) (e 3) (e 9) (e 11) h K1 Q ∧ [e1 0, e1 2, e1 3, e1 9] = [e 0, e 2, e 3, e 9]) ?_ (fun e h ⟨H, hq1⟩ => ?_)
      rotate_left
      · unfold Map_si_nodeScan.j5 at H
        refine W_region (by kernel_rfl) <| nM (e 11) rfl <| nP R_add H fun t54 H => nS t54 rfl <| vl_e ?_
        exact ⟨H, hq1⟩
      refine WPc_block ?_
      refine WPc_seq (fun e h => Map_si_nodeScan.j6 (e 0) (e 2) (e 3) (e 9) (e 11) h K1 Q ∧ [e1 0, e1 2, e1 3, e1 9] = [e 0, e 2, e 3, e 9]) ?_ (fun e h ⟨H, hq1⟩ => ?_)
      rotate_left
      · unfold Map_si_nodeScan.j6 at H
        refine WPc_seq' <| W_drawn [0, 0, 2, 6, 14, 0, 62, 126, 254, 0, 512, 1536, 3584, 0, 15872, 32256, 65024, 131071, 262143] (.take 0 (.take 1 (.take 2 (.take 3 (.take 4 (.take 5 (.take 6 (.take 7 (.take 8 (.take 9 (.take 10 (.take 11 (.take 12 (.take 13 (.take 14 (.take 15 (.take 16 (.alt 17 (.take 18 .done) .none)))))))))))))))))) mixed (by kernel_rfl) <| pM (e 2) rfl rfl <| pM (e 9) rfl rfl <| pP rfl R_nil H fun _ H => pP rfl (R_fld TF_285_2) H fun _ H => pL rfl T1_282 H fun _ _ _ H => pM (e 11) rfl rfl <| pP rfl (R_idx TE_282) H fun _ H => pP rfl (R_fld TF_223_1) H fun _ H => pL rfl T1_9 H fun _ _ _ H => pM (e 9) rfl rfl <| pP rfl R_nil H fun _ H => pP rfl (R_fld TF_285_2) H fun _ H => ?_
        refine pL rfl T1_282 H fun _ _ _ H => pM (e 11) rfl rfl <| pP rfl (R_idx TE_282) H fun _ H => pP rfl (R_fld TF_223_0) H fun _ H => pL rfl T1_3 H fun _ _ _ H => aE rfl <| H_callV H fun _ h H => ⟨(hskip rfl (hskip rfl (hskip rfl (hskip rfl hnil)))), pP rfl R_not H fun _ H => vp_done ?_⟩
        refine cI H (fun H => ?_) fun H => ?_
        · exact sR <| nS (.bool false) rfl <| vl_e <| WPc_ret <| resH_of rfl <| H
        · refine WPc_skip ?_
          exact ⟨H, hq1⟩
      refine sR <| nM (e 0) rfl <| nM (e 9) rfl <| nP R_nil H fun _ H => nP (R_fld TF_285_3) H fun _ H => nL T1_283 H fun _ H => nP R_nil H fun _ H => nL T1_290 H fun _ H => nM (e 11) rfl <| nP (R_idx TE_290) H fun _ H => nM (e 2) rfl <| nM (e 3) rfl <| vl_n <| H_call HB_240 H fun _ h H => nP R_not H fun _ H => ?_
      refine vl_e ?_
      refine cI H (fun H => ?_) fun H => ?_
      · exact sR <| nS (.bool false) rfl <| vl_e <| WPc_ret <| resH_of rfl <| H
      · refine WPc_skip ?_
        exact ⟨H, hq1⟩
    refine sR <| nM (e1 11) rfl <| nM (e1 9) rfl <| nP R_nil H fun _ H => nP (R_fld TF_285_2) H fun _ H => nL T1_282 H fun _ H => nP (R_len Try.underlying282) H fun _ H => nP R_lss H fun _ H => vl_e ?_
    refine cI H (fun H => ?_) fun H => ?_
    · refine WPc_skip ?_
      exact ⟨H, rfl⟩
    · refine WPc_exit ?_
      exact H
  refine sR <| nM t15 rfl <| vl_n <| H_call HB_204 H fun _ h H => vl_e ?_
  refine cI H (fun H => ?_) fun H => ?_
  · refine WPc_seq (fun e h => Map_si_nodeScan.j7 h Q) ?_ (fun e h H => ?_)
    rotate_left
    · unfold Map_si_nodeScan.j7 at H
      exact sR <| nS (.bool true) rfl <| vl_e <| WPc_ret <| resH_of rfl <| H
    refine sR <| nS (.int .i64 0) rfl <| vl_e <| WPc_block ?_
    refine loop_at (fun e => [e 10]) (fun e => [e 2, e 9]) H rfl rfl ?_
    intro K1 e1 h H hin1
    replace H : Map_si_nodeScan.l8.b (e1 2) (e1 9) (e1 10) h K1 Q := H
    unfold Map_si_nodeScan.l8.b at H
    clear hin1
    refine WPc_seq (fun e h => Map_si_nodeScan.j9 (e 2) (e 9) (e 10) h K1 Q ∧ [e1 2, e1 9] = [e 2, e 9]) ?_ (fun e h ⟨H, hq1⟩ => ?_)
    rotate_left
    · unfold Map_si_nodeScan.j9 at H
      refine WPc_seq (fun e h => Map_si_nodeScan.j10 (e 2) (e 9) (e 10) h K1 Q ∧ [e1 2, e1 9] = [e 2, e 9]) ?_ (fun e h ⟨H, hq1⟩ => ?_)
      rotate_left
      · unfold Map_si_nodeScan.j10 at H
        refine W_region (by kernel_rfl) <| nM (e 10) rfl <| nP R_add H fun t26 H => nS t26 rfl <| vl_e ?_
        exact ⟨H, hq1⟩
      refine WPc_block <| WPc_seq' <| W_drawn [0, 0, 2, 6, 14, 0, 62, 126, 254, 0, 512, 1536, 3584, 0, 15872, 32256, 65024, 131071, 262143] (.take 0 (.take 1 (.take 2 (.take 3 (.take 4 (.take 5 (.take 6 (.take 7 (.take 8 (.take 9 (.take 10 (.take 11 (.take 12 (.take 13 (.take 14 (.take 15 (.take 16 (.alt 17 (.take 18 .done) .none)))))))))))))))))) mixed (by kernel_rfl) <| pM (e 2) rfl rfl <| pM (e 9) rfl rfl <| pP rfl R_nil H fun _ H => pP rfl (R_fld TF_285_2) H fun _ H => pL rfl T1_282 H fun _ _ _ H => pM (e 10) rfl rfl <| pP rfl (R_idx TE_282) H fun _ H => pP rfl (R_fld TF_223_1) H fun _ H => pL rfl T1_9 H fun _ _ _ H => pM (e 9) rfl rfl <| pP rfl R_nil H fun _ H => ?_
      refine pP rfl (R_fld TF_285_2) H fun _ H => pL rfl T1_282 H fun _ _ _ H => pM (e 10) rfl rfl <| pP rfl (R_idx TE_282) H fun _ H => pP rfl (R_fld TF_223_0) H fun _ H => pL rfl T1_3 H fun _ _ _ H => aE rfl <| H_callV H fun _ h H => ⟨(hskip rfl (hskip rfl (hskip rfl (hskip rfl hnil)))), pP rfl R_not H fun _ H => vp_done ?_⟩
      refine cI H (fun H => ?_) fun H => ?_
      · exact sR <| nS (.bool false) rfl <| vl_e <| WPc_ret <| resH_of rfl <| H
      · refine WPc_skip ?_
        exact ⟨H, hq1⟩
    refine sR <| nM (e1 10) rfl <| nM (e1 9) rfl <| nP R_nil H fun _ H => nP (R_fld TF_285_2) H fun _ H => nL T1_282 H fun _ H => nP (R_len Try.underlying282) H fun _ H => nP R_lss H fun _ H => vl_e ?_
    refine cI H (fun H => ?_) fun H => ?_
    · refine WPc_skip ?_
      exact ⟨H, rfl⟩
    · refine WPc_exit ?_
      exact H
  · exact WPc_skip <| H
/-! ### (*pub/tidwallbtree.Map[string, int]).scan -/
def Map_si_scan.j1 (s0 s1 s2 : Value) (h : Heap) (Q : Value → Heap → Prop) : Prop := nilck s0 fun b=>fld 2 b fun d=>Map_si_nodeScan.call #[s0, d, s1, s2] h fun g h=>Q (.tuple #[]) h
def Map_si_scan.sh (a0 a1 a2 : Value) (h : Heap) (Q : Value → Heap → Prop) : Prop := nilck a0 fun b=>fld 2 b fun d=>load1 d h fun g=>eqNilP g fun i=>ifV i (Q (.tuple #[]) h) (Map_si_scan.j1 a0 a1 a2 h Q)
theorem Map_si_scan.body (a0 a1 a2 : Value) (h : Heap) (Q : Value → Heap → Prop) (H : Map_si_scan.sh a0 a1 a2 h Q) : Map_si_scan.call #[a0, a1, a2] h Q := by
  refine callsH_of (args := [a0, a1, a2]) Try.func218 rfl rfl ?_
  unfold Map_si_scan.sh at H
  refine WPc_seq (fun e h => Map_si_scan.j1 (e 0) (e 1) (e 2) h Q) ?_ (fun e h H => ?_)
  rotate_left
  · unfold Map_si_scan.j1 at H
    exact W_region (by kernel_rfl) <| nM (e 0) rfl <| nM (e 0) rfl <| nP R_nil H fun _ H => nP (R_fld TF_225_2) H fun _ H => nM (e 1) rfl <| nM (e 2) rfl <| vl_n <| H_call HB_240 H fun _ h H => vl_e <| resH_of rfl <| H
  refine sR <| nM a0 rfl <| nP R_nil H fun _ H => nP (R_fld TF_225_2) H fun _ H => nL T1_221 H fun _ H => nP (R_eqNilP Try.underlying221 rfl) H fun _ H => vl_e ?_
  refine cI H (fun H => ?_) fun H => ?_
  · exact WPc_ret <| resH_of rfl <| H
  · exact WPc_skip <| H
/-! ### (*pub/tidwallbtree.Map[string, int]).Scan -/
def Map_si_Scan.sh (a0 a1 : Value) (h : Heap) (Q : Value → Heap → Prop) : Prop := Map_si_scan.call #[a0, a1, (.bool false)] h fun b h=>Q (.tuple #[]) h
theorem Map_si_Scan.body (a0 a1 : Value) (h : Heap) (Q : Value → Heap → Prop) (H : Map_si_Scan.sh a0 a1 h Q) : Map_si_Scan.call #[a0, a1] h Q := by
  refine callsH_of (args := [a0, a1]) Try.func177 rfl rfl ?_
  unfold Map_si_Scan.sh at H
  exact W_region (by kernel_rfl) <| nM a0 rfl <| nM a1 rfl <| vl_n <| H_call HB_218 H fun _ h H => vl_e <| resH_of rfl <| H
/-! ### impl.taker[impl.Word]$1 -/
def i_taker_implWord_c1.sh (a0 f0 f1 : Value) (h : Heap) (Q : Value → Heap → Prop) : Prop := box 105 a0 h fun b h=>load1 f0 h fun d=>load1 f0 h fun g=>nilck g fun i=>load1 i h fun j=>loadN 2 b h fun k=>mkSl (if 1 * 2 = 0 then [] else zeros [(.string ⟨#[]⟩), (.int .i64 0)] 1) 1 [(0 * 2, 2, k)] 105 h fun l h=>still1 f0 d h ∧ still1 f0 g h ∧ still1 i j h ∧ app 105 2 24 [(.string ⟨#[]⟩), (.int .i64 0)] j l h fun m h=>still1 f0 d h ∧ nilck d fun n=>store1 n m h fun h=>load1 f1 h fun o=>cmpI (fun a b=>decide (a < b)) o (.int .i64 1) fun p=>br p false (load1 f0 h fun q=>nilck q fun u=>load1 u h fun v=>lenV v fun w=>load1 f1 h fun x=>cmpI (fun a b=>decide (a < b)) w x fun y=>Q y h) (Q (.bool true) h)
theorem i_taker_implWord_c1.body (a0 f0 f1 : Value) (h : Heap) (Q : Value → Heap → Prop) (H : i_taker_implWord_c1.sh a0 f0 f1 h Q) : i_taker_implWord_c1.call #[a0, f0, f1] h Q := by
  refine callsH_of (args := [a0, f0, f1]) Try.func241 rfl rfl ?_
  unfold i_taker_implWord_c1.sh at H
  refine sR <| vl_n <| H_box H fun _ h H => nS (.bool false) rfl <| vl_e <| WPc_seq' <| W_drawn [0, 0, 2, 6, 0, 16, 62, 127, 255] (.take 0 (.take 1 (.take 2 (.take 3 (.take 4 (.alt 5 (.alt 6 (.take 7 (.alt 8 .done .none)) .none) .none)))))) mixed (by kernel_rfl) <| pL rfl T1_243 H fun _ _ hat5 H => pL rfl T1_243 H fun _ _ hat6 H => pP rfl R_nil H fun _ H => pL rfl T1_52 H fun _ _ hat8 H => tkL rfl <| R_loadN TN_105 H fun _ _ _ _ H _ _ => aE rfl <| H_mkSl TZ_52 (by decide) rfl H rfl fun _ h ⟨S, S_2, S_3, H⟩ => ⟨(hskip rfl (hcons rfl (still_1 S_3 hat8) (hcons rfl (still_1 S_2 hat6) (hcons rfl (still_1 S hat5) hnil)))), aE rfl <| H_app TZ_52 TU_52 H fun _ h ⟨S_4, H⟩ => ⟨(hskip rfl (hskip rfl (hcons rfl (still_1 S_4 hat5) hnil))), pP rfl R_nil H fun _ H => ?_⟩⟩
  refine aE rfl <| H_store1 TS_52 H fun h H => ⟨(hskip rfl hnil), vp_done <| WPc_seq' <| W_drawn [0, 1, 3, 7, 15, 31, 63, 7, 255, 511, 1023] (.take 0 (.take 1 (.take 2 (.take 3 (.take 4 (.take 5 (.take 6 (.take 7 (.take 8 (.take 9 (.take 10 .done))))))))))) mixed (by kernel_rfl) <| pL rfl T1_3 H fun _ _ _ H => pP rfl R_lss H fun t14 H => pM t14 rfl rfl ?_⟩
  obtain ⟨b, hb, H1, H2⟩ := H
  cases b
  · have H := H1 rfl
    clear H1 H2
    refine tkLy rfl rfl hb ?_
    refine R_load1 T1_243 H fun _ _ _ _ H => ?_
    refine tkPy rfl rfl hb ?_
    refine R_nil H fun _ H => ⟨fun _ => trivial, ?_⟩
    refine tkLy rfl rfl hb ?_
    refine R_load1 T1_52 H fun _ _ _ _ H => ?_
    refine tkPy rfl rfl hb ?_
    refine R_len Try.underlying52 H fun _ H => ⟨fun _ => trivial, ?_⟩
    refine tkLy rfl rfl hb ?_
    refine R_load1 T1_3 H fun _ _ _ _ H => ?_
    refine tkPy rfl rfl hb ?_
    refine R_lss H fun t21 H => ⟨fun _ => trivial, ?_⟩
    exact pA rfl (R_pickC (v := t21) false hb rfl) <| pS t21 rfl rfl <| vp_done <| WPc_ret <| resH_of rfl <| H
  · have H := H2 rfl
    clear H1 H2
    refine tk_s rfl rfl (nbF hb) ?_
    refine tk_s rfl rfl (nbF hb) ?_
    refine tk_s rfl rfl (nbF hb) ?_
    refine tk_s rfl rfl (nbF hb) ?_
    refine tk_s rfl rfl (nbF hb) ?_
    refine tk_s rfl rfl (nbF hb) ?_
    exact pA rfl (R_pickC (v := (.bool true)) true hb rfl) <| pS (.bool true) rfl rfl <| vp_done <| WPc_ret <| resH_of rfl <| H
/-! ### impl.taker[impl.Word] -/
def i_taker_implWord.sh (a0 a1 : Value) (h : Heap) (Q : Value → Heap → Prop) : Prop := box 243 a0 h fun b h=>box 3 a1 h fun d h=>Q (.func (.func 241) #[] #[b, d]) h
theorem i_taker_implWord.body (a0 a1 : Value) (h : Heap) (Q : Value → Heap → Prop) (H : i_taker_implWord.sh a0 a1 h Q) : i_taker_implWord.call #[a0, a1] h Q := by
  refine callsH_of (args := [a0, a1]) Try.func219 rfl rfl ?_
  unfold i_taker_implWord.sh at H
  exact sR <| vl_n <| H_box H fun t2 h H => vl_n <| H_box H fun t3 h H => nS .nilFunc rfl <| vl_e <| sR <| nA (R_mkFn (v := (.func (.func 241) #[] #[t2, t3])) rfl) <| nS (.func (.func 241) #[] #[t2, t3]) rfl <| vl_e <| WPc_ret <| resH_of rfl <| H
/-! ### impl.words$1 -/
def i_words_c1.sh (a0 a1 f0 : Value) (h : Heap) (Q : Value → Heap → Prop) : Prop := load1 f0 h fun b=>buildV [(.string ⟨#[]⟩), (.int .i64 0)] [(0, 1, a0), (1, 1, a1)] fun d=>callV Try.prog b #[d] h fun g h=>Q g h
theorem i_words_c1.body (a0 a1 f0 : Value) (h : Heap) (Q : Value → Heap → Prop) (H : i_words_c1.sh a0 a1 f0 h Q) : i_words_c1.call #[a0, a1, f0] h Q := by
  refine callsH_of (args := [a0, a1, f0]) Try.func220 rfl rfl ?_
  unfold i_words_c1.sh at H
  exact sR <| nS (.bool false) rfl <| vl_e <| sR <| nL T1_126 H fun _ H => nM a0 rfl <| nM a1 rfl <| nP (R_build TB_105 rfl (by decide)) H fun _ H => vl_n <| H_callV H fun t10 h H => nS t10 rfl <| vl_e <| WPc_ret <| resH_of rfl <| H
/-! ### impl.words -/
def i_words.sh (a0 a1 : Value) (h : Heap) (Q : Value → Heap → Prop) : Prop := i_taker_implWord.call #[a0, a1] h fun b h=>alloc [.nilFunc] 126 h fun d h=>store1 d b h fun h=>Q (.func (.func 220) #[] #[d]) h
theorem i_words.body (a0 a1 : Value) (h : Heap) (Q : Value → Heap → Prop) (H : i_words.sh a0 a1 h Q) : i_words.call #[a0, a1] h Q := by
  refine callsH_of (args := [a0, a1]) Try.func178 rfl rfl ?_
  unfold i_words.sh at H
  refine sR <| nS .nilFunc rfl <| vl_e <| sR <| nM a0 rfl <| nM a1 rfl <| vl_n <| H_call HB_219 H fun _ h H => vl_n <| H_alloc TV_126 H fun t5 h H => vl_n <| H_store1 TS_126 H fun h H => vl_e <| sR <| nA (R_mkFn (v := (.func (.func 220) #[] #[t5])) rfl) <| nS (.func (.func 220) #[] #[t5]) rfl <| vl_e ?_
  exact WPc_ret <| resH_of rfl <| H
/-! ### impl.allWords -/
def i_allWords.sh (a0 : Value) (h : Heap) (Q : Value → Heap → Prop) : Prop := alloc [(.slice none 0 0)] 52 h fun b h=>i_words.call #[b, (.int .i64 0)] h fun d h=>Map_si_Scan.call #[a0, d] h fun g h=>load1 b h fun i=>Q i h
theorem i_allWords.body (a0 : Value) (h : Heap) (Q : Value → Heap → Prop) (H : i_allWords.sh a0 h Q) : i_allWords.call #[a0] h Q := by
  refine callsH_of (args := [a0]) Try.func114 rfl rfl ?_
  unfold i_allWords.sh at H
  refine sR <| nS (.slice none 0 0) rfl <| vl_e <| sR <| vl_n <| H_alloc TV_52 H fun _ h H => vl_e <| sR <| nM a0 rfl <| vl_n <| H_call HB_178 H fun _ h H => vl_n <| H_call HB_177 H fun _ h H => vl_e <| sR <| nL T1_52 H fun t7 H => nS t7 rfl ?_
  exact vl_e <| WPc_ret <| resH_of rfl <| H
end Go.Proofs.Ytdpkpcmoabfofaa
end
section
namespace Go.Proofs.Ytdpkpcmoabfofaa
open Go.Hp
set_option maxRecDepth 100000
set_option maxHeartbeats 8000000
set_option linter.unusedVariables false
set_option linter.unusedSimpArgs false

/-! ### (*pub/tidwallbtree.Map[string, int]).nodeReverse -/
def Map_si_nodeReverse.j3 (h : Heap) (Q : Value → Heap → Prop) : Prop := Q (.bool true) h
def Map_si_nodeReverse.j6 (s0 s2 s3 s9 s11 : Value) (h : Heap) (K1 : List Value → Heap → Prop) (Q : Value → Heap → Prop) : Prop := arith (· - ·) s11 (.int .i64 1) fun b=>K1 [b] h
def Map_si_nodeReverse.j7 (s0 s2 s3 s9 s11 : Value) (h : Heap) (K1 : List Value → Heap → Prop) (Q : Value → Heap → Prop) : Prop := nilck s9 fun b=>fld 3 b fun d=>load1 d h fun g=>nilck g fun i=>load1 i h fun j=>idx 1 j s11 fun k=>Map_si_nodeReverse.call #[s0, k, s2, s3] h fun l h=>notV l fun m=>ifV m (Q (.bool false) h) (Map_si_nodeReverse.j6 s0 s2 s3 s9 s11 h K1 Q)
def Map_si_nodeReverse.j5 (s0 s2 s3 s9 s11 : Value) (h : Heap) (K1 : List Value → Heap → Prop) (Q : Value → Heap → Prop) : Prop := nilck s9 fun b=>fld 2 b fun d=>load1 d h fun g=>idx 2 g s11 fun i=>fld 1 i fun j=>load1 j h fun k=>nilck s9 fun l=>fld 2 l fun m=>load1 m h fun n=>idx 2 n s11 fun o=>fld 0 o fun p=>load1 p h fun q=>callV Try.prog s2 #[k, q] h fun u h=>notV u fun v=>ifV v (Q (.bool false) h) (Map_si_nodeReverse.j7 s0 s2 s3 s9 s11 h K1 Q)
def Map_si_nodeReverse.l4.b (c0 c2 c3 c9 s11 : Value) (h : Heap) (K1 : List Value → Heap → Prop) (Q : Value → Heap → Prop) : Prop := cmpI (fun a b=>decide (a ≥ b)) s11 (.int .i64 0) fun b=>ifV b (Map_si_nodeReverse.j5 c0 c2 c3 c9 s11 h K1 Q) (Map_si_nodeReverse.j3 h Q)
def Map_si_nodeReverse.j2 (s0 s2 s3 s9 : Value) (h : Heap) (Q : Value → Heap → Prop) : Prop := nilck s9 fun b=>fld 2 b fun d=>load1 d h fun g=>lenV g fun i=>arith (· - ·) i (.int .i64 1) fun j=>loopC (fun c s h K1=>Map_si_nodeReverse.l4.b (c.getD 0 undef) (c.getD 1 undef) (c.getD 2 undef) (c.getD 3 undef) (s.getD 0 undef) h K1 Q) [s0, s2, s3, s9] [j] h
def Map_si_nodeReverse.j1 (s0 s2 s3 s9 : Value) (h : Heap) (Q : Value → Heap → Prop) : Prop := nilck s9 fun b=>fld 3 b fun d=>load1 d h fun g=>nilck g fun i=>load1 i h fun j=>nilck s9 fun k=>fld 3 k fun l=>load1 l h fun m=>nilck m fun n=>load1 n h fun o=>lenV o fun p=>arith (· - ·) p (.int .i64 1) fun q=>idx 1 j q fun u=>Map_si_nodeReverse.call #[s0, u, s2, s3] h fun v h=>notV v fun w=>ifV w (Q (.bool false) h) (Map_si_nodeReverse.j2 s0 s2 s3 s9 h Q)
def Map_si_nodeReverse.j8 (h : Heap) (Q : Value → Heap → Prop) : Prop := Q (.bool true) h
def Map_si_nodeReverse.j11 (s2 s9 s10 : Value) (h : Heap) (K1 : List Value → Heap → Prop) (Q : Value → Heap → Prop) : Prop := arith (· - ·) s10 (.int .i64 1) fun b=>K1 [b] h
def Map_si_nodeReverse.j10 (s2 s9 s10 : Value) (h : Heap) (K1 : List Value → Heap → Prop) (Q : Value → Heap → Prop) : Prop := nilck s9 fun b=>fld 2 b fun d=>load1 d h fun g=>idx 2 g s10 fun i=>fld 1 i fun j=>load1 j h fun k=>nilck s9 fun l=>fld 2 l fun m=>load1 m h fun n=>idx 2 n s10 fun o=>fld 0 o fun p=>load1 p h fun q=>callV Try.prog s2 #[k, q] h fun u h=>notV u fun v=>ifV v (Q (.bool false) h) (Map_si_nodeReverse.j11 s2 s9 s10 h K1 Q)
def Map_si_nodeReverse.l9.b (c2 c9 s10 : Value) (h : Heap) (K1 : List Value → Heap → Prop) (Q : Value → Heap → Prop) : Prop := cmpI (fun a b=>decide (a ≥ b)) s10 (.int .i64 0) fun b=>ifV b (Map_si_nodeReverse.j10 c2 c9 s10 h K1 Q) (Map_si_nodeReverse.j8 h Q)
def Map_si_nodeReverse.sh (a0 a1 a2 a3 : Value) (h : Heap) (Q : Value → Heap → Prop) : Prop := Map_si_isoLoad.call #[a0, a1, a3] h fun b h=>mapNode_si_leaf.call #[b] h fun d h=>ifV d (nilck b fun g=>fld 2 g fun i=>load1 i h fun j=>lenV j fun k=>arith (· - ·) k (.int .i64 1) fun l=>loopC (fun c s h K1=>Map_si_nodeReverse.l9.b (c.getD 0 undef) (c.getD 1 undef) (s.getD 0 undef) h K1 Q) [a2, b] [l] h) (Map_si_nodeReverse.j1 a0 a2 a3 b h Q)
theorem Map_si_nodeReverse.body (a0 a1 a2 a3 : Value) (h : Heap) (Q : Value → Heap → Prop) (H : Map_si_nodeReverse.sh a0 a1 a2 a3 h Q) : Map_si_nodeReverse.call #[a0, a1, a2, a3] h Q := by
  refine callsH_of (args := [a0, a1, a2, a3]) Try.func243 rfl rfl ?_
  unfold Map_si_nodeReverse.sh at H
  refine sR <| nS (.bool false) rfl <| vl_e <| sR <| nM a0 rfl <| nM a1 rfl <| nM a3 rfl <| vl_n <| H_call HB_206 H fun t15 h H => nS t15 rfl <| vl_e ?_
  refine WPc_seq (fun e h => Map_si_nodeReverse.j1 (e 0) (e 2) (e 3) (e 9) h Q) ?_ (fun e h H => ?_)
  rotate_left
  · unfold Map_si_nodeReverse.j1 at H
    refine WPc_seq (fun e h => Map_si_nodeReverse.j2 (e 0) (e 2) (e 3) (e 9) h Q) ?_ (fun e h H => ?_)
    rotate_left
    · unfold Map_si_nodeReverse.j2 at H
      refine WPc_seq (fun e h => Map_si_nodeReverse.j3 h Q) ?_ (fun e h H => ?_)
      rotate_left
      · unfold Map_si_nodeReverse.j3 at H
        exact sR <| nS (.bool true) rfl <| vl_e <| WPc_ret <| resH_of rfl <| H
      refine sR <| nM (e 9) rfl <| nP R_nil H fun _ H => nP (R_fld TF_285_2) H fun _ H => nL T1_282 H fun _ H => nP (R_len Try.underlying282) H fun _ H => nP R_sub H fun t72 H => nS t72 rfl <| vl_e <| WPc_block ?_
      refine loop_at (fun e => [e 11]) (fun e => [e 0, e 2, e 3, e 9]) H rfl rfl ?_
      intro K1 e1 h H hin1
      replace H : Map_si_nodeReverse.l4.b (e1 0) (e1 2) (e1 3) (e1 9) (e1 11) h K1 Q := H
      unfold Map_si_nodeReverse.l4.b at H
      clear hin1
      refine WPc_seq (fun e h => Map_si_nodeReverse.j5 (e 0) (e 2) (e 3) (e 9) (e 11) h K1 Q ∧ [e1 0, e1 2, e1 3, e1 9] = [e 0, e 2, e 3, e 9]) ?_ (fun e h ⟨H, hq1⟩ => ?_)
      rotate_left
      · unfold Map_si_nodeReverse.j5 at H
        refine WPc_seq (fun e h => Map_si_nodeReverse.j6 (e 0) (e 2) (e 3) (e 9) (e 11) h K1 Q ∧ [e1 0, e1 2, e1 3, e1 9] = [e 0, e 2, e 3, e 9]) ?_ (fun e h ⟨H, hq1⟩ => ?_)
        rotate_left
        · unfold Map_si_nodeReverse.j6 at H
          refine W_region (by kernel_rfl) <| nM (e 11) rfl <| nP R_sub H fun t76 H => nS t76 rfl <| vl_e ?_
          exact ⟨H, hq1⟩
        refine WPc_block ?_
        refine WPc_seq (fun e h => Map_si_nodeReverse.j7 (e 0) (e 2) (e 3) (e 9) (e 11) h K1 Q ∧ [e1 0, e1 2, e1 3, e1 9] = [e 0, e 2, e 3, e 9]) ?_ (fun e h ⟨H, hq1⟩ => ?_)
        rotate_left
        · unfold Map_si_nodeReverse.j7 at H
          refine sR <| nM (e 0) rfl <| nM (e 9) rfl <| nP R_nil H fun _ H => nP (R_fld TF_285_3) H fun _ H => nL T1_283 H fun _ H => nP R_nil H fun _ H => nL T1_290 H fun _ H => nM (e 11) rfl <| nP (R_idx TE_290) H fun _ H => nM (e 2) rfl <| nM (e 3) rfl <| vl_n <| H_call HB_243 H fun _ h H => nP R_not H fun _ H => ?_
          refine vl_e ?_
          refine cI H (fun H => ?_) fun H => ?_
          · exact sR <| nS (.bool false) rfl <| vl_e <| WPc_ret <| resH_of rfl <| H
          · refine WPc_skip ?_
            exact ⟨H, hq1⟩
        refine WPc_seq' <| W_drawn [0, 0, 2, 6, 14, 0, 62, 126, 254, 0, 512, 1536, 3584, 0, 15872, 32256, 65024, 131071, 262143] (.take 0 (.take 1 (.take 2 (.take 3 (.take 4 (.take 5 (.take 6 (.take 7 (.take 8 (.take 9 (.take 10 (.take 11 (.take 12 (.take 13 (.take 14 (.take 15 (.take 16 (.alt 17 (.take 18 .done) .none)))))))))))))))))) mixed (by kernel_rfl) <| pM (e 2) rfl rfl <| pM (e 9) rfl rfl <| pP rfl R_nil H fun _ H => pP rfl (R_fld TF_285_2) H fun _ H => pL rfl T1_282 H fun _ _ _ H => pM (e 11) rfl rfl <| pP rfl (R_idx TE_282) H fun _ H => pP rfl (R_fld TF_223_1) H fun _ H => pL rfl T1_9 H fun _ _ _ H => pM (e 9) rfl rfl <| pP rfl R_nil H fun _ H => pP rfl (R_fld TF_285_2) H fun _ H => ?_
        refine pL rfl T1_282 H fun _ _ _ H => pM (e 11) rfl rfl <| pP rfl (R_idx TE_282) H fun _ H => pP rfl (R_fld TF_223_0) H fun _ H => pL rfl T1_3 H fun _ _ _ H => aE rfl <| H_callV H fun _ h H => ⟨(hskip rfl (hskip rfl (hskip rfl (hskip rfl hnil)))), pP rfl R_not H fun _ H => vp_done ?_⟩
        refine cI H (fun H => ?_) fun H => ?_
        · exact sR <| nS (.bool false) rfl <| vl_e <| WPc_ret <| resH_of rfl <| H
        · refine WPc_skip ?_
          exact ⟨H, hq1⟩
      refine sR <| nM (e1 11) rfl <| nP R_geq H fun _ H => vl_e ?_
      refine cI H (fun H => ?_) fun H => ?_
      · refine WPc_skip ?_
        exact ⟨H, rfl⟩
      · refine WPc_exit ?_
        exact H
    refine WPc_seq' <| W_drawn [0, 0, 2, 6, 14, 30, 62, 0, 128, 384, 896, 1920, 3968, 8064, 16256, 32766, 0, 0, 262143, 524287] (.take 0 (.take 1 (.take 2 (.take 3 (.take 4 (.take 5 (.take 6 (.take 7 (.take 8 (.take 9 (.take 10 (.take 11 (.take 12 (.take 13 (.take 14 (.take 15 (.take 16 (.take 17 (.alt 18 (.take 19 .done) .none))))))))))))))))))) mixed (by kernel_rfl) <| pM (e 0) rfl rfl <| pM (e 9) rfl rfl <| pP rfl R_nil H fun _ H => pP rfl (R_fld TF_285_3) H fun _ H => pL rfl T1_283 H fun _ _ _ H => pP rfl R_nil H fun _ H => pL rfl T1_290 H fun _ _ _ H => pM (e 9) rfl rfl <| pP rfl R_nil H fun _ H => pP rfl (R_fld TF_285_3) H fun _ H => pL rfl T1_283 H fun _ _ _ H => pP rfl R_nil H fun _ H => ?_
    refine pL rfl T1_290 H fun _ _ _ H => pP rfl (R_len Try.underlying290) H fun _ H => pP rfl R_sub H fun _ H => pP rfl (R_idx TE_290) H fun _ H => pM (e 2) rfl rfl <| pM (e 3) rfl rfl <| aE rfl <| H_call HB_243 H fun _ h H => ⟨(hskip rfl (hskip rfl (hskip rfl (hskip rfl hnil)))), pP rfl R_not H fun _ H => vp_done ?_⟩
    refine cI H (fun H => ?_) fun H => ?_
    · exact sR <| nS (.bool false) rfl <| vl_e <| WPc_ret <| resH_of rfl <| H
    · exact WPc_skip <| H
  refine sR <| nM t15 rfl <| vl_n <| H_call HB_204 H fun _ h H => vl_e ?_
  refine cI H (fun H => ?_) fun H => ?_
  · refine WPc_seq (fun e h => Map_si_nodeReverse.j8 h Q) ?_ (fun e h H => ?_)
    rotate_left
    · unfold Map_si_nodeReverse.j8 at H
      exact sR <| nS (.bool true) rfl <| vl_e <| WPc_ret <| resH_of rfl <| H
    refine sR <| nM t15 rfl <| nP R_nil H fun _ H => nP (R_fld TF_285_2) H fun _ H => nL T1_282 H fun _ H => nP (R_len Try.underlying282) H fun _ H => nP R_sub H fun t23 H => nS t23 rfl <| vl_e <| WPc_block ?_
    refine loop_at (fun e => [e 10]) (fun e => [e 2, e 9]) H rfl rfl ?_
    intro K1 e1 h H hin1
    replace H : Map_si_nodeReverse.l9.b (e1 2) (e1 9) (e1 10) h K1 Q := H
    unfold Map_si_nodeReverse.l9.b at H
    clear hin1
    refine WPc_seq (fun e h => Map_si_nodeReverse.j10 (e 2) (e 9) (e 10) h K1 Q ∧ [e1 2, e1 9] = [e 2, e 9]) ?_ (fun e h ⟨H, hq1⟩ => ?_)
    rotate_left
    · unfold Map_si_nodeReverse.j10 at H
      refine WPc_seq (fun e h => Map_si_nodeReverse.j11 (e 2) (e 9) (e 10) h K1 Q ∧ [e1 2, e1 9] = [e 2, e 9]) ?_ (fun e h ⟨H, hq1⟩ => ?_)
      rotate_left
      · unfold Map_si_nodeReverse.j11 at H
        refine W_region (by kernel_rfl) <| nM (e 10) rfl <| nP R_sub H fun t27 H => nS t27 rfl <| vl_e ?_
        exact ⟨H, hq1⟩
      refine WPc_block <| WPc_seq' <| W_drawn [0, 0, 2, 6, 14, 0, 62, 126, 254, 0, 512, 1536, 3584, 0, 15872, 32256, 65024, 131071, 262143] (.take 0 (.take 1 (.take 2 (.take 3 (.take 4 (.take 5 (.take 6 (.take 7 (.take 8 (.take 9 (.take 10 (.take 11 (.take 12 (.take 13 (.take 14 (.take 15 (.take 16 (.alt 17 (.take 18 .done) .none)))))))))))))))))) mixed (by kernel_rfl) <| pM (e 2) rfl rfl <| pM (e 9) rfl rfl <| pP rfl R_nil H fun _ H => pP rfl (R_fld TF_285_2) H fun _ H => pL rfl T1_282 H fun _ _ _ H => pM (e 10) rfl rfl <| pP rfl (R_idx TE_282) H fun _ H => pP rfl (R_fld TF_223_1) H fun _ H => pL rfl T1_9 H fun _ _ _ H => pM (e 9) rfl rfl <| pP rfl R_nil H fun _ H => ?_
      refine pP rfl (R_fld TF_285_2) H fun _ H => pL rfl T1_282 H fun _ _ _ H => pM (e 10) rfl rfl <| pP rfl (R_idx TE_282) H fun _ H => pP rfl (R_fld TF_223_0) H fun _ H => pL rfl T1_3 H fun _ _ _ H => aE rfl <| H_callV H fun _ h H => ⟨(hskip rfl (hskip rfl (hskip rfl (hskip rfl hnil)))), pP rfl R_not H fun _ H => vp_done ?_⟩
      refine cI H (fun H => ?_) fun H => ?_
      · exact sR <| nS (.bool false) rfl <| vl_e <| WPc_ret <| resH_of rfl <| H
      · refine WPc_skip ?_
        exact ⟨H, hq1⟩
    refine sR <| nM (e1 10) rfl <| nP R_geq H fun _ H => vl_e ?_
    refine cI H (fun H => ?_) fun H => ?_
    · refine WPc_skip ?_
      exact ⟨H, rfl⟩
    · refine WPc_exit ?_
      exact H
  · exact WPc_skip <| H
/-! ### (*pub/tidwallbtree.Map[string, int]).nodeAscend -/
def Map_si_nodeAscend.j2 (h : Heap) (Q : Value → Heap → Prop) : Prop := Q (.bool true) h
def Map_si_nodeAscend.j5 (s0 s3 s4 s11 s12 : Value) (h : Heap) (K1 : List Value → Heap → Prop) (Q : Value → Heap → Prop) : Prop := arith (· + ·) s12 (.int .i64 1) fun b=>K1 [b] h
def Map_si_nodeAscend.j6 (s0 s3 s4 s11 s12 : Value) (h : Heap) (K1 : List Value → Heap → Prop) (Q : Value → Heap → Prop) : Prop := mapNode_si_leaf.call #[s11] h fun b h=>notV b fun d=>ifV d (nilck s11 fun g=>fld 3 g fun i=>load1 i h fun j=>nilck j fun k=>load1 k h fun l=>arith (· + ·) s12 (.int .i64 1) fun m=>idx 1 l m fun n=>Map_si_nodeScan.call #[s0, n, s3, s4] h fun o h=>notV o fun p=>ifV p (Q (.bool false) h) (Map_si_nodeAscend.j5 s0 s3 s4 s11 s12 h K1 Q)) (Map_si_nodeAscend.j5 s0 s3 s4 s11 s12 h K1 Q)
def Map_si_nodeAscend.j4 (s0 s3 s4 s11 s12 : Value) (h : Heap) (K1 : List Value → Heap → Prop) (Q : Value → Heap → Prop) : Prop := nilck s11 fun b=>fld 2 b fun d=>load1 d h fun g=>idx 2 g s12 fun i=>fld 1 i fun j=>load1 j h fun k=>nilck s11 fun l=>fld 2 l fun m=>load1 m h fun n=>idx 2 n s12 fun o=>fld 0 o fun p=>load1 p h fun q=>callV Try.prog s3 #[k, q] h fun u h=>notV u fun v=>ifV v (Q (.bool false) h) (Map_si_nodeAscend.j6 s0 s3 s4 s11 s12 h K1 Q)
def Map_si_nodeAscend.l3.b (c0 c3 c4 c11 s12 : Value) (h : Heap) (K1 : List Value → Heap → Prop) (Q : Value → Heap → Prop) : Prop := nilck c11 fun b=>fld 2 b fun d=>load1 d h fun g=>lenV g fun i=>cmpI (fun a b=>decide (a < b)) s12 i fun j=>ifV j (Map_si_nodeAscend.j4 c0 c3 c4 c11 s12 h K1 Q) (Map_si_nodeAscend.j2 h Q)
def Map_si_nodeAscend.j1 (s0 s3 s4 s11 s12 : Value) (h : Heap) (Q : Value → Heap → Prop) : Prop := loopC (fun c s h K1=>Map_si_nodeAscend.l3.b (c.getD 0 undef) (c.getD 1 undef) (c.getD 2 undef) (c.getD 3 undef) (s.getD 0 undef) h K1 Q) [s0, s3, s4, s11] [s12] h
def Map_si_nodeAscend.sh (a0 a1 a2 a3 a4 : Value) (h : Heap) (Q : Value → Heap → Prop) : Prop := Map_si_isoLoad.call #[a0, a1, a4] h fun b h=>Map_si_search.call #[a0, b, a2] h fun d h=>extr 0 d fun g=>extr 1 d fun i=>notV i fun j=>ifV j (mapNode_si_leaf.call #[b] h fun k h=>notV k fun l=>ifV l (nilck b fun m=>fld 3 m fun n=>load1 n h fun o=>nilck o fun p=>load1 p h fun q=>idx 1 q g fun u=>Map_si_nodeAscend.call #[a0, u, a2, a3, a4] h fun v h=>notV v fun w=>ifV w (Q (.bool false) h) (Map_si_nodeAscend.j1 a0 a3 a4 b g h Q)) (Map_si_nodeAscend.j1 a0 a3 a4 b g h Q)) (Map_si_nodeAscend.j1 a0 a3 a4 b g h Q)
theorem Map_si_nodeAscend.body (a0 a1 a2 a3 a4 : Value) (h : Heap) (Q : Value → Heap → Prop) (H : Map_si_nodeAscend.sh a0 a1 a2 a3 a4 h Q) : Map_si_nodeAscend.call #[a0, a1, a2, a3, a4] h Q := by
  refine callsH_of (args := [a0, a1, a2, a3, a4]) Try.func244 rfl rfl ?_
  unfold Map_si_nodeAscend.sh at H
  refine sR <| nS (.bool false) rfl <| vl_e <| sR <| nM a0 rfl <| nM a1 rfl <| nM a4 rfl <| vl_n <| H_call HB_206 H fun t17 h H => nS t17 rfl <| vl_e <| sR <| nM a0 rfl <| nM t17 rfl <| nM a2 rfl ?_
  refine vl_n <| H_call HB_234 H fun t22 h H => nM t22 rfl <| nP R_ext H fun t23 H => nP R_ext H fun t24 H => nS t23 rfl <| nS t24 rfl <| vl_e ?_
  refine WPc_seq (fun e h => Map_si_nodeAscend.j1 (e 0) (e 3) (e 4) (e 11) (e 12) h Q) ?_ (fun e h H => ?_)
  rotate_left
  · unfold Map_si_nodeAscend.j1 at H
    refine WPc_seq (fun e h => Map_si_nodeAscend.j2 h Q) ?_ (fun e h H => ?_)
    rotate_left
    · unfold Map_si_nodeAscend.j2 at H
      exact sR <| nS (.bool true) rfl <| vl_e <| WPc_ret <| resH_of rfl <| H
    refine WPc_block ?_
    refine loop_at (fun e => [e 12]) (fun e => [e 0, e 3, e 4, e 11]) H rfl rfl ?_
    intro K1 e1 h H hin1
    replace H : Map_si_nodeAscend.l3.b (e1 0) (e1 3) (e1 4) (e1 11) (e1 12) h K1 Q := H
    unfold Map_si_nodeAscend.l3.b at H
    clear hin1
    refine WPc_seq (fun e h => Map_si_nodeAscend.j4 (e 0) (e 3) (e 4) (e 11) (e 12) h K1 Q ∧ [e1 0, e1 3, e1 4, e1 11] = [e 0, e 3, e 4, e 11]) ?_ (fun e h ⟨H, hq1⟩ => ?_)
    rotate_left
    · unfold Map_si_nodeAscend.j4 at H
      refine WPc_seq (fun e h => Map_si_nodeAscend.j5 (e 0) (e 3) (e 4) (e 11) (e 12) h K1 Q ∧ [e1 0, e1 3, e1 4, e1 11] = [e 0, e 3, e 4, e 11]) ?_ (fun e h ⟨H, hq1⟩ => ?_)
      rotate_left
      · unfold Map_si_nodeAscend.j5 at H
        refine W_region (by kernel_rfl) <| nM (e 12) rfl <| nP R_add H fun t52 H => nS t52 rfl <| vl_e ?_
        exact ⟨H, hq1⟩
      refine WPc_block ?_
      refine WPc_seq (fun e h => Map_si_nodeAscend.j6 (e 0) (e 3) (e 4) (e 11) (e 12) h K1 Q ∧ [e1 0, e1 3, e1 4, e1 11] = [e 0, e 3, e 4, e 11]) ?_ (fun e h ⟨H, hq1⟩ => ?_)
      rotate_left
      · unfold Map_si_nodeAscend.j6 at H
        refine sR <| nM (e 11) rfl <| vl_n <| H_call HB_204 H fun _ h H => nP R_not H fun _ H => vl_e ?_
        refine cI H (fun H => ?_) fun H => ?_
        · refine sR <| nM (e 0) rfl <| nM (e 11) rfl <| nP R_nil H fun _ H => nP (R_fld TF_285_3) H fun _ H => nL T1_283 H fun _ H => nP R_nil H fun _ H => nL T1_290 H fun _ H => nM (e 12) rfl <| nP R_add H fun _ H => nP (R_idx TE_290) H fun _ H => nM (e 3) rfl <| nM (e 4) rfl <| vl_n <| H_call HB_240 H fun _ h H => ?_
          refine nP R_not H fun _ H => vl_e ?_
          refine cI H (fun H => ?_) fun H => ?_
          · exact sR <| nS (.bool false) rfl <| vl_e <| WPc_ret <| resH_of rfl <| H
          · refine WPc_skip ?_
            exact ⟨H, hq1⟩
        · refine WPc_skip ?_
          exact ⟨H, hq1⟩
      refine WPc_seq' <| W_drawn [0, 0, 2, 6, 14, 0, 62, 126, 254, 0, 512, 1536, 3584, 0, 15872, 32256, 65024, 131071, 262143] (.take 0 (.take 1 (.take 2 (.take 3 (.take 4 (.take 5 (.take 6 (.take 7 (.take 8 (.take 9 (.take 10 (.take 11 (.take 12 (.take 13 (.take 14 (.take 15 (.take 16 (.alt 17 (.take 18 .done) .none)))))))))))))))))) mixed (by kernel_rfl) <| pM (e 3) rfl rfl <| pM (e 11) rfl rfl <| pP rfl R_nil H fun _ H => pP rfl (R_fld TF_285_2) H fun _ H => pL rfl T1_282 H fun _ _ _ H => pM (e 12) rfl rfl <| pP rfl (R_idx TE_282) H fun _ H => pP rfl (R_fld TF_223_1) H fun _ H => pL rfl T1_9 H fun _ _ _ H => pM (e 11) rfl rfl <| pP rfl R_nil H fun _ H => pP rfl (R_fld TF_285_2) H fun _ H => ?_
      refine pL rfl T1_282 H fun _ _ _ H => pM (e 12) rfl rfl <| pP rfl (R_idx TE_282) H fun _ H => pP rfl (R_fld TF_223_0) H fun _ H => pL rfl T1_3 H fun _ _ _ H => aE rfl <| H_callV H fun _ h H => ⟨(hskip rfl (hskip rfl (hskip rfl (hskip rfl hnil)))), pP rfl R_not H fun _ H => vp_done ?_⟩
      refine cI H (fun H => ?_) fun H => ?_
      · exact sR <| nS (.bool false) rfl <| vl_e <| WPc_ret <| resH_of rfl <| H
      · refine WPc_skip ?_
        exact ⟨H, hq1⟩
    refine sR <| nM (e1 12) rfl <| nM (e1 11) rfl <| nP R_nil H fun _ H => nP (R_fld TF_285_2) H fun _ H => nL T1_282 H fun _ H => nP (R_len Try.underlying282) H fun _ H => nP R_lss H fun _ H => vl_e ?_
    refine cI H (fun H => ?_) fun H => ?_
    · refine WPc_skip ?_
      exact ⟨H, rfl⟩
    · refine WPc_exit ?_
      exact H
  refine sR <| nM t24 rfl <| nP R_not H fun _ H => vl_e ?_
  refine cI H (fun H => ?_) fun H => ?_
  · refine sR <| nM t17 rfl <| vl_n <| H_call HB_204 H fun _ h H => nP R_not H fun _ H => vl_e ?_
    refine cI H (fun H => ?_) fun H => ?_
    · refine sR <| nM a0 rfl <| nM t17 rfl <| nP R_nil H fun _ H => nP (R_fld TF_285_3) H fun _ H => nL T1_283 H fun _ H => nP R_nil H fun _ H => nL T1_290 H fun _ H => nM t23 rfl <| nP (R_idx TE_290) H fun _ H => nM a2 rfl <| nM a3 rfl <| nM a4 rfl <| vl_n <| H_call HB_244 H fun _ h H => ?_
      refine nP R_not H fun _ H => vl_e ?_
      refine cI H (fun H => ?_) fun H => ?_
      · exact sR <| nS (.bool false) rfl <| vl_e <| WPc_ret <| resH_of rfl <| H
      · exact WPc_skip <| H
    · exact WPc_skip <| H
  · exact WPc_skip <| H
/-! ### (*pub/tidwallbtree.Map[string, int]).ascend -/
def Map_si_ascend.j1 (s0 s1 s2 s3 : Value) (h : Heap) (Q : Value → Heap → Prop) : Prop := nilck s0 fun b=>fld 2 b fun d=>Map_si_nodeAscend.call #[s0, d, s1, s2, s3] h fun g h=>Q (.tuple #[]) h
def Map_si_ascend.sh (a0 a1 a2 a3 : Value) (h : Heap) (Q : Value → Heap → Prop) : Prop := nilck a0 fun b=>fld 2 b fun d=>load1 d h fun g=>eqNilP g fun i=>ifV i (Q (.tuple #[]) h) (Map_si_ascend.j1 a0 a1 a2 a3 h Q)
theorem Map_si_ascend.body (a0 a1 a2 a3 : Value) (h : Heap) (Q : Value → Heap → Prop) (H : Map_si_ascend.sh a0 a1 a2 a3 h Q) : Map_si_ascend.call #[a0, a1, a2, a3] h Q := by
  refine callsH_of (args := [a0, a1, a2, a3]) Try.func238 rfl rfl ?_
  unfold Map_si_ascend.sh at H
  refine WPc_seq (fun e h => Map_si_ascend.j1 (e 0) (e 1) (e 2) (e 3) h Q) ?_ (fun e h H => ?_)
  rotate_left
  · unfold Map_si_ascend.j1 at H
    exact W_region (by kernel_rfl) <| nM (e 0) rfl <| nM (e 0) rfl <| nP R_nil H fun _ H => nP (R_fld TF_225_2) H fun _ H => nM (e 1) rfl <| nM (e 2) rfl <| nM (e 3) rfl <| vl_n <| H_call HB_244 H fun _ h H => vl_e <| resH_of rfl <| H
  refine sR <| nM a0 rfl <| nP R_nil H fun _ H => nP (R_fld TF_225_2) H fun _ H => nL T1_221 H fun _ H => nP (R_eqNilP Try.underlying221 rfl) H fun _ H => vl_e ?_
  refine cI H (fun H => ?_) fun H => ?_
  · exact WPc_ret <| resH_of rfl <| H
  · exact WPc_skip <| H
/-! ### (*pub/tidwallbtree.Map[string, int]).Ascend -/
def Map_si_Ascend.sh (a0 a1 a2 : Value) (h : Heap) (Q : Value → Heap → Prop) : Prop := Map_si_ascend.call #[a0, a1, a2, (.bool false)] h fun b h=>Q (.tuple #[]) h
theorem Map_si_Ascend.body (a0 a1 a2 : Value) (h : Heap) (Q : Value → Heap → Prop) (H : Map_si_Ascend.sh a0 a1 a2 h Q) : Map_si_Ascend.call #[a0, a1, a2] h Q := by
  refine callsH_of (args := [a0, a1, a2]) Try.func215 rfl rfl ?_
  unfold Map_si_Ascend.sh at H
  exact W_region (by kernel_rfl) <| nM a0 rfl <| nM a1 rfl <| nM a2 rfl <| vl_n <| H_call HB_238 H fun _ h H => vl_e <| resH_of rfl <| H
/-! ### (*pub/tidwallbtree.Map[string, int]).nodeDescend -/
def Map_si_nodeDescend.j2 (h : Heap) (Q : Value → Heap → Prop) : Prop := Q (.bool true) h
def Map_si_nodeDescend.j5 (s0 s3 s4 s11 s12 : Value) (h : Heap) (K1 : List Value → Heap → Prop) (Q : Value → Heap → Prop) : Prop := arith (· - ·) s12 (.int .i64 1) fun b=>K1 [b] h
def Map_si_nodeDescend.j6 (s0 s3 s4 s11 s12 : Value) (h : Heap) (K1 : List Value → Heap → Prop) (Q : Value → Heap → Prop) : Prop := mapNode_si_leaf.call #[s11] h fun b h=>notV b fun d=>ifV d (nilck s11 fun g=>fld 3 g fun i=>load1 i h fun j=>nilck j fun k=>load1 k h fun l=>idx 1 l s12 fun m=>Map_si_nodeReverse.call #[s0, m, s3, s4] h fun n h=>notV n fun o=>ifV o (Q (.bool false) h) (Map_si_nodeDescend.j5 s0 s3 s4 s11 s12 h K1 Q)) (Map_si_nodeDescend.j5 s0 s3 s4 s11 s12 h K1 Q)
def Map_si_nodeDescend.j4 (s0 s3 s4 s11 s12 : Value) (h : Heap) (K1 : List Value → Heap → Prop) (Q : Value → Heap → Prop) : Prop := nilck s11 fun b=>fld 2 b fun d=>load1 d h fun g=>idx 2 g s12 fun i=>fld 1 i fun j=>load1 j h fun k=>nilck s11 fun l=>fld 2 l fun m=>load1 m h fun n=>idx 2 n s12 fun o=>fld 0 o fun p=>load1 p h fun q=>callV Try.prog s3 #[k, q] h fun u h=>notV u fun v=>ifV v (Q (.bool false) h) (Map_si_nodeDescend.j6 s0 s3 s4 s11 s12 h K1 Q)
def Map_si_nodeDescend.l3.b (c0 c3 c4 c11 s12 : Value) (h : Heap) (K1 : List Value → Heap → Prop) (Q : Value → Heap → Prop) : Prop := cmpI (fun a b=>decide (a ≥ b)) s12 (.int .i64 0) fun b=>ifV b (Map_si_nodeDescend.j4 c0 c3 c4 c11 s12 h K1 Q) (Map_si_nodeDescend.j2 h Q)
def Map_si_nodeDescend.j1 (s0 s3 s4 s11 s12 : Value) (h : Heap) (Q : Value → Heap → Prop) : Prop := loopC (fun c s h K1=>Map_si_nodeDescend.l3.b (c.getD 0 undef) (c.getD 1 undef) (c.getD 2 undef) (c.getD 3 undef) (s.getD 0 undef) h K1 Q) [s0, s3, s4, s11] [s12] h
def Map_si_nodeDescend.j7 (s0 s3 s4 s11 s12 : Value) (h : Heap) (Q : Value → Heap → Prop) : Prop := arith (· - ·) s12 (.int .i64 1) fun b=>Map_si_nodeDescend.j1 s0 s3 s4 s11 b h Q
def Map_si_nodeDescend.sh (a0 a1 a2 a3 a4 : Value) (h : Heap) (Q : Value → Heap → Prop) : Prop := Map_si_isoLoad.call #[a0, a1, a4] h fun b h=>Map_si_search.call #[a0, b, a2] h fun d h=>extr 0 d fun g=>extr 1 d fun i=>notV i fun j=>ifV j (mapNode_si_leaf.call #[b] h fun k h=>notV k fun l=>ifV l (nilck b fun m=>fld 3 m fun n=>load1 n h fun o=>nilck o fun p=>load1 p h fun q=>idx 1 q g fun u=>Map_si_nodeDescend.call #[a0, u, a2, a3, a4] h fun v h=>notV v fun w=>ifV w (Q (.bool false) h) (Map_si_nodeDescend.j7 a0 a3 a4 b g h Q)) (Map_si_nodeDescend.j7 a0 a3 a4 b g h Q)) (Map_si_nodeDescend.j1 a0 a3 a4 b g h Q)
theorem Map_si_nodeDescend.body (a0 a1 a2 a3 a4 : Value) (h : Heap) (Q : Value → Heap → Prop) (H : Map_si_nodeDescend.sh a0 a1 a2 a3 a4 h Q) : Map_si_nodeDescend.call #[a0, a1, a2, a3, a4] h Q := by
  refine callsH_of (args := [a0, a1, a2, a3, a4]) Try.func245 rfl rfl ?_
  unfold Map_si_nodeDescend.sh at H
  refine sR <| nS (.bool false) rfl <| vl_e <| sR <| nM a0 rfl <| nM a1 rfl <| nM a4 rfl <| vl_n <| H_call HB_206 H fun t17 h H => nS t17 rfl <| vl_e <| sR <| nM a0 rfl <| nM t17 rfl <| nM a2 rfl ?_
  refine vl_n <| H_call HB_234 H fun t22 h H => nM t22 rfl <| nP R_ext H fun t23 H => nP R_ext H fun t24 H => nS t23 rfl <| nS t24 rfl <| vl_e ?_
  refine WPc_seq (fun e h => Map_si_nodeDescend.j1 (e 0) (e 3) (e 4) (e 11) (e 12) h Q) ?_ (fun e h H => ?_)
  rotate_left
  · unfold Map_si_nodeDescend.j1 at H
    refine WPc_seq (fun e h => Map_si_nodeDescend.j2 h Q) ?_ (fun e h H => ?_)
    rotate_left
    · unfold Map_si_nodeDescend.j2 at H
      exact sR <| nS (.bool true) rfl <| vl_e <| WPc_ret <| resH_of rfl <| H
    refine WPc_block ?_
    refine loop_at (fun e => [e 12]) (fun e => [e 0, e 3, e 4, e 11]) H rfl rfl ?_
    intro K1 e1 h H hin1
    replace H : Map_si_nodeDescend.l3.b (e1 0) (e1 3) (e1 4) (e1 11) (e1 12) h K1 Q := H
    unfold Map_si_nodeDescend.l3.b at H
    clear hin1
    refine WPc_seq (fun e h => Map_si_nodeDescend.j4 (e 0) (e 3) (e 4) (e 11) (e 12) h K1 Q ∧ [e1 0, e1 3, e1 4, e1 11] = [e 0, e 3, e 4, e 11]) ?_ (fun e h ⟨H, hq1⟩ => ?_)
    rotate_left
    · unfold Map_si_nodeDescend.j4 at H
      refine WPc_seq (fun e h => Map_si_nodeDescend.j5 (e 0) (e 3) (e 4) (e 11) (e 12) h K1 Q ∧ [e1 0, e1 3, e1 4, e1 11] = [e 0, e 3, e 4, e 11]) ?_ (fun e h ⟨H, hq1⟩ => ?_)
      rotate_left
      · unfold Map_si_nodeDescend.j5 at H
        refine W_region (by kernel_rfl) <| nM (e 12) rfl <| nP R_sub H fun t49 H => nS t49 rfl <| vl_e ?_
        exact ⟨H, hq1⟩
      refine WPc_block ?_
      refine WPc_seq (fun e h => Map_si_nodeDescend.j6 (e 0) (e 3) (e 4) (e 11) (e 12) h K1 Q ∧ [e1 0, e1 3, e1 4, e1 11] = [e 0, e 3, e 4, e 11]) ?_ (fun e h ⟨H, hq1⟩ => ?_)
      rotate_left
      · unfold Map_si_nodeDescend.j6 at H
        refine sR <| nM (e 11) rfl <| vl_n <| H_call HB_204 H fun _ h H => nP R_not H fun _ H => vl_e ?_
        refine cI H (fun H => ?_) fun H => ?_
        · refine sR <| nM (e 0) rfl <| nM (e 11) rfl <| nP R_nil H fun _ H => nP (R_fld TF_285_3) H fun _ H => nL T1_283 H fun _ H => nP R_nil H fun _ H => nL T1_290 H fun _ H => nM (e 12) rfl <| nP (R_idx TE_290) H fun _ H => nM (e 3) rfl <| nM (e 4) rfl <| vl_n <| H_call HB_243 H fun _ h H => nP R_not H fun _ H => ?_
          refine vl_e ?_
          refine cI H (fun H => ?_) fun H => ?_
          · exact sR <| nS (.bool false) rfl <| vl_e <| WPc_ret <| resH_of rfl <| H
          · refine WPc_skip ?_
            exact ⟨H, hq1⟩
        · refine WPc_skip ?_
          exact ⟨H, hq1⟩
      refine WPc_seq' <| W_drawn [0, 0, 2, 6, 14, 0, 62, 126, 254, 0, 512, 1536, 3584, 0, 15872, 32256, 65024, 131071, 262143] (.take 0 (.take 1 (.take 2 (.take 3 (.take 4 (.take 5 (.take 6 (.take 7 (.take 8 (.take 9 (.take 10 (.take 11 (.take 12 (.take 13 (.take 14 (.take 15 (.take 16 (.alt 17 (.take 18 .done) .none)))))))))))))))))) mixed (by kernel_rfl) <| pM (e 3) rfl rfl <| pM (e 11) rfl rfl <| pP rfl R_nil H fun _ H => pP rfl (R_fld TF_285_2) H fun _ H => pL rfl T1_282 H fun _ _ _ H => pM (e 12) rfl rfl <| pP rfl (R_idx TE_282) H fun _ H => pP rfl (R_fld TF_223_1) H fun _ H => pL rfl T1_9 H fun _ _ _ H => pM (e 11) rfl rfl <| pP rfl R_nil H fun _ H => pP rfl (R_fld TF_285_2) H fun _ H => ?_
      refine pL rfl T1_282 H fun _ _ _ H => pM (e 12) rfl rfl <| pP rfl (R_idx TE_282) H fun _ H => pP rfl (R_fld TF_223_0) H fun _ H => pL rfl T1_3 H fun _ _ _ H => aE rfl <| H_callV H fun _ h H => ⟨(hskip rfl (hskip rfl (hskip rfl (hskip rfl hnil)))), pP rfl R_not H fun _ H => vp_done ?_⟩
      refine cI H (fun H => ?_) fun H => ?_
      · exact sR <| nS (.bool false) rfl <| vl_e <| WPc_ret <| resH_of rfl <| H
      · refine WPc_skip ?_
        exact ⟨H, hq1⟩
    refine sR <| nM (e1 12) rfl <| nP R_geq H fun _ H => vl_e ?_
    refine cI H (fun H => ?_) fun H => ?_
    · refine WPc_skip ?_
      exact ⟨H, rfl⟩
    · refine WPc_exit ?_
      exact H
  refine sR <| nM t24 rfl <| nP R_not H fun _ H => vl_e ?_
  refine cI H (fun H => ?_) fun H => ?_
  · refine WPc_seq (fun e h => Map_si_nodeDescend.j7 (e 0) (e 3) (e 4) (e 11) (e 12) h Q) ?_ (fun e h H => ?_)
    rotate_left
    · unfold Map_si_nodeDescend.j7 at H
      exact W_region (by kernel_rfl) <| nM (e 12) rfl <| nP R_sub H fun t45 H => nS t45 rfl <| vl_e <| H
    refine sR <| nM t17 rfl <| vl_n <| H_call HB_204 H fun _ h H => nP R_not H fun _ H => vl_e ?_
    refine cI H (fun H => ?_) fun H => ?_
    · refine sR <| nM a0 rfl <| nM t17 rfl <| nP R_nil H fun _ H => nP (R_fld TF_285_3) H fun _ H => nL T1_283 H fun _ H => nP R_nil H fun _ H => nL T1_290 H fun _ H => nM t23 rfl <| nP (R_idx TE_290) H fun _ H => nM a2 rfl <| nM a3 rfl <| nM a4 rfl <| vl_n <| H_call HB_245 H fun _ h H => ?_
      refine nP R_not H fun _ H => vl_e ?_
      refine cI H (fun H => ?_) fun H => ?_
      · exact sR <| nS (.bool false) rfl <| vl_e <| WPc_ret <| resH_of rfl <| H
      · exact WPc_skip <| H
    · exact WPc_skip <| H
  · exact WPc_skip <| H
/-! ### (*pub/tidwallbtree.Map[string, int]).descend -/
def Map_si_descend.j1 (s0 s1 s2 s3 : Value) (h : Heap) (Q : Value → Heap → Prop) : Prop := nilck s0 fun b=>fld 2 b fun d=>Map_si_nodeDescend.call #[s0, d, s1, s2, s3] h fun g h=>Q (.tuple #[]) h
def Map_si_descend.sh (a0 a1 a2 a3 : Value) (h : Heap) (Q : Value → Heap → Prop) : Prop := nilck a0 fun b=>fld 2 b fun d=>load1 d h fun g=>eqNilP g fun i=>ifV i (Q (.tuple #[]) h) (Map_si_descend.j1 a0 a1 a2 a3 h Q)
theorem Map_si_descend.body (a0 a1 a2 a3 : Value) (h : Heap) (Q : Value → Heap → Prop) (H : Map_si_descend.sh a0 a1 a2 a3 h Q) : Map_si_descend.call #[a0, a1, a2, a3] h Q := by
  refine callsH_of (args := [a0, a1, a2, a3]) Try.func239 rfl rfl ?_
  unfold Map_si_descend.sh at H
  refine WPc_seq (fun e h => Map_si_descend.j1 (e 0) (e 1) (e 2) (e 3) h Q) ?_ (fun e h H => ?_)
  rotate_left
  · unfold Map_si_descend.j1 at H
    exact W_region (by kernel_rfl) <| nM (e 0) rfl <| nM (e 0) rfl <| nP R_nil H fun _ H => nP (R_fld TF_225_2) H fun _ H => nM (e 1) rfl <| nM (e 2) rfl <| nM (e 3) rfl <| vl_n <| H_call HB_245 H fun _ h H => vl_e <| resH_of rfl <| H
  refine sR <| nM a0 rfl <| nP R_nil H fun _ H => nP (R_fld TF_225_2) H fun _ H => nL T1_221 H fun _ H => nP (R_eqNilP Try.underlying221 rfl) H fun _ H => vl_e ?_
  refine cI H (fun H => ?_) fun H => ?_
  · exact WPc_ret <| resH_of rfl <| H
  · exact WPc_skip <| H
/-! ### (*pub/tidwallbtree.Map[string, int]).Descend -/
def Map_si_Descend.sh (a0 a1 a2 : Value) (h : Heap) (Q : Value → Heap → Prop) : Prop := Map_si_descend.call #[a0, a1, a2, (.bool false)] h fun b h=>Q (.tuple #[]) h
theorem Map_si_Descend.body (a0 a1 a2 : Value) (h : Heap) (Q : Value → Heap → Prop) (H : Map_si_Descend.sh a0 a1 a2 h Q) : Map_si_Descend.call #[a0, a1, a2] h Q := by
  refine callsH_of (args := [a0, a1, a2]) Try.func217 rfl rfl ?_
  unfold Map_si_Descend.sh at H
  exact W_region (by kernel_rfl) <| nM a0 rfl <| nM a1 rfl <| nM a2 rfl <| vl_n <| H_call HB_239 H fun _ h H => vl_e <| resH_of rfl <| H

end Go.Proofs.Ytdpkpcmoabfofaa
end
section
namespace Go.Proofs.Ytdpkpcmoabfofaa
open Go.Hp
set_option maxRecDepth 100000
set_option maxHeartbeats 8000000
set_option linter.unusedVariables false
set_option linter.unusedSimpArgs false

/-! ### impl.handedWords -/
def i_handedWords.j1 (s5 : Value) (h : Heap) (Q : Value → Heap → Prop) : Prop := load1 s5 h fun b=>Q b h
def i_handedWords.sh (a0 a1 : Value) (h : Heap) (Q : Value → Heap → Prop) : Prop := box 110 a1 h fun b h=>alloc [(.slice none 0 0)] 52 h fun d h=>fld 4 b fun g=>load1 g h fun i=>i_words.call #[d, i] h fun j h=>fld 0 b fun k=>load1 k h fun l=>cmpI (fun a b=>a == b) l (.int .i64 14) fun m=>br m true (fld 5 b fun n=>load1 n h fun o=>ifV o (Map_si_ScanMut.call #[a0, j] h fun p h=>i_handedWords.j1 d h Q) (fld 0 b fun q=>load1 q h fun u=>cmpI (fun a b=>a == b) u (.int .i64 14) fun v=>ifV v (Map_si_Scan.call #[a0, j] h fun w h=>i_handedWords.j1 d h Q) (fld 0 b fun x=>load1 x h fun y=>cmpI (fun a b=>a == b) y (.int .i64 15) fun z=>br z true (fld 5 b fun b0=>load1 b0 h fun b1=>ifV b1 (Map_si_ReverseMut.call #[a0, j] h fun b2 h=>i_handedWords.j1 d h Q) (fld 0 b fun b3=>load1 b3 h fun b4=>cmpI (fun a b=>a == b) b4 (.int .i64 15) fun b5=>ifV b5 (Map_si_Reverse.call #[a0, j] h fun b6 h=>i_handedWords.j1 d h Q) (fld 0 b fun b7=>load1 b7 h fun b8=>cmpI (fun a b=>a == b) b8 (.int .i64 16) fun b9=>br b9 true (fld 5 b fun d0=>load1 d0 h fun d1=>ifV d1 (fld 2 b fun d2=>fld 0 d2 fun d3=>load1 d3 h fun d4=>Map_si_AscendMut.call #[a0, d4, j] h fun d5 h=>i_handedWords.j1 d h Q) (fld 0 b fun d6=>load1 d6 h fun d7=>cmpI (fun a b=>a == b) d7 (.int .i64 16) fun d8=>ifV d8 (fld 2 b fun d9=>fld 0 d9 fun g0=>load1 g0 h fun g1=>Map_si_Ascend.call #[a0, g1, j] h fun g2 h=>i_handedWords.j1 d h Q) (fld 0 b fun g3=>load1 g3 h fun g4=>cmpI (fun a b=>a == b) g4 (.int .i64 17) fun g5=>br g5 true (fld 5 b fun g6=>load1 g6 h fun g7=>ifV g7 (fld 2 b fun g8=>fld 0 g8 fun g9=>load1 g9 h fun i0=>Map_si_DescendMut.call #[a0, i0, j] h fun i1 h=>i_handedWords.j1 d h Q) (fld 0 b fun i2=>load1 i2 h fun i3=>cmpI (fun a b=>a == b) i3 (.int .i64 17) fun i4=>ifV i4 (fld 2 b fun i5=>fld 0 i5 fun i6=>load1 i6 h fun i7=>Map_si_Descend.call #[a0, i7, j] h fun i8 h=>i_handedWords.j1 d h Q) (i_handedWords.j1 d h Q))) (fld 0 b fun i9=>load1 i9 h fun j0=>cmpI (fun a b=>a == b) j0 (.int .i64 17) fun j1=>ifV j1 (fld 2 b fun j2=>fld 0 j2 fun j3=>load1 j3 h fun j4=>Map_si_Descend.call #[a0, j4, j] h fun j5 h=>i_handedWords.j1 d h Q) (i_handedWords.j1 d h Q))))) (fld 0 b fun j6=>load1 j6 h fun j7=>cmpI (fun a b=>a == b) j7 (.int .i64 16) fun j8=>ifV j8 (fld 2 b fun j9=>fld 0 j9 fun k0=>load1 k0 h fun k1=>Map_si_Ascend.call #[a0, k1, j] h fun k2 h=>i_handedWords.j1 d h Q) (fld 0 b fun k3=>load1 k3 h fun k4=>cmpI (fun a b=>a == b) k4 (.int .i64 17) fun k5=>br k5 true (fld 5 b fun k6=>load1 k6 h fun k7=>ifV k7 (fld 2 b fun k8=>fld 0 k8 fun k9=>load1 k9 h fun l0=>Map_si_DescendMut.call #[a0, l0, j] h fun l1 h=>i_handedWords.j1 d h Q) (fld 0 b fun l2=>load1 l2 h fun l3=>cmpI (fun a b=>a == b) l3 (.int .i64 17) fun l4=>ifV l4 (fld 2 b fun l5=>fld 0 l5 fun l6=>load1 l6 h fun l7=>Map_si_Descend.call #[a0, l7, j] h fun l8 h=>i_handedWords.j1 d h Q) (i_handedWords.j1 d h Q))) (fld 0 b fun l9=>load1 l9 h fun m0=>cmpI (fun a b=>a == b) m0 (.int .i64 17) fun m1=>ifV m1 (fld 2 b fun m2=>fld 0 m2 fun m3=>load1 m3 h fun m4=>Map_si_Descend.call #[a0, m4, j] h fun m5 h=>i_handedWords.j1 d h Q) (i_handedWords.j1 d h Q))))))) (fld 0 b fun m6=>load1 m6 h fun m7=>cmpI (fun a b=>a == b) m7 (.int .i64 15) fun m8=>ifV m8 (Map_si_Reverse.call #[a0, j] h fun m9 h=>i_handedWords.j1 d h Q) (fld 0 b fun n0=>load1 n0 h fun n1=>cmpI (fun a b=>a == b) n1 (.int .i64 16) fun n2=>br n2 true (fld 5 b fun n3=>load1 n3 h fun n4=>ifV n4 (fld 2 b fun n5=>fld 0 n5 fun n6=>load1 n6 h fun n7=>Map_si_AscendMut.call #[a0, n7, j] h fun n8 h=>i_handedWords.j1 d h Q) (fld 0 b fun n9=>load1 n9 h fun o0=>cmpI (fun a b=>a == b) o0 (.int .i64 16) fun o1=>ifV o1 (fld 2 b fun o2=>fld 0 o2 fun o3=>load1 o3 h fun o4=>Map_si_Ascend.call #[a0, o4, j] h fun o5 h=>i_handedWords.j1 d h Q) (fld 0 b fun o6=>load1 o6 h fun o7=>cmpI (fun a b=>a == b) o7 (.int .i64 17) fun o8=>br o8 true (fld 5 b fun o9=>load1 o9 h fun p0=>ifV p0 (fld 2 b fun p1=>fld 0 p1 fun p2=>load1 p2 h fun p3=>Map_si_DescendMut.call #[a0, p3, j] h fun p4 h=>i_handedWords.j1 d h Q) (fld 0 b fun p5=>load1 p5 h fun p6=>cmpI (fun a b=>a == b) p6 (.int .i64 17) fun p7=>ifV p7 (fld 2 b fun p8=>fld 0 p8 fun p9=>load1 p9 h fun q0=>Map_si_Descend.call #[a0, q0, j] h fun q1 h=>i_handedWords.j1 d h Q) (i_handedWords.j1 d h Q))) (fld 0 b fun q2=>load1 q2 h fun q3=>cmpI (fun a b=>a == b) q3 (.int .i64 17) fun q4=>ifV q4 (fld 2 b fun q5=>fld 0 q5 fun q6=>load1 q6 h fun q7=>Map_si_Descend.call #[a0, q7, j] h fun q8 h=>i_handedWords.j1 d h Q) (i_handedWords.j1 d h Q))))) (fld 0 b fun q9=>load1 q9 h fun u0=>cmpI (fun a b=>a == b) u0 (.int .i64 16) fun u1=>ifV u1 (fld 2 b fun u2=>fld 0 u2 fun u3=>load1 u3 h fun u4=>Map_si_Ascend.call #[a0, u4, j] h fun u5 h=>i_handedWords.j1 d h Q) (fld 0 b fun u6=>load1 u6 h fun u7=>cmpI (fun a b=>a == b) u7 (.int .i64 17) fun u8=>br u8 true (fld 5 b fun u9=>load1 u9 h fun v0=>ifV v0 (fld 2 b fun v1=>fld 0 v1 fun v2=>load1 v2 h fun v3=>Map_si_DescendMut.call #[a0, v3, j] h fun v4 h=>i_handedWords.j1 d h Q) (fld 0 b fun v5=>load1 v5 h fun v6=>cmpI (fun a b=>a == b) v6 (.int .i64 17) fun v7=>ifV v7 (fld 2 b fun v8=>fld 0 v8 fun v9=>load1 v9 h fun w0=>Map_si_Descend.call #[a0, w0, j] h fun w1 h=>i_handedWords.j1 d h Q) (i_handedWords.j1 d h Q))) (fld 0 b fun w2=>load1 w2 h fun w3=>cmpI (fun a b=>a == b) w3 (.int .i64 17) fun w4=>ifV w4 (fld 2 b fun w5=>fld 0 w5 fun w6=>load1 w6 h fun w7=>Map_si_Descend.call #[a0, w7, j] h fun w8 h=>i_handedWords.j1 d h Q) (i_handedWords.j1 d h Q))))))))) (fld 0 b fun w9=>load1 w9 h fun x0=>cmpI (fun a b=>a == b) x0 (.int .i64 14) fun x1=>ifV x1 (Map_si_Scan.call #[a0, j] h fun x2 h=>i_handedWords.j1 d h Q) (fld 0 b fun x3=>load1 x3 h fun x4=>cmpI (fun a b=>a == b) x4 (.int .i64 15) fun x5=>br x5 true (fld 5 b fun x6=>load1 x6 h fun x7=>ifV x7 (Map_si_ReverseMut.call #[a0, j] h fun x8 h=>i_handedWords.j1 d h Q) (fld 0 b fun x9=>load1 x9 h fun y0=>cmpI (fun a b=>a == b) y0 (.int .i64 15) fun y1=>ifV y1 (Map_si_Reverse.call #[a0, j] h fun y2 h=>i_handedWords.j1 d h Q) (fld 0 b fun y3=>load1 y3 h fun y4=>cmpI (fun a b=>a == b) y4 (.int .i64 16) fun y5=>br y5 true (fld 5 b fun y6=>load1 y6 h fun y7=>ifV y7 (fld 2 b fun y8=>fld 0 y8 fun y9=>load1 y9 h fun z0=>Map_si_AscendMut.call #[a0, z0, j] h fun z1 h=>i_handedWords.j1 d h Q) (fld 0 b fun z2=>load1 z2 h fun z3=>cmpI (fun a b=>a == b) z3 (.int .i64 16) fun z4=>ifV z4 (fld 2 b fun z5=>fld 0 z5 fun z6=>load1 z6 h fun z7=>Map_si_Ascend.call #[a0, z7, j] h fun z8 h=>i_handedWords.j1 d h Q) (fld 0 b fun z9=>load1 z9 h fun b0_0=>cmpI (fun a b=>a == b) b0_0 (.int .i64 17) fun b1_0=>br b1_0 true (fld 5 b fun b2_0=>load1 b2_0 h fun b3_0=>ifV b3_0 (fld 2 b fun b4_0=>fld 0 b4_0 fun b5_0=>load1 b5_0 h fun b6_0=>Map_si_DescendMut.call #[a0, b6_0, j] h fun b7_0 h=>i_handedWords.j1 d h Q) (fld 0 b fun b8_0=>load1 b8_0 h fun b9_0=>cmpI (fun a b=>a == b) b9_0 (.int .i64 17) fun d0_0=>ifV d0_0 (fld 2 b fun d1_0=>fld 0 d1_0 fun d2_0=>load1 d2_0 h fun d3_0=>Map_si_Descend.call #[a0, d3_0, j] h fun d4_0 h=>i_handedWords.j1 d h Q) (i_handedWords.j1 d h Q))) (fld 0 b fun d5_0=>load1 d5_0 h fun d6_0=>cmpI (fun a b=>a == b) d6_0 (.int .i64 17) fun d7_0=>ifV d7_0 (fld 2 b fun d8_0=>fld 0 d8_0 fun d9_0=>load1 d9_0 h fun g0_0=>Map_si_Descend.call #[a0, g0_0, j] h fun g1_0 h=>i_handedWords.j1 d h Q) (i_handedWords.j1 d h Q))))) (fld 0 b fun g2_0=>load1 g2_0 h fun g3_0=>cmpI (fun a b=>a == b) g3_0 (.int .i64 16) fun g4_0=>ifV g4_0 (fld 2 b fun g5_0=>fld 0 g5_0 fun g6_0=>load1 g6_0 h fun g7_0=>Map_si_Ascend.call #[a0, g7_0, j] h fun g8_0 h=>i_handedWords.j1 d h Q) (fld 0 b fun g9_0=>load1 g9_0 h fun i0_0=>cmpI (fun a b=>a == b) i0_0 (.int .i64 17) fun i1_0=>br i1_0 true (fld 5 b fun i2_0=>load1 i2_0 h fun i3_0=>ifV i3_0 (fld 2 b fun i4_0=>fld 0 i4_0 fun i5_0=>load1 i5_0 h fun i6_0=>Map_si_DescendMut.call #[a0, i6_0, j] h fun i7_0 h=>i_handedWords.j1 d h Q) (fld 0 b fun i8_0=>load1 i8_0 h fun i9_0=>cmpI (fun a b=>a == b) i9_0 (.int .i64 17) fun j0_0=>ifV j0_0 (fld 2 b fun j1_0=>fld 0 j1_0 fun j2_0=>load1 j2_0 h fun j3_0=>Map_si_Descend.call #[a0, j3_0, j] h fun j4_0 h=>i_handedWords.j1 d h Q) (i_handedWords.j1 d h Q))) (fld 0 b fun j5_0=>load1 j5_0 h fun j6_0=>cmpI (fun a b=>a == b) j6_0 (.int .i64 17) fun j7_0=>ifV j7_0 (fld 2 b fun j8_0=>fld 0 j8_0 fun j9_0=>load1 j9_0 h fun k0_0=>Map_si_Descend.call #[a0, k0_0, j] h fun k1_0 h=>i_handedWords.j1 d h Q) (i_handedWords.j1 d h Q))))))) (fld 0 b fun k2_0=>load1 k2_0 h fun k3_0=>cmpI (fun a b=>a == b) k3_0 (.int .i64 15) fun k4_0=>ifV k4_0 (Map_si_Reverse.call #[a0, j] h fun k5_0 h=>i_handedWords.j1 d h Q) (fld 0 b fun k6_0=>load1 k6_0 h fun k7_0=>cmpI (fun a b=>a == b) k7_0 (.int .i64 16) fun k8_0=>br k8_0 true (fld 5 b fun k9_0=>load1 k9_0 h fun l0_0=>ifV l0_0 (fld 2 b fun l1_0=>fld 0 l1_0 fun l2_0=>load1 l2_0 h fun l3_0=>Map_si_AscendMut.call #[a0, l3_0, j] h fun l4_0 h=>i_handedWords.j1 d h Q) (fld 0 b fun l5_0=>load1 l5_0 h fun l6_0=>cmpI (fun a b=>a == b) l6_0 (.int .i64 16) fun l7_0=>ifV l7_0 (fld 2 b fun l8_0=>fld 0 l8_0 fun l9_0=>load1 l9_0 h fun m0_0=>Map_si_Ascend.call #[a0, m0_0, j] h fun m1_0 h=>i_handedWords.j1 d h Q) (fld 0 b fun m2_0=>load1 m2_0 h fun m3_0=>cmpI (fun a b=>a == b) m3_0 (.int .i64 17) fun m4_0=>br m4_0 true (fld 5 b fun m5_0=>load1 m5_0 h fun m6_0=>ifV m6_0 (fld 2 b fun m7_0=>fld 0 m7_0 fun m8_0=>load1 m8_0 h fun m9_0=>Map_si_DescendMut.call #[a0, m9_0, j] h fun n0_0 h=>i_handedWords.j1 d h Q) (fld 0 b fun n1_0=>load1 n1_0 h fun n2_0=>cmpI (fun a b=>a == b) n2_0 (.int .i64 17) fun n3_0=>ifV n3_0 (fld 2 b fun n4_0=>fld 0 n4_0 fun n5_0=>load1 n5_0 h fun n6_0=>Map_si_Descend.call #[a0, n6_0, j] h fun n7_0 h=>i_handedWords.j1 d h Q) (i_handedWords.j1 d h Q))) (fld 0 b fun n8_0=>load1 n8_0 h fun n9_0=>cmpI (fun a b=>a == b) n9_0 (.int .i64 17) fun o0_0=>ifV o0_0 (fld 2 b fun o1_0=>fld 0 o1_0 fun o2_0=>load1 o2_0 h fun o3_0=>Map_si_Descend.call #[a0, o3_0, j] h fun o4_0 h=>i_handedWords.j1 d h Q) (i_handedWords.j1 d h Q))))) (fld 0 b fun o5_0=>load1 o5_0 h fun o6_0=>cmpI (fun a b=>a == b) o6_0 (.int .i64 16) fun o7_0=>ifV o7_0 (fld 2 b fun o8_0=>fld 0 o8_0 fun o9_0=>load1 o9_0 h fun p0_0=>Map_si_Ascend.call #[a0, p0_0, j] h fun p1_0 h=>i_handedWords.j1 d h Q) (fld 0 b fun p2_0=>load1 p2_0 h fun p3_0=>cmpI (fun a b=>a == b) p3_0 (.int .i64 17) fun p4_0=>br p4_0 true (fld 5 b fun p5_0=>load1 p5_0 h fun p6_0=>ifV p6_0 (fld 2 b fun p7_0=>fld 0 p7_0 fun p8_0=>load1 p8_0 h fun p9_0=>Map_si_DescendMut.call #[a0, p9_0, j] h fun q0_0 h=>i_handedWords.j1 d h Q) (fld 0 b fun q1_0=>load1 q1_0 h fun q2_0=>cmpI (fun a b=>a == b) q2_0 (.int .i64 17) fun q3_0=>ifV q3_0 (fld 2 b fun q4_0=>fld 0 q4_0 fun q5_0=>load1 q5_0 h fun q6_0=>Map_si_Descend.call #[a0, q6_0, j] h fun q7_0 h=>i_handedWords.j1 d h Q) (i_handedWords.j1 d h Q))) (fld 0 b fun q8_0=>load1 q8_0 h fun q9_0=>cmpI (fun a b=>a == b) q9_0 (.int .i64 17) fun u0_0=>ifV u0_0 (fld 2 b fun u1_0=>fld 0 u1_0 fun u2_0=>load1 u2_0 h fun u3_0=>Map_si_Descend.call #[a0, u3_0, j] h fun u4_0 h=>i_handedWords.j1 d h Q) (i_handedWords.j1 d h Q))))))))
theorem i_handedWords.body (a0 a1 : Value) (h : Heap) (Q : Value → Heap → Prop) (H : i_handedWords.sh a0 a1 h Q) : i_handedWords.call #[a0, a1] h Q := by
  refine callsH_of (args := [a0, a1]) Try.func175 rfl rfl ?_
  unfold i_handedWords.sh at H
  refine sR <| vl_n <| H_box H fun _ h H => nS (.slice none 0 0) rfl <| vl_e <| sR <| vl_n <| H_alloc TV_52 H fun _ h H => vl_e <| sR <| nP (R_fld TF_110_3) H fun _ H => nL T1_3 H fun _ H => vl_n <| H_call HB_178 H fun t9 h H => nS t9 rfl <| vl_e ?_
  refine WPc_seq (fun e h => i_handedWords.j1 (e 5) h Q) ?_ (fun e h H => ?_)
  rotate_left
  · unfold i_handedWords.j1 at H
    exact sR <| nL T1_52 H fun t94 H => nS t94 rfl <| vl_e <| WPc_ret <| resH_of rfl <| H
  refine WPc_block <| sR <| nP (R_fld TF_110_0) H fun _ H => nL T1_3 H fun _ H => nP R_eqI H fun t13 H => nM t13 rfl ?_
  obtain ⟨b, hb, H1, H2⟩ := H
  cases b
  · have H := H2 rfl
    clear H1 H2
    refine vl_s rfl (nbT hb) ?_
    refine vl_s rfl (nbT hb) ?_
    refine nA (R_pickC (v := (.bool false)) false hb rfl) <| nS (.bool false) rfl <| vl_e ?_
    refine WPc_cond (t := false) rfl (fun hh => by cases hh) (fun _ => ?_)
    refine sR <| nP (R_fld TF_110_0) H fun _ H => nL T1_3 H fun _ H => nP R_eqI H fun t24 H => nS t24 rfl <| vl_e ?_
    refine cI H (fun H => ?_) fun H => ?_
    · exact W_region (by kernel_rfl) <| nM a0 rfl <| nM t9 rfl <| vl_n <| H_call HB_177 H fun _ h H => vl_e <| H
    · refine sR <| nP (R_fld TF_110_0) H fun _ H => nL T1_3 H fun _ H => nP R_eqI H fun t31 H => nM t31 rfl ?_
      obtain ⟨b_3, hb_2, H1, H2⟩ := H
      cases b_3
      · have H := H2 rfl
        clear H1 H2
        refine vl_s rfl (nbT hb_2) ?_
        refine vl_s rfl (nbT hb_2) ?_
        refine nA (R_pickC (v := (.bool false)) false hb_2 rfl) <| nS (.bool false) rfl <| vl_e ?_
        refine WPc_cond (t := false) rfl (fun hh => by cases hh) (fun _ => ?_)
        refine sR <| nP (R_fld TF_110_0) H fun _ H => nL T1_3 H fun _ H => nP R_eqI H fun t42 H => nS t42 rfl <| vl_e ?_
        refine cI H (fun H => ?_) fun H => ?_
        · exact W_region (by kernel_rfl) <| nM a0 rfl <| nM t9 rfl <| vl_n <| H_call HB_213 H fun _ h H => vl_e <| H
        · refine sR <| nP (R_fld TF_110_0) H fun _ H => nL T1_3 H fun _ H => nP R_eqI H fun t49 H => nM t49 rfl ?_
          obtain ⟨b_5, hb_3, H1, H2⟩ := H
          cases b_5
          · have H := H2 rfl
            clear H1 H2
            refine vl_s rfl (nbT hb_3) ?_
            refine vl_s rfl (nbT hb_3) ?_
            refine nA (R_pickC (v := (.bool false)) false hb_3 rfl) <| nS (.bool false) rfl <| vl_e ?_
            refine WPc_cond (t := false) rfl (fun hh => by cases hh) (fun _ => ?_)
            refine sR <| nP (R_fld TF_110_0) H fun _ H => nL T1_3 H fun _ H => nP R_eqI H fun t63 H => nS t63 rfl <| vl_e ?_
            refine cI H (fun H => ?_) fun H => ?_
            · exact W_region (by kernel_rfl) <| nM a0 rfl <| nP (R_fld TF_110_2) H fun _ H => nP (R_fld TF_105_0) H fun _ H => nL T1_9 H fun _ H => nM t9 rfl <| vl_n <| H_call HB_215 H fun _ h H => vl_e <| H
            · refine sR <| nP (R_fld TF_110_0) H fun _ H => nL T1_3 H fun _ H => nP R_eqI H fun t73 H => nM t73 rfl ?_
              obtain ⟨b_7, hb_4, H1, H2⟩ := H
              cases b_7
              · have H := H2 rfl
                clear H1 H2
                refine vl_s rfl (nbT hb_4) ?_
                refine vl_s rfl (nbT hb_4) ?_
                refine nA (R_pickC (v := (.bool false)) false hb_4 rfl) <| nS (.bool false) rfl <| vl_e ?_
                refine WPc_cond (t := false) rfl (fun hh => by cases hh) (fun _ => ?_)
                refine sR <| nP (R_fld TF_110_0) H fun _ H => nL T1_3 H fun _ H => nP R_eqI H fun t87 H => nS t87 rfl <| vl_e ?_
                refine cI H (fun H => ?_) fun H => ?_
                · exact W_region (by kernel_rfl) <| nM a0 rfl <| nP (R_fld TF_110_2) H fun _ H => nP (R_fld TF_105_0) H fun _ H => nL T1_9 H fun _ H => nM t9 rfl <| vl_n <| H_call HB_217 H fun _ h H => vl_e <| H
                · exact WPc_skip <| H
              · have H := H1 rfl
                clear H1 H2
                refine vl_y rfl hb_4 ?_
                refine H_of_R (R_fld TF_110_4 H fun _ H => ?_)
                refine vl_y rfl hb_4 ?_
                refine H_of_R (R_load1 T1_4 H fun _ t76 _ _ H => ?_)
                refine nA (R_pickC (v := t76) true hb_4 rfl) <| nS t76 rfl <| vl_e ?_
                refine cI H (fun H => ?_) fun H => ?_
                · exact W_region (by kernel_rfl) <| nM a0 rfl <| nP (R_fld TF_110_2) H fun _ H => nP (R_fld TF_105_0) H fun _ H => nL T1_9 H fun _ H => nM t9 rfl <| vl_n <| H_call HB_216 H fun _ h H => vl_e <| H
                · refine sR <| nP (R_fld TF_110_0) H fun _ H => nL T1_3 H fun _ H => nP R_eqI H fun t87_2 H => nS t87_2 rfl <| vl_e ?_
                  refine cI H (fun H => ?_) fun H => ?_
                  · exact W_region (by kernel_rfl) <| nM a0 rfl <| nP (R_fld TF_110_2) H fun _ H => nP (R_fld TF_105_0) H fun _ H => nL T1_9 H fun _ H => nM t9 rfl <| vl_n <| H_call HB_217 H fun _ h H => vl_e <| H
                  · exact WPc_skip <| H
          · have H := H1 rfl
            clear H1 H2
            refine vl_y rfl hb_3 ?_
            refine H_of_R (R_fld TF_110_4 H fun _ H => ?_)
            refine vl_y rfl hb_3 ?_
            refine H_of_R (R_load1 T1_4 H fun _ t52 _ _ H => ?_)
            refine nA (R_pickC (v := t52) true hb_3 rfl) <| nS t52 rfl <| vl_e ?_
            refine cI H (fun H => ?_) fun H => ?_
            · exact W_region (by kernel_rfl) <| nM a0 rfl <| nP (R_fld TF_110_2) H fun _ H => nP (R_fld TF_105_0) H fun _ H => nL T1_9 H fun _ H => nM t9 rfl <| vl_n <| H_call HB_214 H fun _ h H => vl_e <| H
            · refine sR <| nP (R_fld TF_110_0) H fun _ H => nL T1_3 H fun _ H => nP R_eqI H fun t63_2 H => nS t63_2 rfl <| vl_e ?_
              refine cI H (fun H => ?_) fun H => ?_
              · exact W_region (by kernel_rfl) <| nM a0 rfl <| nP (R_fld TF_110_2) H fun _ H => nP (R_fld TF_105_0) H fun _ H => nL T1_9 H fun _ H => nM t9 rfl <| vl_n <| H_call HB_215 H fun _ h H => vl_e <| H
              · refine sR <| nP (R_fld TF_110_0) H fun _ H => nL T1_3 H fun _ H => nP R_eqI H fun t73_2 H => nM t73_2 rfl ?_
                obtain ⟨b_13, hb_5, H1, H2⟩ := H
                cases b_13
                · have H := H2 rfl
                  clear H1 H2
                  refine vl_s rfl (nbT hb_5) ?_
                  refine vl_s rfl (nbT hb_5) ?_
                  refine nA (R_pickC (v := (.bool false)) false hb_5 rfl) <| nS (.bool false) rfl <| vl_e ?_
                  refine WPc_cond (t := false) rfl (fun hh => by cases hh) (fun _ => ?_)
                  refine sR <| nP (R_fld TF_110_0) H fun _ H => nL T1_3 H fun _ H => nP R_eqI H fun t87_3 H => nS t87_3 rfl <| vl_e ?_
                  refine cI H (fun H => ?_) fun H => ?_
                  · exact W_region (by kernel_rfl) <| nM a0 rfl <| nP (R_fld TF_110_2) H fun _ H => nP (R_fld TF_105_0) H fun _ H => nL T1_9 H fun _ H => nM t9 rfl <| vl_n <| H_call HB_217 H fun _ h H => vl_e <| H
                  · exact WPc_skip <| H
                · have H := H1 rfl
                  clear H1 H2
                  refine vl_y rfl hb_5 ?_
                  refine H_of_R (R_fld TF_110_4 H fun _ H => ?_)
                  refine vl_y rfl hb_5 ?_
                  refine H_of_R (R_load1 T1_4 H fun _ t76_2 _ _ H => ?_)
                  refine nA (R_pickC (v := t76_2) true hb_5 rfl) <| nS t76_2 rfl <| vl_e ?_
                  refine cI H (fun H => ?_) fun H => ?_
                  · exact W_region (by kernel_rfl) <| nM a0 rfl <| nP (R_fld TF_110_2) H fun _ H => nP (R_fld TF_105_0) H fun _ H => nL T1_9 H fun _ H => nM t9 rfl <| vl_n <| H_call HB_216 H fun _ h H => vl_e <| H
                  · refine sR <| nP (R_fld TF_110_0) H fun _ H => nL T1_3 H fun _ H => nP R_eqI H fun t87_4 H => nS t87_4 rfl <| vl_e ?_
                    refine cI H (fun H => ?_) fun H => ?_
                    · exact W_region (by kernel_rfl) <| nM a0 rfl <| nP (R_fld TF_110_2) H fun _ H => nP (R_fld TF_105_0) H fun _ H => nL T1_9 H fun _ H => nM t9 rfl <| vl_n <| H_call HB_217 H fun _ h H => vl_e <| H
                    · exact WPc_skip <| H
      · have H := H1 rfl
        clear H1 H2
        refine vl_y rfl hb_2 ?_
        refine H_of_R (R_fld TF_110_4 H fun _ H => ?_)
        refine vl_y rfl hb_2 ?_
        refine H_of_R (R_load1 T1_4 H fun _ t34 _ _ H => ?_)
        refine nA (R_pickC (v := t34) true hb_2 rfl) <| nS t34 rfl <| vl_e ?_
        refine cI H (fun H => ?_) fun H => ?_
        · exact W_region (by kernel_rfl) <| nM a0 rfl <| nM t9 rfl <| vl_n <| H_call HB_212 H fun _ h H => vl_e <| H
        · refine sR <| nP (R_fld TF_110_0) H fun _ H => nL T1_3 H fun _ H => nP R_eqI H fun t42_2 H => nS t42_2 rfl <| vl_e ?_
          refine cI H (fun H => ?_) fun H => ?_
          · exact W_region (by kernel_rfl) <| nM a0 rfl <| nM t9 rfl <| vl_n <| H_call HB_213 H fun _ h H => vl_e <| H
          · refine sR <| nP (R_fld TF_110_0) H fun _ H => nL T1_3 H fun _ H => nP R_eqI H fun t49_2 H => nM t49_2 rfl ?_
            obtain ⟨b_19, hb_6, H1, H2⟩ := H
            cases b_19
            · have H := H2 rfl
              clear H1 H2
              refine vl_s rfl (nbT hb_6) ?_
              refine vl_s rfl (nbT hb_6) ?_
              refine nA (R_pickC (v := (.bool false)) false hb_6 rfl) <| nS (.bool false) rfl <| vl_e ?_
              refine WPc_cond (t := false) rfl (fun hh => by cases hh) (fun _ => ?_)
              refine sR <| nP (R_fld TF_110_0) H fun _ H => nL T1_3 H fun _ H => nP R_eqI H fun t63_3 H => nS t63_3 rfl <| vl_e ?_
              refine cI H (fun H => ?_) fun H => ?_
              · exact W_region (by kernel_rfl) <| nM a0 rfl <| nP (R_fld TF_110_2) H fun _ H => nP (R_fld TF_105_0) H fun _ H => nL T1_9 H fun _ H => nM t9 rfl <| vl_n <| H_call HB_215 H fun _ h H => vl_e <| H
              · refine sR <| nP (R_fld TF_110_0) H fun _ H => nL T1_3 H fun _ H => nP R_eqI H fun t73_3 H => nM t73_3 rfl ?_
                obtain ⟨b_21, hb_7, H1, H2⟩ := H
                cases b_21
                · have H := H2 rfl
                  clear H1 H2
                  refine vl_s rfl (nbT hb_7) ?_
                  refine vl_s rfl (nbT hb_7) ?_
                  refine nA (R_pickC (v := (.bool false)) false hb_7 rfl) <| nS (.bool false) rfl <| vl_e ?_
                  refine WPc_cond (t := false) rfl (fun hh => by cases hh) (fun _ => ?_)
                  refine sR <| nP (R_fld TF_110_0) H fun _ H => nL T1_3 H fun _ H => nP R_eqI H fun t87_5 H => nS t87_5 rfl <| vl_e ?_
                  refine cI H (fun H => ?_) fun H => ?_
                  · exact W_region (by kernel_rfl) <| nM a0 rfl <| nP (R_fld TF_110_2) H fun _ H => nP (R_fld TF_105_0) H fun _ H => nL T1_9 H fun _ H => nM t9 rfl <| vl_n <| H_call HB_217 H fun _ h H => vl_e <| H
                  · exact WPc_skip <| H
                · have H := H1 rfl
                  clear H1 H2
                  refine vl_y rfl hb_7 ?_
                  refine H_of_R (R_fld TF_110_4 H fun _ H => ?_)
                  refine vl_y rfl hb_7 ?_
                  refine H_of_R (R_load1 T1_4 H fun _ t76_3 _ _ H => ?_)
                  refine nA (R_pickC (v := t76_3) true hb_7 rfl) <| nS t76_3 rfl <| vl_e ?_
                  refine cI H (fun H => ?_) fun H => ?_
                  · exact W_region (by kernel_rfl) <| nM a0 rfl <| nP (R_fld TF_110_2) H fun _ H => nP (R_fld TF_105_0) H fun _ H => nL T1_9 H fun _ H => nM t9 rfl <| vl_n <| H_call HB_216 H fun _ h H => vl_e <| H
                  · refine sR <| nP (R_fld TF_110_0) H fun _ H => nL T1_3 H fun _ H => nP R_eqI H fun t87_6 H => nS t87_6 rfl <| vl_e ?_
                    refine cI H (fun H => ?_) fun H => ?_
                    · exact W_region (by kernel_rfl) <| nM a0 rfl <| nP (R_fld TF_110_2) H fun _ H => nP (R_fld TF_105_0) H fun _ H => nL T1_9 H fun _ H => nM t9 rfl <| vl_n <| H_call HB_217 H fun _ h H => vl_e <| H
                    · exact WPc_skip <| H
            · have H := H1 rfl
              clear H1 H2
              refine vl_y rfl hb_6 ?_
              refine H_of_R (R_fld TF_110_4 H fun _ H => ?_)
              refine vl_y rfl hb_6 ?_
              refine H_of_R (R_load1 T1_4 H fun _ t52_2 _ _ H => ?_)
              refine nA (R_pickC (v := t52_2) true hb_6 rfl) <| nS t52_2 rfl <| vl_e ?_
              refine cI H (fun H => ?_) fun H => ?_
              · exact W_region (by kernel_rfl) <| nM a0 rfl <| nP (R_fld TF_110_2) H fun _ H => nP (R_fld TF_105_0) H fun _ H => nL T1_9 H fun _ H => nM t9 rfl <| vl_n <| H_call HB_214 H fun _ h H => vl_e <| H
              · refine sR <| nP (R_fld TF_110_0) H fun _ H => nL T1_3 H fun _ H => nP R_eqI H fun t63_4 H => nS t63_4 rfl <| vl_e ?_
                refine cI H (fun H => ?_) fun H => ?_
                · exact W_region (by kernel_rfl) <| nM a0 rfl <| nP (R_fld TF_110_2) H fun _ H => nP (R_fld TF_105_0) H fun _ H => nL T1_9 H fun _ H => nM t9 rfl <| vl_n <| H_call HB_215 H fun _ h H => vl_e <| H
                · refine sR <| nP (R_fld TF_110_0) H fun _ H => nL T1_3 H fun _ H => nP R_eqI H fun t73_4 H => nM t73_4 rfl ?_
                  obtain ⟨b_27, hb_8, H1, H2⟩ := H
                  cases b_27
                  · have H := H2 rfl
                    clear H1 H2
                    refine vl_s rfl (nbT hb_8) ?_
                    refine vl_s rfl (nbT hb_8) ?_
                    refine nA (R_pickC (v := (.bool false)) false hb_8 rfl) <| nS (.bool false) rfl <| vl_e ?_
                    refine WPc_cond (t := false) rfl (fun hh => by cases hh) (fun _ => ?_)
                    refine sR <| nP (R_fld TF_110_0) H fun _ H => nL T1_3 H fun _ H => nP R_eqI H fun t87_7 H => nS t87_7 rfl <| vl_e ?_
                    refine cI H (fun H => ?_) fun H => ?_
                    · exact W_region (by kernel_rfl) <| nM a0 rfl <| nP (R_fld TF_110_2) H fun _ H => nP (R_fld TF_105_0) H fun _ H => nL T1_9 H fun _ H => nM t9 rfl <| vl_n <| H_call HB_217 H fun _ h H => vl_e <| H
                    · exact WPc_skip <| H
                  · have H := H1 rfl
                    clear H1 H2
                    refine vl_y rfl hb_8 ?_
                    refine H_of_R (R_fld TF_110_4 H fun _ H => ?_)
                    refine vl_y rfl hb_8 ?_
                    refine H_of_R (R_load1 T1_4 H fun _ t76_4 _ _ H => ?_)
                    refine nA (R_pickC (v := t76_4) true hb_8 rfl) <| nS t76_4 rfl <| vl_e ?_
                    refine cI H (fun H => ?_) fun H => ?_
                    · exact W_region (by kernel_rfl) <| nM a0 rfl <| nP (R_fld TF_110_2) H fun _ H => nP (R_fld TF_105_0) H fun _ H => nL T1_9 H fun _ H => nM t9 rfl <| vl_n <| H_call HB_216 H fun _ h H => vl_e <| H
                    · refine sR <| nP (R_fld TF_110_0) H fun _ H => nL T1_3 H fun _ H => nP R_eqI H fun t87_8 H => nS t87_8 rfl <| vl_e ?_
                      refine cI H (fun H => ?_) fun H => ?_
                      · exact W_region (by kernel_rfl) <| nM a0 rfl <| nP (R_fld TF_110_2) H fun _ H => nP (R_fld TF_105_0) H fun _ H => nL T1_9 H fun _ H => nM t9 rfl <| vl_n <| H_call HB_217 H fun _ h H => vl_e <| H
                      · exact WPc_skip <| H
  · have H := H1 rfl
    clear H1 H2
    refine vl_y rfl hb ?_
    refine H_of_R (R_fld TF_110_4 H fun _ H => ?_)
    refine vl_y rfl hb ?_
    refine H_of_R (R_load1 T1_4 H fun _ t16 _ _ H => ?_)
    refine nA (R_pickC (v := t16) true hb rfl) <| nS t16 rfl <| vl_e ?_
    refine cI H (fun H => ?_) fun H => ?_
    · exact W_region (by kernel_rfl) <| nM a0 rfl <| nM t9 rfl <| vl_n <| H_call HB_211 H fun _ h H => vl_e <| H
    · refine sR <| nP (R_fld TF_110_0) H fun _ H => nL T1_3 H fun _ H => nP R_eqI H fun t24_2 H => nS t24_2 rfl <| vl_e ?_
      refine cI H (fun H => ?_) fun H => ?_
      · exact W_region (by kernel_rfl) <| nM a0 rfl <| nM t9 rfl <| vl_n <| H_call HB_177 H fun _ h H => vl_e <| H
      · refine sR <| nP (R_fld TF_110_0) H fun _ H => nL T1_3 H fun _ H => nP R_eqI H fun t31_2 H => nM t31_2 rfl ?_
        obtain ⟨b_33, hb_9, H1, H2⟩ := H
        cases b_33
        · have H := H2 rfl
          clear H1 H2
          refine vl_s rfl (nbT hb_9) ?_
          refine vl_s rfl (nbT hb_9) ?_
          refine nA (R_pickC (v := (.bool false)) false hb_9 rfl) <| nS (.bool false) rfl <| vl_e ?_
          refine WPc_cond (t := false) rfl (fun hh => by cases hh) (fun _ => ?_)
          refine sR <| nP (R_fld TF_110_0) H fun _ H => nL T1_3 H fun _ H => nP R_eqI H fun t42_3 H => nS t42_3 rfl <| vl_e ?_
          refine cI H (fun H => ?_) fun H => ?_
          · exact W_region (by kernel_rfl) <| nM a0 rfl <| nM t9 rfl <| vl_n <| H_call HB_213 H fun _ h H => vl_e <| H
          · refine sR <| nP (R_fld TF_110_0) H fun _ H => nL T1_3 H fun _ H => nP R_eqI H fun t49_3 H => nM t49_3 rfl ?_
            obtain ⟨b_35, hb_10, H1, H2⟩ := H
            cases b_35
            · have H := H2 rfl
              clear H1 H2
              refine vl_s rfl (nbT hb_10) ?_
              refine vl_s rfl (nbT hb_10) ?_
              refine nA (R_pickC (v := (.bool false)) false hb_10 rfl) <| nS (.bool false) rfl <| vl_e ?_
              refine WPc_cond (t := false) rfl (fun hh => by cases hh) (fun _ => ?_)
              refine sR <| nP (R_fld TF_110_0) H fun _ H => nL T1_3 H fun _ H => nP R_eqI H fun t63_5 H => nS t63_5 rfl <| vl_e ?_
              refine cI H (fun H => ?_) fun H => ?_
              · exact W_region (by kernel_rfl) <| nM a0 rfl <| nP (R_fld TF_110_2) H fun _ H => nP (R_fld TF_105_0) H fun _ H => nL T1_9 H fun _ H => nM t9 rfl <| vl_n <| H_call HB_215 H fun _ h H => vl_e <| H
              · refine sR <| nP (R_fld TF_110_0) H fun _ H => nL T1_3 H fun _ H => nP R_eqI H fun t73_5 H => nM t73_5 rfl ?_
                obtain ⟨b_37, hb_11, H1, H2⟩ := H
                cases b_37
                · have H := H2 rfl
                  clear H1 H2
                  refine vl_s rfl (nbT hb_11) ?_
                  refine vl_s rfl (nbT hb_11) ?_
                  refine nA (R_pickC (v := (.bool false)) false hb_11 rfl) <| nS (.bool false) rfl <| vl_e ?_
                  refine WPc_cond (t := false) rfl (fun hh => by cases hh) (fun _ => ?_)
                  refine sR <| nP (R_fld TF_110_0) H fun _ H => nL T1_3 H fun _ H => nP R_eqI H fun t87_9 H => nS t87_9 rfl <| vl_e ?_
                  refine cI H (fun H => ?_) fun H => ?_
                  · exact W_region (by kernel_rfl) <| nM a0 rfl <| nP (R_fld TF_110_2) H fun _ H => nP (R_fld TF_105_0) H fun _ H => nL T1_9 H fun _ H => nM t9 rfl <| vl_n <| H_call HB_217 H fun _ h H => vl_e <| H
                  · exact WPc_skip <| H
                · have H := H1 rfl
                  clear H1 H2
                  refine vl_y rfl hb_11 ?_
                  refine H_of_R (R_fld TF_110_4 H fun _ H => ?_)
                  refine vl_y rfl hb_11 ?_
                  refine H_of_R (R_load1 T1_4 H fun _ t76_5 _ _ H => ?_)
                  refine nA (R_pickC (v := t76_5) true hb_11 rfl) <| nS t76_5 rfl <| vl_e ?_
                  refine cI H (fun H => ?_) fun H => ?_
                  · exact W_region (by kernel_rfl) <| nM a0 rfl <| nP (R_fld TF_110_2) H fun _ H => nP (R_fld TF_105_0) H fun _ H => nL T1_9 H fun _ H => nM t9 rfl <| vl_n <| H_call HB_216 H fun _ h H => vl_e <| H
                  · refine sR <| nP (R_fld TF_110_0) H fun _ H => nL T1_3 H fun _ H => nP R_eqI H fun t87_10 H => nS t87_10 rfl <| vl_e ?_
                    refine cI H (fun H => ?_) fun H => ?_
                    · exact W_region (by kernel_rfl) <| nM a0 rfl <| nP (R_fld TF_110_2) H fun _ H => nP (R_fld TF_105_0) H fun _ H => nL T1_9 H fun _ H => nM t9 rfl <| vl_n <| H_call HB_217 H fun _ h H => vl_e <| H
                    · exact WPc_skip <| H
            · have H := H1 rfl
              clear H1 H2
              refine vl_y rfl hb_10 ?_
              refine H_of_R (R_fld TF_110_4 H fun _ H => ?_)
              refine vl_y rfl hb_10 ?_
              refine H_of_R (R_load1 T1_4 H fun _ t52_3 _ _ H => ?_)
              refine nA (R_pickC (v := t52_3) true hb_10 rfl) <| nS t52_3 rfl <| vl_e ?_
              refine cI H (fun H => ?_) fun H => ?_
              · exact W_region (by kernel_rfl) <| nM a0 rfl <| nP (R_fld TF_110_2) H fun _ H => nP (R_fld TF_105_0) H fun _ H => nL T1_9 H fun _ H => nM t9 rfl <| vl_n <| H_call HB_214 H fun _ h H => vl_e <| H
              · refine sR <| nP (R_fld TF_110_0) H fun _ H => nL T1_3 H fun _ H => nP R_eqI H fun t63_6 H => nS t63_6 rfl <| vl_e ?_
                refine cI H (fun H => ?_) fun H => ?_
                · exact W_region (by kernel_rfl) <| nM a0 rfl <| nP (R_fld TF_110_2) H fun _ H => nP (R_fld TF_105_0) H fun _ H => nL T1_9 H fun _ H => nM t9 rfl <| vl_n <| H_call HB_215 H fun _ h H => vl_e <| H
                · refine sR <| nP (R_fld TF_110_0) H fun _ H => nL T1_3 H fun _ H => nP R_eqI H fun t73_6 H => nM t73_6 rfl ?_
                  obtain ⟨b_43, hb_12, H1, H2⟩ := H
                  cases b_43
                  · have H := H2 rfl
                    clear H1 H2
                    refine vl_s rfl (nbT hb_12) ?_
                    refine vl_s rfl (nbT hb_12) ?_
                    refine nA (R_pickC (v := (.bool false)) false hb_12 rfl) <| nS (.bool false) rfl <| vl_e ?_
                    refine WPc_cond (t := false) rfl (fun hh => by cases hh) (fun _ => ?_)
                    refine sR <| nP (R_fld TF_110_0) H fun _ H => nL T1_3 H fun _ H => nP R_eqI H fun t87_11 H => nS t87_11 rfl <| vl_e ?_
                    refine cI H (fun H => ?_) fun H => ?_
                    · exact W_region (by kernel_rfl) <| nM a0 rfl <| nP (R_fld TF_110_2) H fun _ H => nP (R_fld TF_105_0) H fun _ H => nL T1_9 H fun _ H => nM t9 rfl <| vl_n <| H_call HB_217 H fun _ h H => vl_e <| H
                    · exact WPc_skip <| H
                  · have H := H1 rfl
                    clear H1 H2
                    refine vl_y rfl hb_12 ?_
                    refine H_of_R (R_fld TF_110_4 H fun _ H => ?_)
                    refine vl_y rfl hb_12 ?_
                    refine H_of_R (R_load1 T1_4 H fun _ t76_6 _ _ H => ?_)
                    refine nA (R_pickC (v := t76_6) true hb_12 rfl) <| nS t76_6 rfl <| vl_e ?_
                    refine cI H (fun H => ?_) fun H => ?_
                    · exact W_region (by kernel_rfl) <| nM a0 rfl <| nP (R_fld TF_110_2) H fun _ H => nP (R_fld TF_105_0) H fun _ H => nL T1_9 H fun _ H => nM t9 rfl <| vl_n <| H_call HB_216 H fun _ h H => vl_e <| H
                    · refine sR <| nP (R_fld TF_110_0) H fun _ H => nL T1_3 H fun _ H => nP R_eqI H fun t87_12 H => nS t87_12 rfl <| vl_e ?_
                      refine cI H (fun H => ?_) fun H => ?_
                      · exact W_region (by kernel_rfl) <| nM a0 rfl <| nP (R_fld TF_110_2) H fun _ H => nP (R_fld TF_105_0) H fun _ H => nL T1_9 H fun _ H => nM t9 rfl <| vl_n <| H_call HB_217 H fun _ h H => vl_e <| H
                      · exact WPc_skip <| H
        · have H := H1 rfl
          clear H1 H2
          refine vl_y rfl hb_9 ?_
          refine H_of_R (R_fld TF_110_4 H fun _ H => ?_)
          refine vl_y rfl hb_9 ?_
          refine H_of_R (R_load1 T1_4 H fun _ t34_2 _ _ H => ?_)
          refine nA (R_pickC (v := t34_2) true hb_9 rfl) <| nS t34_2 rfl <| vl_e ?_
          refine cI H (fun H => ?_) fun H => ?_
          · exact W_region (by kernel_rfl) <| nM a0 rfl <| nM t9 rfl <| vl_n <| H_call HB_212 H fun _ h H => vl_e <| H
          · refine sR <| nP (R_fld TF_110_0) H fun _ H => nL T1_3 H fun _ H => nP R_eqI H fun t42_4 H => nS t42_4 rfl <| vl_e ?_
            refine cI H (fun H => ?_) fun H => ?_
            · exact W_region (by kernel_rfl) <| nM a0 rfl <| nM t9 rfl <| vl_n <| H_call HB_213 H fun _ h H => vl_e <| H
            · refine sR <| nP (R_fld TF_110_0) H fun _ H => nL T1_3 H fun _ H => nP R_eqI H fun t49_4 H => nM t49_4 rfl ?_
              obtain ⟨b_49, hb_13, H1, H2⟩ := H
              cases b_49
              · have H := H2 rfl
                clear H1 H2
                refine vl_s rfl (nbT hb_13) ?_
                refine vl_s rfl (nbT hb_13) ?_
                refine nA (R_pickC (v := (.bool false)) false hb_13 rfl) <| nS (.bool false) rfl <| vl_e ?_
                refine WPc_cond (t := false) rfl (fun hh => by cases hh) (fun _ => ?_)
                refine sR <| nP (R_fld TF_110_0) H fun _ H => nL T1_3 H fun _ H => nP R_eqI H fun t63_7 H => nS t63_7 rfl <| vl_e ?_
                refine cI H (fun H => ?_) fun H => ?_
                · exact W_region (by kernel_rfl) <| nM a0 rfl <| nP (R_fld TF_110_2) H fun _ H => nP (R_fld TF_105_0) H fun _ H => nL T1_9 H fun _ H => nM t9 rfl <| vl_n <| H_call HB_215 H fun _ h H => vl_e <| H
                · refine sR <| nP (R_fld TF_110_0) H fun _ H => nL T1_3 H fun _ H => nP R_eqI H fun t73_7 H => nM t73_7 rfl ?_
                  obtain ⟨b_51, hb_14, H1, H2⟩ := H
                  cases b_51
                  · have H := H2 rfl
                    clear H1 H2
                    refine vl_s rfl (nbT hb_14) ?_
                    refine vl_s rfl (nbT hb_14) ?_
                    refine nA (R_pickC (v := (.bool false)) false hb_14 rfl) <| nS (.bool false) rfl <| vl_e ?_
                    refine WPc_cond (t := false) rfl (fun hh => by cases hh) (fun _ => ?_)
                    refine sR <| nP (R_fld TF_110_0) H fun _ H => nL T1_3 H fun _ H => nP R_eqI H fun t87_13 H => nS t87_13 rfl <| vl_e ?_
                    refine cI H (fun H => ?_) fun H => ?_
                    · exact W_region (by kernel_rfl) <| nM a0 rfl <| nP (R_fld TF_110_2) H fun _ H => nP (R_fld TF_105_0) H fun _ H => nL T1_9 H fun _ H => nM t9 rfl <| vl_n <| H_call HB_217 H fun _ h H => vl_e <| H
                    · exact WPc_skip <| H
                  · have H := H1 rfl
                    clear H1 H2
                    refine vl_y rfl hb_14 ?_
                    refine H_of_R (R_fld TF_110_4 H fun _ H => ?_)
                    refine vl_y rfl hb_14 ?_
                    refine H_of_R (R_load1 T1_4 H fun _ t76_7 _ _ H => ?_)
                    refine nA (R_pickC (v := t76_7) true hb_14 rfl) <| nS t76_7 rfl <| vl_e ?_
                    refine cI H (fun H => ?_) fun H => ?_
                    · exact W_region (by kernel_rfl) <| nM a0 rfl <| nP (R_fld TF_110_2) H fun _ H => nP (R_fld TF_105_0) H fun _ H => nL T1_9 H fun _ H => nM t9 rfl <| vl_n <| H_call HB_216 H fun _ h H => vl_e <| H
                    · refine sR <| nP (R_fld TF_110_0) H fun _ H => nL T1_3 H fun _ H => nP R_eqI H fun t87_14 H => nS t87_14 rfl <| vl_e ?_
                      refine cI H (fun H => ?_) fun H => ?_
                      · exact W_region (by kernel_rfl) <| nM a0 rfl <| nP (R_fld TF_110_2) H fun _ H => nP (R_fld TF_105_0) H fun _ H => nL T1_9 H fun _ H => nM t9 rfl <| vl_n <| H_call HB_217 H fun _ h H => vl_e <| H
                      · exact WPc_skip <| H
              · have H := H1 rfl
                clear H1 H2
                refine vl_y rfl hb_13 ?_
                refine H_of_R (R_fld TF_110_4 H fun _ H => ?_)
                refine vl_y rfl hb_13 ?_
                refine H_of_R (R_load1 T1_4 H fun _ t52_4 _ _ H => ?_)
                refine nA (R_pickC (v := t52_4) true hb_13 rfl) <| nS t52_4 rfl <| vl_e ?_
                refine cI H (fun H => ?_) fun H => ?_
                · exact W_region (by kernel_rfl) <| nM a0 rfl <| nP (R_fld TF_110_2) H fun _ H => nP (R_fld TF_105_0) H fun _ H => nL T1_9 H fun _ H => nM t9 rfl <| vl_n <| H_call HB_214 H fun _ h H => vl_e <| H
                · refine sR <| nP (R_fld TF_110_0) H fun _ H => nL T1_3 H fun _ H => nP R_eqI H fun t63_8 H => nS t63_8 rfl <| vl_e ?_
                  refine cI H (fun H => ?_) fun H => ?_
                  · exact W_region (by kernel_rfl) <| nM a0 rfl <| nP (R_fld TF_110_2) H fun _ H => nP (R_fld TF_105_0) H fun _ H => nL T1_9 H fun _ H => nM t9 rfl <| vl_n <| H_call HB_215 H fun _ h H => vl_e <| H
                  · refine sR <| nP (R_fld TF_110_0) H fun _ H => nL T1_3 H fun _ H => nP R_eqI H fun t73_8 H => nM t73_8 rfl ?_
                    obtain ⟨b_57, hb_15, H1, H2⟩ := H
                    cases b_57
                    · have H := H2 rfl
                      clear H1 H2
                      refine vl_s rfl (nbT hb_15) ?_
                      refine vl_s rfl (nbT hb_15) ?_
                      refine nA (R_pickC (v := (.bool false)) false hb_15 rfl) <| nS (.bool false) rfl <| vl_e ?_
                      refine WPc_cond (t := false) rfl (fun hh => by cases hh) (fun _ => ?_)
                      refine sR <| nP (R_fld TF_110_0) H fun _ H => nL T1_3 H fun _ H => nP R_eqI H fun t87_15 H => nS t87_15 rfl <| vl_e ?_
                      refine cI H (fun H => ?_) fun H => ?_
                      · exact W_region (by kernel_rfl) <| nM a0 rfl <| nP (R_fld TF_110_2) H fun _ H => nP (R_fld TF_105_0) H fun _ H => nL T1_9 H fun _ H => nM t9 rfl <| vl_n <| H_call HB_217 H fun _ h H => vl_e <| H
                      · exact WPc_skip <| H
                    · have H := H1 rfl
                      clear H1 H2
                      refine vl_y rfl hb_15 ?_
                      refine H_of_R (R_fld TF_110_4 H fun _ H => ?_)
                      refine vl_y rfl hb_15 ?_
                      refine H_of_R (R_load1 T1_4 H fun _ t76_8 _ _ H => ?_)
                      refine nA (R_pickC (v := t76_8) true hb_15 rfl) <| nS t76_8 rfl <| vl_e ?_
                      refine cI H (fun H => ?_) fun H => ?_
                      · exact W_region (by kernel_rfl) <| nM a0 rfl <| nP (R_fld TF_110_2) H fun _ H => nP (R_fld TF_105_0) H fun _ H => nL T1_9 H fun _ H => nM t9 rfl <| vl_n <| H_call HB_216 H fun _ h H => vl_e <| H
                      · refine sR <| nP (R_fld TF_110_0) H fun _ H => nL T1_3 H fun _ H => nP R_eqI H fun t87_16 H => nS t87_16 rfl <| vl_e ?_
                        refine cI H (fun H => ?_) fun H => ?_
                        · exact W_region (by kernel_rfl) <| nM a0 rfl <| nP (R_fld TF_110_2) H fun _ H => nP (R_fld TF_105_0) H fun _ H => nL T1_9 H fun _ H => nM t9 rfl <| vl_n <| H_call HB_217 H fun _ h H => vl_e <| H
                        · exact WPc_skip <| H

end Go.Proofs.Ytdpkpcmoabfofaa
end
section
namespace Go.Proofs.Ytdpkpcmoabfofaa
open Go.Hp
set_option maxRecDepth 100000
set_option maxHeartbeats 8000000
set_option linter.unusedVariables false
set_option linter.unusedSimpArgs false

/-! ### impl.wordOf -/
def i_wordOf.j1 (s0 s1 s6 : Value) (h : Heap) (Q : Value → Heap → Prop) : Prop := buildV [(.string ⟨#[]⟩), (.int .i64 0)] [(0, 1, s0), (1, 1, s1)] fun b=>storeN 2 s6 b h fun h=>loadN 2 s6 h fun d=>Q (.tuple #[d, (.bool true)]) h
def i_wordOf.sh (a0 a1 a2 : Value) (h : Heap) (Q : Value → Heap → Prop) : Prop := alloc [(.string ⟨#[]⟩), (.int .i64 0)] 105 h fun b h=>notV a2 fun d=>ifV d (buildV [(.string ⟨#[]⟩), (.int .i64 0)] [] fun g=>storeN 2 b g h fun h=>loadN 2 b h fun i=>Q (.tuple #[i, (.bool false)]) h) (i_wordOf.j1 a0 a1 b h Q)
theorem i_wordOf.body (a0 a1 a2 : Value) (h : Heap) (Q : Value → Heap → Prop) (H : i_wordOf.sh a0 a1 a2 h Q) : i_wordOf.call #[a0, a1, a2] h Q := by
  refine callsH_of (args := [a0, a1, a2]) Try.func176 rfl rfl ?_
  unfold i_wordOf.sh at H
  refine sR <| vl_n <| H_alloc TV_105 H fun _ h H => nS (.bool false) rfl <| vl_e ?_
  refine WPc_seq (fun e h => i_wordOf.j1 (e 0) (e 1) (e 6) h Q) ?_ (fun e h H => ?_)
  rotate_left
  · unfold i_wordOf.j1 at H
    exact sR <| nM (e 0) rfl <| nM (e 1) rfl <| nP (R_build TB_105 rfl (by decide)) H fun _ H => vl_n <| H_storeN TS_105 H fun h H => nS (.bool true) rfl <| vl_e <| WPc_ret <| resH_of rfl <| resL_N TN_105 <| loadN_imp H fun r6 H => resL_t <| H
  refine sR <| nM a2 rfl <| nP R_not H fun _ H => vl_e ?_
  refine cI H (fun H => ?_) fun H => ?_
  · exact sR <| nP (R_build TB_105 rfl (by decide)) H fun _ H => vl_n <| H_storeN TS_105 H fun h H => nS (.bool false) rfl <| vl_e <| WPc_ret <| resH_of rfl <| resL_N TN_105 <| loadN_imp H fun r6 H => resL_t <| H
  · exact WPc_skip <| H
/-! ### impl.stepWords -/
def i_stepWords.j1 (s4 s7 s8 s9 : Value) (h : Heap) (Q : Value → Heap → Prop) : Prop := i_wordOf.call #[s7, s8, s9] h fun b h=>extr 0 b fun d=>extr 1 b fun g=>alloc [(.string ⟨#[]⟩), (.int .i64 0)] 105 h fun i h=>storeN 2 i d h fun h=>loadN 2 i h fun j=>storeN 2 s4 j h fun h=>loadN 2 s4 h fun k=>Q (.tuple #[k, g, (.slice none 0 0)]) h
def i_stepWords.sh (a0 a1 : Value) (h : Heap) (Q : Value → Heap → Prop) : Prop := box 110 a1 h fun b h=>alloc [(.string ⟨#[]⟩), (.int .i64 0)] 105 h fun d h=>fld 2 b fun g=>fld 0 g fun i=>load1 i h fun j=>fld 0 b fun k=>load1 k h fun l=>cmpI (fun a b=>a == b) l (.int .i64 0) fun m=>ifV m (fld 2 b fun n=>fld 1 n fun o=>load1 o h fun p=>Map_si_Set.call #[a0, j, p] h fun q h=>extr 0 q fun u=>extr 1 q fun v=>i_stepWords.j1 d j u v h Q) (cmpI (fun a b=>a == b) l (.int .i64 1) fun w=>ifV w (Map_si_Max.call #[a0] h fun x h=>extr 0 x fun y=>extr 1 x fun z=>extr 2 x fun b0=>notV b0 fun b1=>br b1 false (cmpS (fun lt _=>!lt) j y fun b2=>ifV b2 (fld 2 b fun b3=>fld 1 b3 fun b4=>load1 b4 h fun b5=>Map_si_Load.call #[a0, j, b5] h fun b6 h=>extr 0 b6 fun b7=>extr 1 b6 fun b8=>i_stepWords.j1 d j b7 b8 h Q) (i_stepWords.j1 d j (.int .i64 0) (.bool false) h Q)) (fld 2 b fun b9=>fld 1 b9 fun d0=>load1 d0 h fun d1=>Map_si_Load.call #[a0, j, d1] h fun d2 h=>extr 0 d2 fun d3=>extr 1 d2 fun d4=>i_stepWords.j1 d j d3 d4 h Q)) (cmpI (fun a b=>a == b) l (.int .i64 2) fun d5=>ifV d5 (Map_si_Get.call #[a0, j] h fun d6 h=>extr 0 d6 fun d7=>extr 1 d6 fun d8=>i_stepWords.j1 d j d7 d8 h Q) (cmpI (fun a b=>a == b) l (.int .i64 3) fun d9=>ifV d9 (Map_si_Delete.call #[a0, j] h fun g0 h=>extr 0 g0 fun g1=>extr 1 g0 fun g2=>i_stepWords.j1 d j g1 g2 h Q) (cmpI (fun a b=>a == b) l (.int .i64 4) fun g3=>ifV g3 (Map_si_Min.call #[a0] h fun g4 h=>extr 0 g4 fun g5=>extr 1 g4 fun g6=>extr 2 g4 fun g7=>i_stepWords.j1 d g5 g6 g7 h Q) (cmpI (fun a b=>a == b) l (.int .i64 5) fun g8=>ifV g8 (Map_si_Max.call #[a0] h fun g9 h=>extr 0 g9 fun i0=>extr 1 g9 fun i1=>extr 2 g9 fun i2=>i_stepWords.j1 d i0 i1 i2 h Q) (cmpI (fun a b=>a == b) l (.int .i64 6) fun i3=>ifV i3 (Map_si_PopMin.call #[a0] h fun i4 h=>extr 0 i4 fun i5=>extr 1 i4 fun i6=>extr 2 i4 fun i7=>i_stepWords.j1 d i5 i6 i7 h Q) (cmpI (fun a b=>a == b) l (.int .i64 7) fun i8=>ifV i8 (Map_si_PopMax.call #[a0] h fun i9 h=>extr 0 i9 fun j0=>extr 1 i9 fun j1=>extr 2 i9 fun j2=>i_stepWords.j1 d j0 j1 j2 h Q) (cmpI (fun a b=>a == b) l (.int .i64 8) fun j3=>ifV j3 (fld 4 b fun j4=>load1 j4 h fun j5=>Map_si_GetAt.call #[a0, j5] h fun j6 h=>extr 0 j6 fun j7=>extr 1 j6 fun j8=>extr 2 j6 fun j9=>i_stepWords.j1 d j7 j8 j9 h Q) (cmpI (fun a b=>a == b) l (.int .i64 9) fun k0=>ifV k0 (fld 4 b fun k1=>load1 k1 h fun k2=>Map_si_DeleteAt.call #[a0, k2] h fun k3 h=>extr 0 k3 fun k4=>extr 1 k3 fun k5=>extr 2 k3 fun k6=>i_stepWords.j1 d k4 k5 k6 h Q) (cmpI (fun a b=>a == b) l (.int .i64 11) fun k7=>ifV k7 (Map_si_Clear.call #[a0] h fun k8 h=>i_stepWords.j1 d j (.int .i64 0) (.bool false) h Q) (cmpI (fun a b=>a == b) l (.int .i64 13) fun k9=>ifV k9 (buildV [(.string ⟨#[]⟩), (.int .i64 0)] [] fun l0=>i_allWords.call #[a0] h fun l1 h=>storeN 2 d l0 h fun h=>loadN 2 d h fun l2=>Q (.tuple #[l2, (.bool false), l1]) h) (buildV [(.string ⟨#[]⟩), (.int .i64 0)] [] fun l3=>loadN 6 b h fun l4=>i_handedWords.call #[a0, l4] h fun l5 h=>storeN 2 d l3 h fun h=>loadN 2 d h fun l6=>Q (.tuple #[l6, (.bool false), l5]) h))))))))))))
theorem i_stepWords.body (a0 a1 : Value) (h : Heap) (Q : Value → Heap → Prop) (H : i_stepWords.sh a0 a1 h Q) : i_stepWords.call #[a0, a1] h Q := by
  refine callsH_of (args := [a0, a1]) Try.func112 rfl rfl ?_
  unfold i_stepWords.sh at H
  refine sR <| vl_n <| H_box H fun _ h H => vl_n <| H_alloc TV_105 H fun _ h H => nS (.bool false) rfl <| nS (.slice none 0 0) rfl <| vl_e <| sR <| nP (R_fld TF_110_2) H fun _ H => nP (R_fld TF_105_0) H fun _ H => nL T1_9 H fun t17 H => nS t17 rfl <| nS (.int .i64 0) rfl <| nS (.bool false) rfl <| vl_e ?_
  refine WPc_seq (fun e h => i_stepWords.j1 (e 4) (e 7) (e 8) (e 9) h Q) ?_ (fun e h H => ?_)
  rotate_left
  · unfold i_stepWords.j1 at H
    refine sR <| nM (e 7) rfl <| nM (e 8) rfl <| nM (e 9) rfl <| vl_n <| H_call HB_176 H fun t140 h H => nM t140 rfl <| nP R_ext H fun _ H => nP R_ext H fun t142 H => vl_n <| H_alloc TV_105 H fun _ h H => vl_n <| H_storeN TS_105 H fun h H => nS t142 rfl <| vl_e <| sR <| nLN TN_105 H fun _ H => ?_
    exact nM t142 rfl <| vl_n <| H_storeN TS_105 H fun h H => nS t142 rfl <| nS (.slice none 0 0) rfl <| vl_e <| WPc_ret <| resH_of rfl <| resL_N TN_105 <| loadN_imp H fun r4 H => resL_t <| resL_t <| H
  refine sR <| nP (R_fld TF_110_0) H fun _ H => nL T1_3 H fun _ H => vl_e <| WPc_block <| sR <| nP R_eqI H fun t25 H => nS t25 rfl <| vl_e ?_
  refine cI H (fun H => ?_) fun H => ?_
  · exact W_region (by kernel_rfl) <| nM a0 rfl <| nM t17 rfl <| nP (R_fld TF_110_2) H fun _ H => nP (R_fld TF_105_1) H fun _ H => nL T1_3 H fun _ H => vl_n <| H_call HB_156 H fun t32 h H => nM t32 rfl <| nP R_ext H fun t33 H => nP R_ext H fun t34 H => nS t33 rfl <| nS t34 rfl <| vl_e <| H
  · refine sR <| nP R_eqI H fun t36 H => nS t36 rfl <| vl_e ?_
    refine cI H (fun H => ?_) fun H => ?_
    · refine sR <| nM a0 rfl <| vl_n <| H_call HB_165 H fun t39 h H => nM t39 rfl <| nP R_ext H fun t40 H => nP R_ext H fun t41 H => nP R_ext H fun t42 H => nS t40 rfl <| nS t41 rfl <| nS t42 rfl <| vl_e <| sR <| nM t42 rfl <| nP R_not H fun t44 H => ?_
      refine nM t44 rfl ?_
      obtain ⟨b_3, hb, H1, H2⟩ := H
      cases b_3
      · have H := H1 rfl
        clear H1 H2
        refine vl_y rfl hb ?_
        refine H_of_R (R_move (v := t17) rfl ?_)
        refine vl_y rfl hb ?_
        refine H_of_R (R_move (v := t40) rfl ?_)
        refine vl_y rfl hb ?_
        refine H_of_R (R_geqS H fun t48 H => ?_)
        refine nA (R_pickC (v := t48) false hb rfl) <| vl_e ?_
        refine cI H (fun H => ?_) fun H => ?_
        · exact W_region (by kernel_rfl) <| nM a0 rfl <| nM t17 rfl <| nP (R_fld TF_110_2) H fun _ H => nP (R_fld TF_105_1) H fun _ H => nL T1_3 H fun _ H => vl_n <| H_call HB_166 H fun t56 h H => nM t56 rfl <| nP R_ext H fun t57 H => nP R_ext H fun t58 H => nS t57 rfl <| nS t58 rfl <| vl_e <| H
        · exact WPc_skip <| H
      · have H := H2 rfl
        clear H1 H2
        refine vl_s rfl (nbF hb) ?_
        refine vl_s rfl (nbF hb) ?_
        refine vl_s rfl (nbF hb) ?_
        refine nA (R_pickC (v := (.bool true)) true hb rfl) <| vl_e ?_
        refine WPc_cond (t := true) rfl (fun _ => ?_) (fun hh => by cases hh)
        exact W_region (by kernel_rfl) <| nM a0 rfl <| nM t17 rfl <| nP (R_fld TF_110_2) H fun _ H => nP (R_fld TF_105_1) H fun _ H => nL T1_3 H fun _ H => vl_n <| H_call HB_166 H fun t56_2 h H => nM t56_2 rfl <| nP R_ext H fun t57_2 H => nP R_ext H fun t58_2 H => nS t57_2 rfl <| nS t58_2 rfl <| vl_e <| H
    · refine sR <| nP R_eqI H fun t60 H => nS t60 rfl <| vl_e ?_
      refine cI H (fun H => ?_) fun H => ?_
      · exact W_region (by kernel_rfl) <| nM a0 rfl <| nM t17 rfl <| vl_n <| H_call HB_167 H fun t64 h H => nM t64 rfl <| nP R_ext H fun t65 H => nP R_ext H fun t66 H => nS t65 rfl <| nS t66 rfl <| vl_e <| H
      · refine sR <| nP R_eqI H fun t68 H => nS t68 rfl <| vl_e ?_
        refine cI H (fun H => ?_) fun H => ?_
        · exact W_region (by kernel_rfl) <| nM a0 rfl <| nM t17 rfl <| vl_n <| H_call HB_168 H fun t72 h H => nM t72 rfl <| nP R_ext H fun t73 H => nP R_ext H fun t74 H => nS t73 rfl <| nS t74 rfl <| vl_e <| H
        · refine sR <| nP R_eqI H fun t76 H => nS t76 rfl <| vl_e ?_
          refine cI H (fun H => ?_) fun H => ?_
          · exact W_region (by kernel_rfl) <| nM a0 rfl <| vl_n <| H_call HB_169 H fun t79 h H => nM t79 rfl <| nP R_ext H fun t80 H => nP R_ext H fun t81 H => nP R_ext H fun t82 H => nS t80 rfl <| nS t81 rfl <| nS t82 rfl <| vl_e <| H
          · refine sR <| nP R_eqI H fun t84 H => nS t84 rfl <| vl_e ?_
            refine cI H (fun H => ?_) fun H => ?_
            · exact W_region (by kernel_rfl) <| nM a0 rfl <| vl_n <| H_call HB_165 H fun t87 h H => nM t87 rfl <| nP R_ext H fun t88 H => nP R_ext H fun t89 H => nP R_ext H fun t90 H => nS t88 rfl <| nS t89 rfl <| nS t90 rfl <| vl_e <| H
            · refine sR <| nP R_eqI H fun t92 H => nS t92 rfl <| vl_e ?_
              refine cI H (fun H => ?_) fun H => ?_
              · exact W_region (by kernel_rfl) <| nM a0 rfl <| vl_n <| H_call HB_170 H fun t95 h H => nM t95 rfl <| nP R_ext H fun t96 H => nP R_ext H fun t97 H => nP R_ext H fun t98 H => nS t96 rfl <| nS t97 rfl <| nS t98 rfl <| vl_e <| H
              · refine sR <| nP R_eqI H fun t100 H => nS t100 rfl <| vl_e ?_
                refine cI H (fun H => ?_) fun H => ?_
                · exact W_region (by kernel_rfl) <| nM a0 rfl <| vl_n <| H_call HB_171 H fun t103 h H => nM t103 rfl <| nP R_ext H fun t104 H => nP R_ext H fun t105 H => nP R_ext H fun t106 H => nS t104 rfl <| nS t105 rfl <| nS t106 rfl <| vl_e <| H
                · refine sR <| nP R_eqI H fun t108 H => nS t108 rfl <| vl_e ?_
                  refine cI H (fun H => ?_) fun H => ?_
                  · exact W_region (by kernel_rfl) <| nM a0 rfl <| nP (R_fld TF_110_3) H fun _ H => nL T1_3 H fun _ H => vl_n <| H_call HB_172 H fun t113 h H => nM t113 rfl <| nP R_ext H fun t114 H => nP R_ext H fun t115 H => nP R_ext H fun t116 H => nS t114 rfl <| nS t115 rfl <| nS t116 rfl <| vl_e <| H
                  · refine sR <| nP R_eqI H fun t118 H => nS t118 rfl <| vl_e ?_
                    refine cI H (fun H => ?_) fun H => ?_
                    · exact W_region (by kernel_rfl) <| nM a0 rfl <| nP (R_fld TF_110_3) H fun _ H => nL T1_3 H fun _ H => vl_n <| H_call HB_173 H fun t123 h H => nM t123 rfl <| nP R_ext H fun t124 H => nP R_ext H fun t125 H => nP R_ext H fun t126 H => nS t124 rfl <| nS t125 rfl <| nS t126 rfl <| vl_e <| H
                    · refine sR <| nP R_eqI H fun t128 H => nS t128 rfl <| vl_e ?_
                      refine cI H (fun H => ?_) fun H => ?_
                      · exact W_region (by kernel_rfl) <| nM a0 rfl <| vl_n <| H_call HB_174 H fun _ h H => vl_e <| H
                      · refine sR <| nP R_eqI H fun t132 H => nS t132 rfl <| vl_e ?_
                        refine cI H (fun H => ?_) fun H => ?_
                        · exact sR <| nP (R_build TB_105 rfl (by decide)) H fun _ H => nM a0 rfl <| vl_n <| H_call HB_114 H fun t135 h H => vl_n <| H_storeN TS_105 H fun h H => nS (.bool false) rfl <| nS t135 rfl <| vl_e <| WPc_ret <| resH_of rfl <| resL_N TN_105 <| loadN_imp H fun r4 H => resL_t <| resL_t <| H
                        · refine sR <| nP (R_build TB_105 rfl (by decide)) H fun _ H => nM a0 rfl <| nLN TN_110 H fun _ H => vl_n <| H_call HB_175 H fun t23 h H => vl_n <| H_storeN TS_105 H fun h H => nS (.bool false) rfl <| nS t23 rfl <| vl_e <| WPc_ret <| resH_of rfl <| resL_N TN_105 <| loadN_imp H fun r4_2 H => resL_t ?_
                          exact resL_t <| H
/-! ### impl.WScript -/
def i_WScript.j2 (s7 s14 : Value) (h : Heap) (Q : Value → Heap → Prop) : Prop := Q (.tuple #[s7, s14]) h
def i_WScript.j5 (s7 s14 s71 s72 s73 : Value) (h : Heap) (K1 : List Value → Heap → Prop) (Q : Value → Heap → Prop) : Prop := arith (· + ·) s73 (.int .i64 1) fun b=>K1 [s14, b] h
def i_WScript.j4 (s7 s14 s71 s72 s73 : Value) (h : Heap) (K1 : List Value → Heap → Prop) (Q : Value → Heap → Prop) : Prop := idx 1 s71 s73 fun b=>load1 b h fun d=>i_allWords.call #[d] h fun g h=>mkSl (if 1 * 1 = 0 then [] else zeros [(.slice none 0 0)] 1) 1 [(0 * 1, 1, g)] 52 h fun i h=>app 52 1 24 [(.slice none 0 0)] s14 i h fun j h=>i_WScript.j5 s7 j s71 s72 s73 h K1 Q
def i_WScript.l3.b (c7 c71 c72 s14 s73 : Value) (h : Heap) (K1 : List Value → Heap → Prop) (Q : Value → Heap → Prop) : Prop := cmpI (fun a b=>decide (a < b)) s73 c72 fun b=>ifV b (i_WScript.j4 c7 s14 c71 c72 s73 h K1 Q) (i_WScript.j2 c7 s14 h Q)
def i_WScript.j1 (s6 s7 : Value) (h : Heap) (Q : Value → Heap → Prop) : Prop := lenV s6 fun b=>loopC (fun c s h K1=>i_WScript.l3.b (c.getD 0 undef) (c.getD 1 undef) (c.getD 2 undef) (s.getD 0 undef) (s.getD 1 undef) h K1 Q) [s7, s6, b] [(.slice none 0 0), (.int .i64 0)] h
def i_WScript.j8 (s6 s7 s20 s21 s22 : Value) (h : Heap) (K1 : List Value → Heap → Prop) (Q : Value → Heap → Prop) : Prop := arith (· + ·) s22 (.int .i64 1) fun b=>K1 [s6, s7, b] h
def i_WScript.j9 (s6 s7 s9 s10 s20 s21 s22 : Value) (h : Heap) (K1 : List Value → Heap → Prop) (Q : Value → Heap → Prop) : Prop := loadN 6 s9 h fun b=>i_stepWords.call #[s10, b] h fun d h=>extr 0 d fun g=>extr 1 d fun i=>extr 2 d fun j=>alloc [(.string ⟨#[]⟩), (.int .i64 0)] 105 h fun k h=>storeN 2 k g h fun h=>loadN 2 k h fun l=>Map_si_Len.call #[s10] h fun m h=>stillN 2 k l h ∧ buildV [(.string ⟨#[]⟩), (.int .i64 0), (.bool false), (.int .i64 0), (.slice none 0 0)] [(0, 2, l), (2, 1, i), (3, 1, m), (4, 1, j)] fun n=>mkSl (if 1 * 5 = 0 then [] else zeros [(.string ⟨#[]⟩), (.int .i64 0), (.bool false), (.int .i64 0), (.slice none 0 0)] 1) 1 [(0 * 5, 5, n)] 107 h fun o h=>app 107 5 64 [(.string ⟨#[]⟩), (.int .i64 0), (.bool false), (.int .i64 0), (.slice none 0 0)] s7 o h fun p h=>i_WScript.j8 s6 p s20 s21 s22 h K1 Q
def i_WScript.j7 (s6 s7 s20 s21 s22 : Value) (h : Heap) (K1 : List Value → Heap → Prop) (Q : Value → Heap → Prop) : Prop := idx 6 s20 s22 fun b=>loadN 6 b h fun d=>alloc [(.int .i64 0), (.int .i64 0), (.string ⟨#[]⟩), (.int .i64 0), (.int .i64 0), (.bool false)] 110 h fun g h=>storeN 6 g d h fun h=>fld 1 g fun i=>load1 i h fun j=>lenV s6 fun k=>i_remainder.call #[j, k] h fun l h=>idx 1 s6 l fun m=>load1 m h fun n=>fld 0 g fun o=>load1 o h fun p=>cmpI (fun a b=>a == b) p (.int .i64 10) fun q=>br q true (fld 5 g fun u=>load1 u h fun v=>ifV v (Map_si_IsoCopy.call #[n] h fun w h=>mkSl (if 1 * 1 = 0 then [] else zeros [(.pointer none)] 1) 1 [(0 * 1, 1, w)] 176 h fun x h=>app 176 1 8 [(.pointer none)] s6 x h fun y h=>i_WScript.j9 y s7 g n s20 s21 s22 h K1 Q) (fld 0 g fun z=>load1 z h fun b0=>cmpI (fun a b=>a == b) b0 (.int .i64 10) fun b1=>ifV b1 (Map_si_Copy.call #[n] h fun b2 h=>mkSl (if 1 * 1 = 0 then [] else zeros [(.pointer none)] 1) 1 [(0 * 1, 1, b2)] 176 h fun b3 h=>app 176 1 8 [(.pointer none)] s6 b3 h fun b4 h=>i_WScript.j9 b4 s7 g n s20 s21 s22 h K1 Q) (i_WScript.j9 s6 s7 g n s20 s21 s22 h K1 Q))) (fld 0 g fun b5=>load1 b5 h fun b6=>cmpI (fun a b=>a == b) b6 (.int .i64 10) fun b7=>ifV b7 (Map_si_Copy.call #[n] h fun b8 h=>mkSl (if 1 * 1 = 0 then [] else zeros [(.pointer none)] 1) 1 [(0 * 1, 1, b8)] 176 h fun b9 h=>app 176 1 8 [(.pointer none)] s6 b9 h fun d0 h=>i_WScript.j9 d0 s7 g n s20 s21 s22 h K1 Q) (i_WScript.j9 s6 s7 g n s20 s21 s22 h K1 Q))
def i_WScript.l6.b (c20 c21 s6 s7 s22 : Value) (h : Heap) (K1 : List Value → Heap → Prop) (Q : Value → Heap → Prop) : Prop := cmpI (fun a b=>decide (a < b)) s22 c21 fun b=>ifV b (i_WScript.j7 s6 s7 c20 c21 s22 h K1 Q) (i_WScript.j1 s6 s7 h Q)
def i_WScript.sh (a0 a1 : Value) (h : Heap) (Q : Value → Heap → Prop) : Prop := i_growWords.call #[a0, (.slice none 0 0)] h fun b h=>mkSl (if 1 * 1 = 0 then [] else zeros [(.pointer none)] 1) 1 [(0 * 1, 1, b)] 176 h fun d h=>lenV a1 fun g=>loopC (fun c s h K1=>i_WScript.l6.b (c.getD 0 undef) (c.getD 1 undef) (s.getD 0 undef) (s.getD 1 undef) (s.getD 2 undef) h K1 Q) [a1, g] [d, (.slice none 0 0), (.int .i64 0)] h
theorem i_WScript.body (a0 a1 : Value) (h : Heap) (Q : Value → Heap → Prop) (H : i_WScript.sh a0 a1 h Q) : i_WScript.call #[a0, a1] h Q := by
  refine callsH_of (args := [a0, a1]) Try.func64 rfl rfl ?_
  unfold i_WScript.sh at H
  refine sR <| nS (.slice none 0 0) rfl <| nS (.slice none 0 0) rfl <| vl_e <| sR <| nM a0 rfl <| vl_n <| H_call HB_106 H fun _ h H => vl_n <| H_mkSl TZ_181 (by decide) rfl H rfl fun t19 h H => nS t19 rfl <| vl_e <| sR <| nS (.slice none 0 0) rfl <| vl_e ?_
  refine WPc_seq (fun e h => i_WScript.j1 (e 6) (e 7) h Q) ?_ (fun e h H => ?_)
  rotate_left
  · unfold i_WScript.j1 at H
    refine sR <| nS (.slice none 0 0) rfl <| vl_e ?_
    refine WPc_seq (fun e h => i_WScript.j2 (e 7) (e 14) h Q) ?_ (fun e h H => ?_)
    rotate_left
    · unfold i_WScript.j2 at H
      exact sR <| nM (e 7) rfl <| nM (e 14) rfl <| nS (e 7) rfl <| nS (e 14) rfl <| vl_e <| WPc_ret <| resH_of rfl <| H
    refine sR <| nM (e 6) rfl <| nP (R_len Try.underlying181) H fun _ H => nM (.int .i64 0) rfl <| vl_e <| WPc_block ?_
    refine loop_at (fun e => [e 14, e 73]) (fun e => [e 7, e 71, e 72]) H rfl rfl ?_
    intro K1 e1 h H hin1
    replace H : i_WScript.l3.b (e1 7) (e1 71) (e1 72) (e1 14) (e1 73) h K1 Q := H
    unfold i_WScript.l3.b at H
    clear hin1
    refine sR <| nP R_lss H fun _ H => vl_e ?_
    refine WPc_seq (fun e h => i_WScript.j4 (e 7) (e 14) (e 71) (e 72) (e 73) h K1 Q ∧ [e1 7, e1 71, e1 72] = [e 7, e 71, e 72]) ?_ (fun e h ⟨H, hq1⟩ => ?_)
    rotate_left
    · unfold i_WScript.j4 at H
      refine WPc_seq (fun e h => i_WScript.j5 (e 7) (e 14) (e 71) (e 72) (e 73) h K1 Q ∧ [e1 7, e1 71, e1 72] = [e 7, e 71, e 72]) ?_ (fun e h ⟨H, hq1⟩ => ?_)
      rotate_left
      · unfold i_WScript.j5 at H
        refine W_region (by kernel_rfl) <| nP R_add H fun t82 H => nM t82 rfl <| vl_e ?_
        exact ⟨H, hq1⟩
      refine WPc_block <| sR <| nP (R_idx TE_181) H fun _ H => nL T1_176 H fun t76 H => nS t76 rfl <| vl_e <| W_region (by kernel_rfl) <| nM (e 14) rfl <| nM t76 rfl <| vl_n <| H_call HB_114 H fun _ h H => vl_n <| H_mkSl TZ_53 (by decide) rfl H rfl fun _ h H => vl_n <| H_app TZ_53 TU_53 H fun t81 h H => nS t81 rfl <| vl_e ?_
      exact ⟨H, hq1⟩
    refine cI H (fun H => ?_) fun H => ?_
    · refine WPc_skip ?_
      exact ⟨H, rfl⟩
    · refine WPc_exit ?_
      exact H
  refine sR <| nM a1 rfl <| nP (R_len Try.underlying121) H fun _ H => nM (.int .i64 0) rfl <| vl_e <| WPc_block ?_
  refine loop_at (fun e => [e 6, e 7, e 22]) (fun e => [e 20, e 21]) H rfl rfl ?_
  intro K1 e1 h H hin1
  replace H : i_WScript.l6.b (e1 20) (e1 21) (e1 6) (e1 7) (e1 22) h K1 Q := H
  unfold i_WScript.l6.b at H
  clear hin1
  refine sR <| nP R_lss H fun _ H => vl_e ?_
  refine WPc_seq (fun e h => i_WScript.j7 (e 6) (e 7) (e 20) (e 21) (e 22) h K1 Q ∧ [e1 20, e1 21] = [e 20, e 21]) ?_ (fun e h ⟨H, hq1⟩ => ?_)
  rotate_left
  · unfold i_WScript.j7 at H
    refine WPc_seq (fun e h => i_WScript.j8 (e 6) (e 7) (e 20) (e 21) (e 22) h K1 Q ∧ [e1 20, e1 21] = [e 20, e 21]) ?_ (fun e h ⟨H, hq1⟩ => ?_)
    rotate_left
    · unfold i_WScript.j8 at H
      refine W_region (by kernel_rfl) <| nP R_add H fun t70 H => nM t70 rfl <| vl_e ?_
      exact ⟨H, hq1⟩
    refine WPc_block <| sR <| nP (R_idx TE_121) H fun _ H => nLN TN_110 H fun _ H => vl_n <| H_alloc TV_110 H fun _ h H => vl_n <| H_storeN TS_110 H fun h H => vl_e <| sR <| nM (e 6) rfl <| nP (R_fld TF_110_1) H fun _ H => nL T1_3 H fun _ H => nM (e 6) rfl <| nP (R_len Try.underlying181) H fun _ H => vl_n <| H_call HB_97 H fun _ h H => ?_
    refine nP (R_idx TE_181) H fun _ H => nL T1_176 H fun t33 H => nS t33 rfl <| vl_e ?_
    refine WPc_seq (fun e h => i_WScript.j9 (e 6) (e 7) (e 9) (e 10) (e 20) (e 21) (e 22) h K1 Q ∧ [e1 20, e1 21] = [e 20, e 21]) ?_ (fun e h ⟨H, hq1⟩ => ?_)
    rotate_left
    · unfold i_WScript.j9 at H
      refine sR <| nM (e 10) rfl <| nLN TN_110 H fun _ H => vl_n <| H_call HB_112 H fun t57 h H => nM t57 rfl <| nP R_ext H fun _ H => nP R_ext H fun t59 H => nP R_ext H fun t60 H => vl_n <| H_alloc TV_105 H fun _ h H => vl_n <| H_storeN TS_105 H fun h H => nS t59 rfl <| nS t60 rfl <| vl_e <| W_drawn [0, 0, 0, 0, 8, 0, 62, 126, 255, 511] (.take 0 (.take 1 (.take 2 (.take 3 (.take 5 (.alt 4 (.take 6 (.alt 7 (.alt 8 (.take 9 .done) .none) .none)) .none)))))) mixed (by kernel_rfl) ?_
      refine pM (e 7) rfl rfl <| tkL rfl <| R_loadN TN_105 H fun _ _ hat62 _ H _ hSt62 => pM t59 rfl rfl <| pM (e 10) rfl rfl <| pM t60 rfl rfl <| aE rfl <| H_call HB_113 H fun _ h ⟨S, H⟩ => ⟨(hcons rfl (hSt62 _ (still_N S hat62 rfl)) hnil), pP rfl (R_build TB_107 rfl (by decide)) H fun _ H => aE rfl <| H_mkSl TZ_118 (by decide) rfl H rfl fun _ h H => ⟨(hskip rfl hnil), aE rfl <| H_app TZ_118 TU_118 H fun t69 h H => ⟨hnil, pS t69 rfl rfl <| vp_done ?_⟩⟩⟩
      exact ⟨H, hq1⟩
    refine sR <| nP (R_fld TF_110_0) H fun _ H => nL T1_3 H fun _ H => nP R_eqI H fun t36 H => nM t36 rfl ?_
    obtain ⟨b, hb, H1, H2⟩ := H
    cases b
    · have H := H2 rfl
      clear H1 H2
      refine vl_s rfl (nbT hb) ?_
      refine vl_s rfl (nbT hb) ?_
      refine nA (R_pickC (v := (.bool false)) false hb rfl) <| vl_e ?_
      refine WPc_cond (t := false) rfl (fun hh => by cases hh) (fun _ => ?_)
      refine sR <| nP (R_fld TF_110_0) H fun _ H => nL T1_3 H fun _ H => nP R_eqI H fun _ H => vl_e ?_
      refine cI H (fun H => ?_) fun H => ?_
      · refine W_region (by kernel_rfl) <| nM (e 6) rfl <| nM t33 rfl <| vl_n <| H_call HB_111 H fun _ h H => vl_n <| H_mkSl TZ_181 (by decide) rfl H rfl fun _ h H => vl_n <| H_app TZ_181 TU_181 H fun t53 h H => nS t53 rfl <| vl_e ?_
        exact ⟨H, hq1⟩
      · refine WPc_skip ?_
        exact ⟨H, hq1⟩
    · have H := H1 rfl
      clear H1 H2
      refine vl_y rfl hb ?_
      refine H_of_R (R_fld TF_110_4 H fun _ H => ?_)
      refine vl_y rfl hb ?_
      refine H_of_R (R_load1 T1_4 H fun _ t39 _ _ H => ?_)
      refine nA (R_pickC (v := t39) true hb rfl) <| vl_e ?_
      refine cI H (fun H => ?_) fun H => ?_
      · refine W_region (by kernel_rfl) <| nM (e 6) rfl <| nM t33 rfl <| vl_n <| H_call HB_110 H fun _ h H => vl_n <| H_mkSl TZ_181 (by decide) rfl H rfl fun _ h H => vl_n <| H_app TZ_181 TU_181 H fun t45 h H => nS t45 rfl <| vl_e ?_
        exact ⟨H, hq1⟩
      · refine sR <| nP (R_fld TF_110_0) H fun _ H => nL T1_3 H fun _ H => nP R_eqI H fun _ H => vl_e ?_
        refine cI H (fun H => ?_) fun H => ?_
        · refine W_region (by kernel_rfl) <| nM (e 6) rfl <| nM t33 rfl <| vl_n <| H_call HB_111 H fun _ h H => vl_n <| H_mkSl TZ_181 (by decide) rfl H rfl fun _ h H => vl_n <| H_app TZ_181 TU_181 H fun t53_2 h H => nS t53_2 rfl <| vl_e ?_
          exact ⟨H, hq1⟩
        · refine WPc_skip ?_
          exact ⟨H, hq1⟩
  refine cI H (fun H => ?_) fun H => ?_
  · refine WPc_skip ?_
    exact ⟨H, rfl⟩
  · refine WPc_exit ?_
    exact H
/-! ### spec.PlayedWords -/
def s_PlayedWords.sh (a0 a1 : Value) (h : Heap) (Q : Value → Heap → Prop) : Prop := lenV a0 fun b=>lenV a1 fun d=>cmpI (fun a b=>a != b) b d fun g=>buildV [(.slice none 0 0), (.bool false), (.bool false), (.slice none 0 0), (.slice none 0 0)] [(0, 1, a0), (2, 1, (.bool true)), (3, 1, a1), (1, 1, g)] fun i=>box 123 i h fun j h=>Q j h
theorem s_PlayedWords.body (a0 a1 : Value) (h : Heap) (Q : Value → Heap → Prop) (H : s_PlayedWords.sh a0 a1 h Q) : s_PlayedWords.call #[a0, a1] h Q := by
  refine callsH_of (args := [a0, a1]) Try.func65 rfl rfl ?_
  unfold s_PlayedWords.sh at H
  refine sR <| nS (.pointer none) rfl <| vl_e <| sR <| nM a0 rfl <| nM a1 rfl <| nM a0 rfl <| nP (R_len Try.underlying121) H fun _ H => nM a1 rfl <| nP (R_len Try.underlying118) H fun _ H => nP R_neI H fun _ H => nP (R_build TB_123 rfl (by decide)) H fun _ H => vl_n <| H_box H fun t13 h H => nS t13 rfl ?_
  exact vl_e <| WPc_ret <| resH_of rfl <| H
/-! ### slices.Equal[[]string,string] -/
def sl_Equal_ss.j2 (h : Heap) (Q : Value → Heap → Prop) : Prop := Q (.bool true) h
def sl_Equal_ss.j5 (s0 s1 s12 s13 : Value) (h : Heap) (K1 : List Value → Heap → Prop) (Q : Value → Heap → Prop) : Prop := arith (· + ·) s13 (.int .i64 1) fun b=>K1 [b] h
def sl_Equal_ss.j4 (s0 s1 s12 s13 : Value) (h : Heap) (K1 : List Value → Heap → Prop) (Q : Value → Heap → Prop) : Prop := idx 1 s0 s13 fun b=>load1 b h fun d=>idx 1 s1 s13 fun g=>load1 g h fun i=>cmpS (fun _ eq=>!eq) d i fun j=>ifV j (Q (.bool false) h) (sl_Equal_ss.j5 s0 s1 s12 s13 h K1 Q)
def sl_Equal_ss.l3.b (c0 c1 c12 s13 : Value) (h : Heap) (K1 : List Value → Heap → Prop) (Q : Value → Heap → Prop) : Prop := cmpI (fun a b=>decide (a < b)) s13 c12 fun b=>ifV b (sl_Equal_ss.j4 c0 c1 c12 s13 h K1 Q) (sl_Equal_ss.j2 h Q)
def sl_Equal_ss.j1 (s0 s1 : Value) (h : Heap) (Q : Value → Heap → Prop) : Prop := lenV s0 fun b=>loopC (fun c s h K1=>sl_Equal_ss.l3.b (c.getD 0 undef) (c.getD 1 undef) (c.getD 2 undef) (s.getD 0 undef) h K1 Q) [s0, s1, b] [(.int .i64 0)] h
def sl_Equal_ss.sh (a0 a1 : Value) (h : Heap) (Q : Value → Heap → Prop) : Prop := lenV a0 fun b=>lenV a1 fun d=>cmpI (fun a b=>a != b) b d fun g=>ifV g (Q (.bool false) h) (sl_Equal_ss.j1 a0 a1 h Q)
theorem sl_Equal_ss.body (a0 a1 : Value) (h : Heap) (Q : Value → Heap → Prop) (H : sl_Equal_ss.sh a0 a1 h Q) : sl_Equal_ss.call #[a0, a1] h Q := by
  refine callsH_of (args := [a0, a1]) Try.func66 rfl rfl ?_
  unfold sl_Equal_ss.sh at H
  refine sR <| nS (.bool false) rfl <| vl_e ?_
  refine WPc_seq (fun e h => sl_Equal_ss.j1 (e 0) (e 1) h Q) ?_ (fun e h H => ?_)
  rotate_left
  · unfold sl_Equal_ss.j1 at H
    refine WPc_seq (fun e h => sl_Equal_ss.j2 h Q) ?_ (fun e h H => ?_)
    rotate_left
    · unfold sl_Equal_ss.j2 at H
      exact sR <| nS (.bool true) rfl <| vl_e <| WPc_ret <| resH_of rfl <| H
    refine sR <| nM (e 0) rfl <| nP (R_len Try.underlying39) H fun _ H => nM (.int .i64 0) rfl <| vl_e <| WPc_block ?_
    refine loop_at (fun e => [e 13]) (fun e => [e 0, e 1, e 12]) H rfl rfl ?_
    intro K1 e1 h H hin1
    replace H : sl_Equal_ss.l3.b (e1 0) (e1 1) (e1 12) (e1 13) h K1 Q := H
    unfold sl_Equal_ss.l3.b at H
    clear hin1
    refine sR <| nP R_lss H fun _ H => vl_e ?_
    refine WPc_seq (fun e h => sl_Equal_ss.j4 (e 0) (e 1) (e 12) (e 13) h K1 Q ∧ [e1 0, e1 1, e1 12] = [e 0, e 1, e 12]) ?_ (fun e h ⟨H, hq1⟩ => ?_)
    rotate_left
    · unfold sl_Equal_ss.j4 at H
      refine WPc_seq (fun e h => sl_Equal_ss.j5 (e 0) (e 1) (e 12) (e 13) h K1 Q ∧ [e1 0, e1 1, e1 12] = [e 0, e 1, e 12]) ?_ (fun e h ⟨H, hq1⟩ => ?_)
      rotate_left
      · unfold sl_Equal_ss.j5 at H
        refine W_region (by kernel_rfl) <| nP R_add H fun t25 H => nM t25 rfl <| vl_e ?_
        exact ⟨H, hq1⟩
      refine WPc_block <| sR <| nM (e 13) rfl <| nS (e 13) rfl <| vl_e <| WPc_seq' <| W_drawn [0, 0, 3, 7, 0, 0, 48, 112, 255] (.take 0 (.take 1 (.take 2 (.take 3 (.take 4 (.take 5 (.take 6 (.take 7 (.take 8 .done))))))))) mixed (by kernel_rfl) <| pM (e 0) rfl rfl <| pM (e 13) rfl rfl <| pP rfl (R_idx TE_39) H fun _ H => pL rfl T1_9 H fun _ _ _ H => pM (e 1) rfl rfl <| pM (e 13) rfl rfl <| pP rfl (R_idx TE_39) H fun _ H => ?_
      refine pL rfl T1_9 H fun _ _ _ H => pP rfl R_neS H fun _ H => vp_done ?_
      refine cI H (fun H => ?_) fun H => ?_
      · exact sR <| nS (.bool false) rfl <| vl_e <| WPc_ret <| resH_of rfl <| H
      · refine WPc_skip ?_
        exact ⟨H, hq1⟩
    refine cI H (fun H => ?_) fun H => ?_
    · refine WPc_skip ?_
      exact ⟨H, rfl⟩
    · refine WPc_exit ?_
      exact H
  refine sR <| nM a0 rfl <| nP (R_len Try.underlying39) H fun _ H => nM a1 rfl <| nP (R_len Try.underlying39) H fun _ H => nP R_neI H fun _ H => vl_e ?_
  refine cI H (fun H => ?_) fun H => ?_
  · exact sR <| nS (.bool false) rfl <| vl_e <| WPc_ret <| resH_of rfl <| H
  · exact WPc_skip <| H
/-! ### laws.onW -/
def l_onW.sh (a0 a1 a2 : Value) (h : Heap) (Q : Value → Heap → Prop) : Prop := s_RecordedWords.call #[] h fun b h=>callV Try.prog a1 #[b] h fun d h=>nilck b fun g=>fld 0 g fun i=>load1 i h fun j=>i_WScript.call #[a0, j] h fun k h=>extr 0 k fun l=>extr 1 k fun m=>nilck b fun n=>fld 0 n fun o=>load1 o h fun p=>s_PlayedWords.call #[p, l] h fun q h=>callV Try.prog a1 #[q] h fun u h=>nilck q fun v=>fld 1 v fun w=>load1 w h fun x=>notV x fun y=>br y true (sl_Equal_ss.call #[u, a2] h fun z h=>Q z h) (Q (.bool false) h)
theorem l_onW.body (a0 a1 a2 : Value) (h : Heap) (Q : Value → Heap → Prop) (H : l_onW.sh a0 a1 a2 h Q) : l_onW.call #[a0, a1, a2] h Q := by
  refine callsH_of (args := [a0, a1, a2]) Try.func23 rfl rfl ?_
  unfold l_onW.sh at H
  refine sR <| nS (.bool false) rfl <| vl_e <| sR <| vl_n <| H_call HB_63 H fun t12 h H => nS t12 rfl <| vl_e <| sR <| nM a1 rfl <| nM t12 rfl <| vl_n <| H_callV H fun _ h H => vl_e <| sR <| nM a0 rfl ?_
  refine nM t12 rfl <| nP R_nil H fun _ H => nP (R_fld TF_123_0) H fun _ H => nL T1_121 H fun _ H => vl_n <| H_call HB_64 H fun t22 h H => nM t22 rfl <| nP R_ext H fun t23 H => nP R_ext H fun t24 H => nS t23 rfl <| nS t24 rfl <| vl_e <| sR <| nM t12 rfl <| nP R_nil H fun _ H => ?_
  refine nP (R_fld TF_123_0) H fun _ H => nL T1_121 H fun _ H => nM t23 rfl <| vl_n <| H_call HB_65 H fun t30 h H => nS t30 rfl <| vl_e <| sR <| nM a1 rfl <| nM t30 rfl <| vl_n <| H_callV H fun t33 h H => nS t33 rfl <| vl_e <| sR <| nM t30 rfl ?_
  refine nP R_nil H fun _ H => nP (R_fld TF_123_1) H fun _ H => nL T1_4 H fun _ H => nP R_not H fun t38 H => nM t38 rfl ?_
  obtain ⟨b, hb, H1, H2⟩ := H
  cases b
  · have H := H2 rfl
    clear H1 H2
    refine vl_s rfl (nbT hb) ?_
    refine vl_s rfl (nbT hb) ?_
    refine vl_s rfl (nbT hb) ?_
    exact nA (R_pickC (v := (.bool false)) false hb rfl) <| nS (.bool false) rfl <| vl_e <| WPc_ret <| resH_of rfl <| H
  · have H := H1 rfl
    clear H1 H2
    refine vl_y rfl hb ?_
    refine H_of_R (R_move (v := t33) rfl ?_)
    refine vl_y rfl hb ?_
    refine H_of_R (R_move (v := a2) rfl ?_)
    refine vl_y rfl hb ?_
    refine H_call HB_66 H fun t42 h H => ?_
    exact nA (R_pickC (v := t42) true hb rfl) <| nS t42 rfl <| vl_e <| WPc_ret <| resH_of rfl <| H

end Go.Proofs.Ytdpkpcmoabfofaa
end
section
namespace Go.Proofs.Ytdpkpcmoabfofaa
open Go.Hp
set_option maxRecDepth 100000
set_option maxHeartbeats 8000000
set_option linter.unusedVariables false
set_option linter.unusedSimpArgs false

/-! ### laws.FnWRoutes -/
def l_FnWRoutes.j3 (s0 s7 s8 : Value) (h : Heap) (Q : Value → Heap → Prop) : Prop := l_onW.call #[s0, s7, s8] h fun b h=>br b true (l_aliveW.call #[] h fun d h=>Q d h) (Q (.bool false) h)
def l_FnWRoutes.j6 (s0 s4 s7 s8 s34 s35 s36 : Value) (h : Heap) (K1 : List Value → Heap → Prop) (Q : Value → Heap → Prop) : Prop := arith (· + ·) s36 (.int .i64 1) fun b=>K1 [s8, b] h
def l_FnWRoutes.j5 (s0 s4 s7 s8 s34 s35 s36 : Value) (h : Heap) (K1 : List Value → Heap → Prop) (Q : Value → Heap → Prop) : Prop := idx 1 s34 s36 fun b=>load1 b h fun d=>load1 s4 h fun g=>s_Routed.call #[g, d] h fun i h=>s_Number.call #[i] h fun j h=>mkSl (if 1 * 1 = 0 then [] else zeros [(.string ⟨#[]⟩)] 1) 1 [(0 * 1, 1, j)] 9 h fun k h=>app 9 1 16 [(.string ⟨#[]⟩)] s8 k h fun l h=>l_FnWRoutes.j6 s0 s4 s7 l s34 s35 s36 h K1 Q
def l_FnWRoutes.l4.b (c0 c4 c7 c34 c35 s8 s36 : Value) (h : Heap) (K1 : List Value → Heap → Prop) (Q : Value → Heap → Prop) : Prop := cmpI (fun a b=>decide (a < b)) s36 c35 fun b=>ifV b (l_FnWRoutes.j5 c0 c4 c7 s8 c34 c35 s36 h K1 Q) (l_FnWRoutes.j3 c0 c7 s8 h Q)
def l_FnWRoutes.j2 (s0 s4 s5 : Value) (h : Heap) (Q : Value → Heap → Prop) : Prop := load1 s5 h fun b=>lenV b fun d=>loopC (fun c s h K1=>l_FnWRoutes.l4.b (c.getD 0 undef) (c.getD 1 undef) (c.getD 2 undef) (c.getD 3 undef) (c.getD 4 undef) (s.getD 0 undef) (s.getD 1 undef) h K1 Q) [s0, s4, (.func (.func 16) #[] #[s4, s5]), b, d] [(.slice none 0 0), (.int .i64 0)] h
def l_FnWRoutes.j1 (s0 s4 s5 : Value) (h : Heap) (Q : Value → Heap → Prop) : Prop := l_fit.call #[s0] h fun b h=>notV b fun d=>br d false (load1 s4 h fun g=>lenV g fun i=>cmpI (fun a b=>decide (a > b)) i (.int .i64 300) fun j=>br j false (load1 s5 h fun k=>lenV k fun l=>cmpI (fun a b=>decide (a > b)) l (.int .i64 100) fun m=>ifV m (l_aliveW.call #[] h fun n h=>Q n h) (l_FnWRoutes.j2 s0 s4 s5 h Q)) (l_aliveW.call #[] h fun o h=>Q o h)) (l_aliveW.call #[] h fun p h=>Q p h)
def l_FnWRoutes.sh (a0 a1 a2 : Value) (h : Heap) (Q : Value → Heap → Prop) : Prop := box 35 a1 h fun b h=>box 36 a2 h fun d h=>load1 b h fun g=>lenV g fun i=>cmpI (fun a b=>decide (a > b)) i (.int .i64 2147483647) fun j=>br j false (load1 d h fun k=>lenV k fun l=>cmpI (fun a b=>decide (a > b)) l (.int .i64 2147483647) fun m=>ifV m (Q (.bool true) h) (l_FnWRoutes.j1 a0 b d h Q)) (Q (.bool true) h)
theorem l_FnWRoutes.body (a0 a1 a2 : Value) (h : Heap) (Q : Value → Heap → Prop) (H : l_FnWRoutes.sh a0 a1 a2 h Q) : l_FnWRoutes.call #[a0, a1, a2] h Q := by
  refine callsH_of (args := [a0, a1, a2]) Try.func4 rfl rfl ?_
  unfold l_FnWRoutes.sh at H
  refine sR <| vl_n <| H_box H fun _ h H => vl_n <| H_box H fun _ h H => nS (.bool false) rfl <| vl_e ?_
  refine WPc_seq (fun e h => l_FnWRoutes.j1 (e 0) (e 4) (e 5) h Q) ?_ (fun e h H => ?_)
  rotate_left
  · unfold l_FnWRoutes.j1 at H
    refine WPc_seq (fun e h => l_FnWRoutes.j2 (e 0) (e 4) (e 5) h Q) ?_ (fun e h H => ?_)
    rotate_left
    · unfold l_FnWRoutes.j2 at H
      refine sR <| nA (R_mkFn (v := (.func (.func 16) #[] #[(e 4), (e 5)])) rfl) <| nS (.func (.func 16) #[] #[(e 4), (e 5)]) rfl <| vl_e <| sR <| nS (.slice none 0 0) rfl <| vl_e ?_
      refine WPc_seq (fun e h => l_FnWRoutes.j3 (e 0) (e 7) (e 8) h Q) ?_ (fun e h H => ?_)
      rotate_left
      · unfold l_FnWRoutes.j3 at H
        refine sR <| nM (e 0) rfl <| nM (e 7) rfl <| nM (e 8) rfl <| vl_n <| H_call HB_23 H fun t51 h H => nM t51 rfl ?_
        obtain ⟨b, hb, H1, H2⟩ := H
        cases b
        · have H := H2 rfl
          clear H1 H2
          refine vl_s rfl (nbT hb) ?_
          exact nA (R_pickC (v := (.bool false)) false hb rfl) <| nS (.bool false) rfl <| vl_e <| WPc_ret <| resH_of rfl <| H
        · have H := H1 rfl
          clear H1 H2
          refine vl_y rfl hb ?_
          refine H_call HB_15 H fun t53 h H => ?_
          exact nA (R_pickC (v := t53) true hb rfl) <| nS t53 rfl <| vl_e <| WPc_ret <| resH_of rfl <| H
      refine sR <| nL T1_36 H fun _ H => nP (R_len Try.underlying36) H fun _ H => nM (.int .i64 0) rfl <| vl_e <| WPc_block ?_
      refine loop_at (fun e => [e 8, e 36]) (fun e => [e 0, e 4, e 7, e 34, e 35]) H rfl rfl ?_
      intro K1 e1 h H hin1
      replace H : l_FnWRoutes.l4.b (e1 0) (e1 4) (e1 7) (e1 34) (e1 35) (e1 8) (e1 36) h K1 Q := H
      unfold l_FnWRoutes.l4.b at H
      clear hin1
      refine sR <| nP R_lss H fun _ H => vl_e ?_
      refine WPc_seq (fun e h => l_FnWRoutes.j5 (e 0) (e 4) (e 7) (e 8) (e 34) (e 35) (e 36) h K1 Q ∧ [e1 0, e1 4, e1 7, e1 34, e1 35] = [e 0, e 4, e 7, e 34, e 35]) ?_ (fun e h ⟨H, hq1⟩ => ?_)
      rotate_left
      · unfold l_FnWRoutes.j5 at H
        refine WPc_seq (fun e h => l_FnWRoutes.j6 (e 0) (e 4) (e 7) (e 8) (e 34) (e 35) (e 36) h K1 Q ∧ [e1 0, e1 4, e1 7, e1 34, e1 35] = [e 0, e 4, e 7, e 34, e 35]) ?_ (fun e h ⟨H, hq1⟩ => ?_)
        rotate_left
        · unfold l_FnWRoutes.j6 at H
          refine W_region (by kernel_rfl) <| nP R_add H fun t47 H => nM t47 rfl <| vl_e ?_
          exact ⟨H, hq1⟩
        refine WPc_block <| sR <| nP (R_idx TE_36) H fun _ H => nL T1_40 H fun t39 H => nS t39 rfl <| vl_e <| W_region (by kernel_rfl) <| nM (e 8) rfl <| nL T1_35 H fun _ H => nM t39 rfl <| vl_n <| H_call HB_22 H fun _ h H => vl_n <| H_call HB_21 H fun _ h H => vl_n <| H_mkSl TZ_39 (by decide) rfl H rfl fun _ h H => vl_n <| H_app TZ_39 TU_39 H fun t46 h H => ?_
        refine nS t46 rfl <| vl_e ?_
        exact ⟨H, hq1⟩
      refine cI H (fun H => ?_) fun H => ?_
      · refine WPc_skip ?_
        exact ⟨H, rfl⟩
      · refine WPc_exit ?_
        exact H
    refine sR <| nM (e 0) rfl <| vl_n <| H_call HB_14 H fun _ h H => nP R_not H fun t21 H => nM t21 rfl ?_
    obtain ⟨b, hb, H1, H2⟩ := H
    cases b
    · have H := H1 rfl
      clear H1 H2
      refine vl_y rfl hb ?_
      refine H_of_R (R_load1 T1_35 H fun _ _ _ _ H => ?_)
      refine vl_y rfl hb ?_
      refine H_of_R (R_len Try.underlying35 H fun _ H => ?_)
      refine vl_y rfl hb ?_
      refine H_of_R (R_gtr H fun t25 H => ?_)
      refine nA (R_pickC (v := t25) false hb rfl) <| nM t25 rfl ?_
      obtain ⟨b_2, hb_2, H1, H2⟩ := H
      cases b_2
      · have H := H1 rfl
        clear H1 H2
        refine vl_y rfl hb_2 ?_
        refine H_of_R (R_load1 T1_36 H fun _ _ _ _ H => ?_)
        refine vl_y rfl hb_2 ?_
        refine H_of_R (R_len Try.underlying36 H fun _ H => ?_)
        refine vl_y rfl hb_2 ?_
        refine H_of_R (R_gtr H fun t30 H => ?_)
        refine nA (R_pickC (v := t30) false hb_2 rfl) <| vl_e ?_
        refine cI H (fun H => ?_) fun H => ?_
        · exact sR <| vl_n <| H_call HB_15 H fun t32 h H => nS t32 rfl <| vl_e <| WPc_ret <| resH_of rfl <| H
        · exact WPc_skip <| H
      · have H := H2 rfl
        clear H1 H2
        refine vl_s rfl (nbF hb_2) ?_
        refine vl_s rfl (nbF hb_2) ?_
        refine vl_s rfl (nbF hb_2) ?_
        refine nA (R_pickC (v := (.bool true)) true hb_2 rfl) <| vl_e ?_
        refine WPc_cond (t := true) rfl (fun _ => ?_) (fun hh => by cases hh)
        exact sR <| vl_n <| H_call HB_15 H fun t32_2 h H => nS t32_2 rfl <| vl_e <| WPc_ret <| resH_of rfl <| H
    · have H := H2 rfl
      clear H1 H2
      refine vl_s rfl (nbF hb) ?_
      refine vl_s rfl (nbF hb) ?_
      refine vl_s rfl (nbF hb) ?_
      refine nA (R_pickC (v := (.bool true)) true hb rfl) <| nM (.bool true) rfl ?_
      refine vl_s rfl (nbF rfl) ?_
      refine vl_s rfl (nbF rfl) ?_
      refine vl_s rfl (nbF rfl) ?_
      refine nA (R_pickC (v := (.bool true)) true rfl rfl) <| vl_e ?_
      refine WPc_cond (t := true) rfl (fun _ => ?_) (fun hh => by cases hh)
      exact sR <| vl_n <| H_call HB_15 H fun t32_3 h H => nS t32_3 rfl <| vl_e <| WPc_ret <| resH_of rfl <| H
  refine sR <| nL T1_35 H fun _ H => nP (R_len Try.underlying35) H fun _ H => nP R_gtr H fun t13 H => nM t13 rfl ?_
  obtain ⟨b, hb, H1, H2⟩ := H
  cases b
  · have H := H1 rfl
    clear H1 H2
    refine vl_y rfl hb ?_
    refine H_of_R (R_load1 T1_36 H fun _ _ _ _ H => ?_)
    refine vl_y rfl hb ?_
    refine H_of_R (R_len Try.underlying36 H fun _ H => ?_)
    refine vl_y rfl hb ?_
    refine H_of_R (R_gtr H fun t17 H => ?_)
    refine nA (R_pickC (v := t17) false hb rfl) <| vl_e ?_
    refine cI H (fun H => ?_) fun H => ?_
    · exact sR <| nS (.bool true) rfl <| vl_e <| WPc_ret <| resH_of rfl <| H
    · exact WPc_skip <| H
  · have H := H2 rfl
    clear H1 H2
    refine vl_s rfl (nbF hb) ?_
    refine vl_s rfl (nbF hb) ?_
    refine vl_s rfl (nbF hb) ?_
    refine nA (R_pickC (v := (.bool true)) true hb rfl) <| vl_e ?_
    refine WPc_cond (t := true) rfl (fun _ => ?_) (fun hh => by cases hh)
    exact sR <| nS (.bool true) rfl <| vl_e <| WPc_ret <| resH_of rfl <| H
end Go.Proofs.Ytdpkpcmoabfofaa
end
section
namespace Go.Proofs.Ytdpkpcmoabfofaa
open Go.Hp
set_option maxRecDepth 100000
set_option maxHeartbeats 8000000
set_option linter.unusedVariables false
set_option linter.unusedSimpArgs false

/-! ### impl.remainder -/
def i_remainder.sh (a0 a1 : Value) (h : Heap) (Q : Value → Heap → Prop) : Prop := remi a0 a1 fun b=>arith (· + ·) b a1 fun d=>remi d a1 fun g=>Q g h
theorem i_remainder.body (a0 a1 : Value) (h : Heap) (Q : Value → Heap → Prop) (H : i_remainder.sh a0 a1 h Q) : i_remainder.call #[a0, a1] h Q := by
  refine callsH_of (args := [a0, a1]) Try.func97 rfl rfl ?_
  unfold i_remainder.sh at H
  refine sR <| nS (.int .i64 0) rfl <| vl_e <| sR <| nM a0 rfl <| nM a1 rfl <| nP R_rem H fun _ H => nM a1 rfl <| nP R_add H fun _ H => nM a1 rfl <| nP R_rem H fun t11 H => nS t11 rfl <| vl_e <| WPc_ret ?_
  exact resH_of rfl <| H
end Go.Proofs.Ytdpkpcmoabfofaa
end
section
namespace Go.Proofs.Ytdpkpcmoabfofaa
open Go.Hp
set_option maxRecDepth 100000
set_option maxHeartbeats 8000000
set_option linter.unusedVariables false
set_option linter.unusedSimpArgs false

/-! ### (*pub/tidwallbtree.Map[string, int]).init -/
def Map_si_init.j1 (s0 s1 : Value) (h : Heap) (Q : Value → Heap → Prop) : Prop := degreeToMinMax.call #[s1] h fun b h=>extr 0 b fun d=>extr 1 b fun g=>nilck s0 fun i=>fld 6 i fun j=>store1 j d h fun h=>nilck s0 fun k=>fld 7 k fun l=>store1 l g h fun h=>nilck s0 fun m=>fld 4 m fun n=>fld 0 n fun o=>load1 o h fun p=>extr 0 (.tuple #[.nilIface, .bool false]) fun q=>extr 1 (.tuple #[.nilIface, .bool false]) fun u=>nilck s0 fun v=>fld 8 v fun w=>store1 w u h fun h=>nilck s0 fun x=>fld 8 x fun y=>load1 y h fun z=>notV z fun b0=>ifV b0 (nilck s0 fun b1=>fld 4 b1 fun b2=>fld 0 b2 fun b3=>load1 b3 h fun b4=>extr 0 (.tuple #[.nilIface, .bool false]) fun b5=>extr 1 (.tuple #[.nilIface, .bool false]) fun b6=>nilck s0 fun b7=>fld 9 b7 fun b8=>store1 b8 b6 h fun h=>Q (.tuple #[]) h) (Q (.tuple #[]) h)
def Map_si_init.sh (a0 a1 : Value) (h : Heap) (Q : Value → Heap → Prop) : Prop := nilck a0 fun b=>fld 6 b fun d=>load1 d h fun g=>cmpI (fun a b=>a != b) g (.int .i64 0) fun i=>ifV i (Q (.tuple #[]) h) (Map_si_init.j1 a0 a1 h Q)
theorem Map_si_init.body (a0 a1 : Value) (h : Heap) (Q : Value → Heap → Prop) (H : Map_si_init.sh a0 a1 h Q) : Map_si_init.call #[a0, a1] h Q := by
  refine callsH_of (args := [a0, a1]) Try.func199 rfl rfl ?_
  unfold Map_si_init.sh at H
  refine WPc_seq (fun e h => Map_si_init.j1 (e 0) (e 1) h Q) ?_ (fun e h H => ?_)
  rotate_left
  · unfold Map_si_init.j1 at H
    refine sR <| nM (e 0) rfl <| nM (e 0) rfl <| nM (e 1) rfl <| vl_n <| H_call HB_230 H fun t13 h H => nM t13 rfl <| nP R_ext H fun _ H => nP R_ext H fun _ H => nP R_nil H fun _ H => nP (R_fld TF_225_5) H fun _ H => vl_n <| H_store1 TS_3 H fun h H => nP R_nil H fun _ H => nP (R_fld TF_225_6) H fun _ H => vl_n <| H_store1 TS_3 H fun h H => ?_
    refine vl_e <| sR <| nM (e 0) rfl <| nM (e 0) rfl <| nP R_nil H fun _ H => nP (R_fld TF_225_4) H fun _ H => nP (R_fld TF_223_0) H fun _ H => nL T1_3 H fun _ H => nA (R_mkI Try.underlying3 (by intro k hk; cases hk)) <| nA (R_ta (t := 3) Try.underlying312 Try.type3 (missing_some rfl) Try.type312 rfl rfl) <| nM (.tuple #[.nilIface, .bool false]) rfl <| nP R_ext H fun _ H => nP R_ext H fun _ H => nP R_nil H fun _ H => ?_
    refine nP (R_fld TF_225_7) H fun _ H => vl_n <| H_store1 TS_4 H fun h H => vl_e <| sR <| nM (e 0) rfl <| nP R_nil H fun _ H => nP (R_fld TF_225_7) H fun _ H => nL T1_4 H fun _ H => nP R_not H fun _ H => vl_e ?_
    refine cI H (fun H => ?_) fun H => ?_
    · refine W_region (by kernel_rfl) <| nM (e 0) rfl <| nM (e 0) rfl <| nP R_nil H fun _ H => nP (R_fld TF_225_4) H fun _ H => nP (R_fld TF_223_0) H fun _ H => nL T1_3 H fun _ H => nA (R_mkI Try.underlying3 (by intro k hk; cases hk)) <| nA (R_ta (t := 3) Try.underlying315 Try.type3 (missing_some rfl) Try.type315 rfl rfl) <| nM (.tuple #[.nilIface, .bool false]) rfl <| nP R_ext H fun _ H => nP R_ext H fun _ H => nP R_nil H fun _ H => nP (R_fld TF_225_8) H fun _ H => ?_
      exact vl_n <| H_store1 TS_4 H fun h H => vl_e <| resH_of rfl <| H
    · exact WPc_skip <| resH_of rfl <| H
  refine sR <| nM a0 rfl <| nP R_nil H fun _ H => nP (R_fld TF_225_5) H fun _ H => nL T1_3 H fun _ H => nP R_neI H fun _ H => vl_e ?_
  refine cI H (fun H => ?_) fun H => ?_
  · exact WPc_ret <| resH_of rfl <| H
  · exact WPc_skip <| H
/-! ### pub/tidwallbtree.NewMap[string,int] -/
def NewMap_si.sh (a0 : Value) (h : Heap) (Q : Value → Heap → Prop) : Prop := alloc [(.int .u64 0), (.pointer none), (.pointer none), (.int .i64 0), (.int .i64 0), (.string ⟨#[]⟩), (.int .i64 0), (.int .i64 0), (.bool false), (.bool false)] 225 h fun b h=>Map_si_init.call #[b, a0] h fun d h=>Q b h
theorem NewMap_si.body (a0 : Value) (h : Heap) (Q : Value → Heap → Prop) (H : NewMap_si.sh a0 h Q) : NewMap_si.call #[a0] h Q := by
  refine callsH_of (args := [a0]) Try.func155 rfl rfl ?_
  unfold NewMap_si.sh at H
  refine sR <| nS (.pointer none) rfl <| vl_e <| sR <| vl_n <| H_alloc TV_225 H fun t4 h H => nS t4 rfl <| vl_e <| sR <| nM t4 rfl <| nM a0 rfl <| vl_n <| H_call HB_199 H fun _ h H => vl_e <| sR <| nM t4 rfl ?_
  exact nS t4 rfl <| vl_e <| WPc_ret <| resH_of rfl <| H
/-! ### (*pub/tidwallbtree.Map[string, int]).newNode -/
def Map_si_newNode.j1 (s5 : Value) (h : Heap) (Q : Value → Heap → Prop) : Prop := Q s5 h
def Map_si_newNode.sh (a0 a1 : Value) (h : Heap) (Q : Value → Heap → Prop) : Prop := alloc [(.int .u64 0), (.int .i64 0), (.slice none 0 0), (.pointer none)] 285 h fun b h=>nilck a0 fun d=>fld 0 d fun g=>load1 g h fun i=>nilck b fun j=>fld 0 j fun k=>store1 k i h fun h=>notV a1 fun l=>ifV l (alloc [(.slice none 0 0)] 290 h fun m h=>nilck b fun n=>fld 3 n fun o=>store1 o m h fun h=>Map_si_newNode.j1 b h Q) (Map_si_newNode.j1 b h Q)
theorem Map_si_newNode.body (a0 a1 : Value) (h : Heap) (Q : Value → Heap → Prop) (H : Map_si_newNode.sh a0 a1 h Q) : Map_si_newNode.call #[a0, a1] h Q := by
  refine callsH_of (args := [a0, a1]) Try.func200 rfl rfl ?_
  unfold Map_si_newNode.sh at H
  refine sR <| nS (.pointer none) rfl <| vl_e <| sR <| vl_n <| H_alloc TV_285 H fun t6 h H => nS t6 rfl <| vl_e <| sR <| nM t6 rfl <| nM a0 rfl <| nP R_nil H fun _ H => nP (R_fld TF_225_0) H fun _ H => nL T1_115 H fun _ H => nP R_nil H fun _ H => ?_
  refine nP (R_fld TF_285_0) H fun _ H => vl_n <| H_store1 TS_115 H fun h H => vl_e ?_
  refine WPc_seq (fun e h => Map_si_newNode.j1 (e 5) h Q) ?_ (fun e h H => ?_)
  rotate_left
  · unfold Map_si_newNode.j1 at H
    exact sR <| nM (e 5) rfl <| nS (e 5) rfl <| vl_e <| WPc_ret <| resH_of rfl <| H
  refine sR <| nM a1 rfl <| nP R_not H fun _ H => vl_e ?_
  refine cI H (fun H => ?_) fun H => ?_
  · exact W_region (by kernel_rfl) <| nM t6 rfl <| vl_n <| H_alloc TV_290 H fun _ h H => nP R_nil H fun _ H => nP (R_fld TF_285_3) H fun _ H => vl_n <| H_store1 TS_283 H fun h H => vl_e <| H
  · exact WPc_skip <| H
/-! ### (*pub/tidwallbtree.mapNode[string, int]).leaf -/
def mapNode_si_leaf.sh (a0 : Value) (h : Heap) (Q : Value → Heap → Prop) : Prop := nilck a0 fun b=>fld 3 b fun d=>load1 d h fun g=>eqNilP g fun i=>Q i h
theorem mapNode_si_leaf.body (a0 : Value) (h : Heap) (Q : Value → Heap → Prop) (H : mapNode_si_leaf.sh a0 h Q) : mapNode_si_leaf.call #[a0] h Q := by
  refine callsH_of (args := [a0]) Try.func204 rfl rfl ?_
  unfold mapNode_si_leaf.sh at H
  exact sR <| nS (.bool false) rfl <| vl_e <| sR <| nM a0 rfl <| nP R_nil H fun _ H => nP (R_fld TF_285_3) H fun _ H => nL T1_283 H fun _ H => nP (R_eqNilP Try.underlying283 rfl) H fun t7 H => nS t7 rfl <| vl_e <| WPc_ret <| resH_of rfl <| H
/-! ### (*pub/tidwallbtree.mapNode[string, int]).updateCount -/
def mapNode_si_updateCount.j3 (s0 s2 : Value) (h : Heap) (K1 : List Value → Heap → Prop) (Q : Value → Heap → Prop) : Prop := arith (· + ·) s2 (.int .i64 1) fun b=>K1 [b] h
def mapNode_si_updateCount.j2 (s0 s2 : Value) (h : Heap) (K1 : List Value → Heap → Prop) (Q : Value → Heap → Prop) : Prop := nilck s0 fun b=>fld 1 b fun d=>load1 d h fun g=>nilck s0 fun i=>fld 3 i fun j=>load1 j h fun k=>nilck k fun l=>load1 l h fun m=>idx 1 m s2 fun n=>load1 n h fun o=>nilck o fun p=>fld 1 p fun q=>load1 q h fun u=>arith (· + ·) g u fun v=>nilck s0 fun w=>fld 1 w fun x=>store1 x v h fun h=>mapNode_si_updateCount.j3 s0 s2 h K1 Q
def mapNode_si_updateCount.l1.b (c0 s2 : Value) (h : Heap) (K1 : List Value → Heap → Prop) (Q : Value → Heap → Prop) : Prop := nilck c0 fun b=>fld 3 b fun d=>load1 d h fun g=>nilck g fun i=>load1 i h fun j=>lenV j fun k=>cmpI (fun a b=>decide (a < b)) s2 k fun l=>ifV l (mapNode_si_updateCount.j2 c0 s2 h K1 Q) (Q (.tuple #[]) h)
def mapNode_si_updateCount.sh (a0 : Value) (h : Heap) (Q : Value → Heap → Prop) : Prop := nilck a0 fun b=>fld 2 b fun d=>load1 d h fun g=>lenV g fun i=>nilck a0 fun j=>fld 1 j fun k=>store1 k i h fun h=>mapNode_si_leaf.call #[a0] h fun l h=>notV l fun m=>ifV m (loopC (fun c s h K1=>mapNode_si_updateCount.l1.b (c.getD 0 undef) (s.getD 0 undef) h K1 Q) [a0] [(.int .i64 0)] h) (Q (.tuple #[]) h)
theorem mapNode_si_updateCount.body (a0 : Value) (h : Heap) (Q : Value → Heap → Prop) (H : mapNode_si_updateCount.sh a0 h Q) : mapNode_si_updateCount.call #[a0] h Q := by
  refine callsH_of (args := [a0]) Try.func203 rfl rfl ?_
  unfold mapNode_si_updateCount.sh at H
  refine sR <| nM a0 rfl <| nM a0 rfl <| nP R_nil H fun _ H => nP (R_fld TF_285_2) H fun _ H => nL T1_282 H fun _ H => nP (R_len Try.underlying282) H fun _ H => nP R_nil H fun _ H => nP (R_fld TF_285_1) H fun _ H => vl_n <| H_store1 TS_3 H fun h H => vl_e <| sR <| nM a0 rfl <| vl_n <| H_call HB_204 H fun _ h H => ?_
  refine nP R_not H fun _ H => vl_e ?_
  refine cI H (fun H => ?_) fun H => ?_
  · refine sR <| nS (.int .i64 0) rfl <| vl_e <| WPc_block ?_
    refine loop_at (fun e => [e 2]) (fun e => [e 0]) H rfl rfl ?_
    intro K1 e1 h H hin1
    replace H : mapNode_si_updateCount.l1.b (e1 0) (e1 2) h K1 Q := H
    unfold mapNode_si_updateCount.l1.b at H
    clear hin1
    refine WPc_seq (fun e h => mapNode_si_updateCount.j2 (e 0) (e 2) h K1 Q ∧ [e1 0] = [e 0]) ?_ (fun e h ⟨H, hq1⟩ => ?_)
    rotate_left
    · unfold mapNode_si_updateCount.j2 at H
      refine WPc_seq (fun e h => mapNode_si_updateCount.j3 (e 0) (e 2) h K1 Q ∧ [e1 0] = [e 0]) ?_ (fun e h ⟨H, hq1⟩ => ?_)
      rotate_left
      · unfold mapNode_si_updateCount.j3 at H
        refine W_region (by kernel_rfl) <| nM (e 2) rfl <| nP R_add H fun t24 H => nS t24 rfl <| vl_e ?_
        exact ⟨H, hq1⟩
      refine WPc_block <| W_drawn [0, 1, 3, 7, 0, 16, 48, 112, 240, 496, 0, 2032, 4080, 8176, 16368, 32752, 65535, 131071, 262143, 524287] (.take 0 (.take 1 (.take 2 (.take 3 (.take 4 (.take 5 (.take 6 (.take 7 (.take 8 (.take 9 (.take 10 (.take 11 (.take 12 (.take 13 (.take 14 (.take 15 (.take 16 (.take 17 (.take 18 (.alt 19 .done .none)))))))))))))))))))) mixed (by kernel_rfl) <| pM (e 0) rfl rfl <| pP rfl R_nil H fun _ H => pP rfl (R_fld TF_285_1) H fun _ H => pL rfl T1_3 H fun _ _ _ H => pM (e 0) rfl rfl <| pP rfl R_nil H fun _ H => pP rfl (R_fld TF_285_3) H fun _ H => pL rfl T1_283 H fun _ _ _ H => pP rfl R_nil H fun _ H => pL rfl T1_290 H fun _ _ _ H => pM (e 2) rfl rfl <| pP rfl (R_idx TE_290) H fun _ H => ?_
      refine pL rfl T1_221 H fun _ _ _ H => pP rfl R_nil H fun _ H => pP rfl (R_fld TF_285_1) H fun _ H => pL rfl T1_3 H fun _ _ _ H => pP rfl R_add H fun _ H => pP rfl R_nil H fun _ H => pP rfl (R_fld TF_285_1) H fun _ H => aE rfl <| H_store1 TS_3 H fun h H => ⟨(hskip rfl (hskip rfl (hskip rfl (hskip rfl (hskip rfl hnil))))), vp_done ?_⟩
      exact ⟨H, hq1⟩
    refine sR <| nM (e1 2) rfl <| nM (e1 0) rfl <| nP R_nil H fun _ H => nP (R_fld TF_285_3) H fun _ H => nL T1_283 H fun _ H => nP R_nil H fun _ H => nL T1_290 H fun _ H => nP (R_len Try.underlying290) H fun _ H => nP R_lss H fun _ H => vl_e ?_
    refine cI H (fun H => ?_) fun H => ?_
    · refine WPc_skip ?_
      exact ⟨H, rfl⟩
    · refine WPc_exit ?_
      exact resH_of rfl <| H
  · exact WPc_skip <| resH_of rfl <| H
/-! ### (*pub/tidwallbtree.Map[string, int]).nodeSplit -/
def Map_si_nodeSplit.j2 (s1 s4 s5 : Value) (h : Heap) (Q : Value → Heap → Prop) : Prop := mapNode_si_updateCount.call #[s1] h fun b h=>loadN 2 s5 h fun d=>storeN 2 s5 d h fun h=>loadN 2 s5 h fun g=>Q (.tuple #[s4, g]) h
def Map_si_nodeSplit.j1 (s0 s1 s4 s5 s6 : Value) (h : Heap) (Q : Value → Heap → Prop) : Prop := mapNode_si_updateCount.call #[s4] h fun b h=>nilck s1 fun d=>fld 2 d fun g=>load1 g h fun i=>nilck s0 fun j=>fld 4 j fun k=>loadN 2 k h fun l=>idx 2 i s6 fun m=>storeN 2 m l h fun h=>nilck s1 fun n=>fld 2 n fun o=>load1 o h fun p=>slc 2 p none (some s6) (some s6) fun q=>nilck s1 fun u=>fld 2 u fun v=>store1 v q h fun h=>mapNode_si_leaf.call #[s1] h fun w h=>notV w fun x=>ifV x (nilck s1 fun y=>fld 3 y fun z=>load1 z h fun b0=>nilck s1 fun b1=>fld 3 b1 fun b2=>load1 b2 h fun b3=>nilck b3 fun b4=>load1 b4 h fun b5=>arith (· + ·) s6 (.int .i64 1) fun b6=>arith (· + ·) s6 (.int .i64 1) fun b7=>slc 1 b5 none (some b6) (some b7) fun b8=>nilck b0 fun b9=>store1 b9 b8 h fun h=>Map_si_nodeSplit.j2 s1 s4 s5 h Q) (Map_si_nodeSplit.j2 s1 s4 s5 h Q)
def Map_si_nodeSplit.sh (a0 a1 : Value) (h : Heap) (Q : Value → Heap → Prop) : Prop := alloc [(.int .i64 0), (.string ⟨#[]⟩)] 223 h fun b h=>nilck a0 fun d=>fld 7 d fun g=>load1 g h fun i=>divi i (.int .i64 2) fun j=>nilck a1 fun k=>fld 2 k fun l=>load1 l h fun m=>idx 2 m j fun n=>loadN 2 n h fun o=>storeN 2 b o h fun h=>mapNode_si_leaf.call #[a1] h fun p h=>Map_si_newNode.call #[a0, p] h fun q h=>nilck a1 fun u=>fld 2 u fun v=>load1 v h fun w=>arith (· + ·) j (.int .i64 1) fun x=>slc 2 w (some x) none none fun y=>nilck q fun z=>fld 2 z fun b0=>store1 b0 y h fun h=>mapNode_si_leaf.call #[a1] h fun b1 h=>notV b1 fun b2=>ifV b2 (nilck q fun b3=>fld 3 b3 fun b4=>load1 b4 h fun b5=>nilck a1 fun b6=>fld 3 b6 fun b7=>load1 b7 h fun b8=>nilck b8 fun b9=>load1 b9 h fun d0=>arith (· + ·) j (.int .i64 1) fun d1=>slc 1 d0 (some d1) none none fun d2=>nilck b5 fun d3=>store1 d3 d2 h fun h=>Map_si_nodeSplit.j1 a0 a1 q b j h Q) (Map_si_nodeSplit.j1 a0 a1 q b j h Q)
theorem Map_si_nodeSplit.body (a0 a1 : Value) (h : Heap) (Q : Value → Heap → Prop) (H : Map_si_nodeSplit.sh a0 a1 h Q) : Map_si_nodeSplit.call #[a0, a1] h Q := by
  refine callsH_of (args := [a0, a1]) Try.func202 rfl rfl ?_
  unfold Map_si_nodeSplit.sh at H
  refine sR <| nS (.pointer none) rfl <| vl_n <| H_alloc TV_223 H fun _ h H => vl_e <| sR <| nM a0 rfl <| nP R_nil H fun _ H => nP (R_fld TF_225_6) H fun _ H => nL T1_3 H fun _ H => nP R_quo H fun t11 H => nS t11 rfl <| vl_e <| sR <| nM a1 rfl ?_
  refine nP R_nil H fun _ H => nP (R_fld TF_285_2) H fun _ H => nL T1_282 H fun _ H => nM t11 rfl <| nP (R_idx TE_282) H fun _ H => nLN TN_223 H fun _ H => vl_n <| H_storeN TS_223 H fun h H => vl_e <| sR <| nM a0 rfl <| nM a1 rfl <| vl_n <| H_call HB_204 H fun _ h H => vl_n <| H_call HB_200 H fun t22 h H => nS t22 rfl ?_
  refine vl_e <| sR <| nM t22 rfl <| nM a1 rfl <| nP R_nil H fun _ H => nP (R_fld TF_285_2) H fun _ H => nL T1_282 H fun _ H => nM t11 rfl <| nP R_add H fun _ H => nP (R_slice TE_282 (by decide)) H fun _ H => nP R_nil H fun _ H => nP (R_fld TF_285_2) H fun _ H => vl_n <| H_store1 TS_282 H fun h H => vl_e ?_
  refine WPc_seq (fun e h => Map_si_nodeSplit.j1 (e 0) (e 1) (e 4) (e 5) (e 6) h Q) ?_ (fun e h H => ?_)
  rotate_left
  · unfold Map_si_nodeSplit.j1 at H
    refine sR <| nM (e 4) rfl <| vl_n <| H_call HB_203 H fun _ h H => vl_e <| WPc_seq' <| W_drawn [0, 1, 3, 7, 0, 0, 32, 96, 224, 511, 1023] (.take 0 (.take 1 (.take 2 (.take 3 (.take 4 (.take 5 (.take 6 (.take 7 (.take 8 (.take 9 (.alt 10 .done .none))))))))))) mixed (by kernel_rfl) <| pM (e 1) rfl rfl <| pP rfl R_nil H fun _ H => pP rfl (R_fld TF_285_2) H fun _ H => pL rfl T1_282 H fun _ _ _ H => pM (e 6) rfl rfl <| pM (e 0) rfl rfl <| pP rfl R_nil H fun _ H => pP rfl (R_fld TF_225_4) H fun _ H => ?_
    refine tkL rfl <| R_loadN TN_223 H fun _ _ _ _ H _ _ => pP rfl (R_idx TE_282) H fun _ H => aE rfl <| H_storeN TS_223 H fun h H => ⟨(hskip rfl (hskip rfl hnil)), vp_done <| sR <| nM (e 1) rfl <| nM (e 1) rfl <| nP R_nil H fun _ H => nP (R_fld TF_285_2) H fun _ H => nL T1_282 H fun _ H => nM (e 6) rfl <| nM (e 6) rfl <| nP (R_slice TE_282 (by decide)) H fun _ H => nP R_nil H fun _ H => ?_⟩
    refine nP (R_fld TF_285_2) H fun _ H => vl_n <| H_store1 TS_282 H fun h H => vl_e ?_
    refine WPc_seq (fun e h => Map_si_nodeSplit.j2 (e 1) (e 4) (e 5) h Q) ?_ (fun e h H => ?_)
    rotate_left
    · unfold Map_si_nodeSplit.j2 at H
      refine sR <| nM (e 1) rfl <| vl_n <| H_call HB_203 H fun _ h H => vl_e <| WPc_seq' <| W_drawn [0, 0, 1, 7] (.take 0 (.take 1 (.take 2 (.alt 3 .done .none)))) mixed (by kernel_rfl) <| pM (e 4) rfl rfl <| tkL rfl <| R_loadN TN_223 H fun _ _ _ _ H _ _ => pS (e 4) rfl rfl <| aE rfl <| H_storeN TS_223 H fun h H => ⟨(hskip rfl hnil), vp_done <| WPc_ret <| resH_of rfl <| resL_t ?_⟩
      exact resL_N TN_223 <| loadN_imp H fun r5 H => H
    refine sR <| nM (e 1) rfl <| vl_n <| H_call HB_204 H fun _ h H => nP R_not H fun _ H => vl_e ?_
    refine cI H (fun H => ?_) fun H => ?_
    · refine W_drawn [0, 1, 3, 7, 0, 16, 48, 112, 240, 496, 0, 1024, 0, 4096, 16368, 32767, 65535] (.take 0 (.take 1 (.take 2 (.take 3 (.take 4 (.take 5 (.take 6 (.take 7 (.take 8 (.take 9 (.take 10 (.take 11 (.take 12 (.take 13 (.take 14 (.take 15 (.alt 16 .done .none))))))))))))))))) mixed (by kernel_rfl) <| pM (e 1) rfl rfl <| pP rfl R_nil H fun _ H => pP rfl (R_fld TF_285_3) H fun _ H => pL rfl T1_283 H fun _ _ _ H => pM (e 1) rfl rfl <| pP rfl R_nil H fun _ H => pP rfl (R_fld TF_285_3) H fun _ H => pL rfl T1_283 H fun _ _ _ H => pP rfl R_nil H fun _ H => pL rfl T1_290 H fun _ _ _ H => pM (e 6) rfl rfl <| pP rfl R_add H fun _ H => pM (e 6) rfl rfl ?_
      exact pP rfl R_add H fun _ H => pP rfl (R_slice TE_290 (by decide)) H fun _ H => pP rfl R_nil H fun _ H => aE rfl <| H_store1 TS_290 H fun h H => ⟨(hskip rfl (hskip rfl (hskip rfl hnil))), vp_done <| H⟩
    · exact WPc_skip <| H
  refine sR <| nM a1 rfl <| vl_n <| H_call HB_204 H fun _ h H => nP R_not H fun _ H => vl_e ?_
  refine cI H (fun H => ?_) fun H => ?_
  · refine W_drawn [0, 1, 3, 7, 0, 16, 48, 112, 240, 496, 0, 1024, 4080, 8191, 16383] (.take 0 (.take 1 (.take 2 (.take 3 (.take 4 (.take 5 (.take 6 (.take 7 (.take 8 (.take 9 (.take 10 (.take 11 (.take 12 (.take 13 (.alt 14 .done .none))))))))))))))) mixed (by kernel_rfl) <| pM t22 rfl rfl <| pP rfl R_nil H fun _ H => pP rfl (R_fld TF_285_3) H fun _ H => pL rfl T1_283 H fun _ _ _ H => pM a1 rfl rfl <| pP rfl R_nil H fun _ H => pP rfl (R_fld TF_285_3) H fun _ H => pL rfl T1_283 H fun _ _ _ H => pP rfl R_nil H fun _ H => pL rfl T1_290 H fun _ _ _ H => pM t11 rfl rfl <| pP rfl R_add H fun _ H => pP rfl (R_slice TE_290 (by decide)) H fun _ H => ?_
    exact pP rfl R_nil H fun _ H => aE rfl <| H_store1 TS_290 H fun h H => ⟨(hskip rfl (hskip rfl (hskip rfl hnil))), vp_done <| H⟩
  · exact WPc_skip <| H

end Go.Proofs.Ytdpkpcmoabfofaa
end
section
namespace Go.Proofs.Ytdpkpcmoabfofaa
open Go.Hp
set_option maxRecDepth 100000
set_option maxHeartbeats 8000000
set_option linter.unusedVariables false
set_option linter.unusedSimpArgs false

/-! ### (*pub/tidwallbtree.Map[string, int]).isoLoad -/
def Map_si_isoLoad.j1 (s1 : Value) (h : Heap) (Q : Value → Heap → Prop) : Prop := nilck s1 fun b=>load1 b h fun d=>Q d h
def Map_si_isoLoad.sh (a0 a1 a2 : Value) (h : Heap) (Q : Value → Heap → Prop) : Prop := br a2 true (nilck a1 fun b=>load1 b h fun d=>nilck d fun g=>fld 0 g fun i=>load1 i h fun j=>nilck a0 fun k=>fld 0 k fun l=>load1 l h fun m=>cmpI (fun a b=>a != b) j m fun n=>ifV n (nilck a1 fun o=>load1 o h fun p=>Map_si_copy.call #[a0, p] h fun q h=>nilck a1 fun u=>store1 u q h fun h=>Map_si_isoLoad.j1 a1 h Q) (Map_si_isoLoad.j1 a1 h Q)) (Map_si_isoLoad.j1 a1 h Q)
theorem Map_si_isoLoad.body (a0 a1 a2 : Value) (h : Heap) (Q : Value → Heap → Prop) (H : Map_si_isoLoad.sh a0 a1 a2 h Q) : Map_si_isoLoad.call #[a0, a1, a2] h Q := by
  refine callsH_of (args := [a0, a1, a2]) Try.func206 rfl rfl ?_
  unfold Map_si_isoLoad.sh at H
  refine sR <| nS (.pointer none) rfl <| vl_e ?_
  refine WPc_seq (fun e h => Map_si_isoLoad.j1 (e 1) h Q) ?_ (fun e h H => ?_)
  rotate_left
  · unfold Map_si_isoLoad.j1 at H
    exact sR <| nM (e 1) rfl <| nP R_nil H fun _ H => nL T1_221 H fun t30 H => nS t30 rfl <| vl_e <| WPc_ret <| resH_of rfl <| H
  refine WPc_seq' <| W_drawn [0, 1, 3, 7, 15, 31, 63, 127, 3, 259, 771, 1795, 4095, 8191] (.take 0 (.take 1 (.take 2 (.take 3 (.take 4 (.take 5 (.take 6 (.take 7 (.take 8 (.take 9 (.take 10 (.take 11 (.take 12 (.take 13 .done)))))))))))))) mixed (by kernel_rfl) <| pM a2 rfl rfl <| pM a2 rfl rfl ?_
  obtain ⟨b, hb, H1, H2⟩ := H
  cases b
  · have H := H2 rfl
    clear H1 H2
    refine tk_s rfl rfl (nbT hb) ?_
    refine tk_s rfl rfl (nbT hb) ?_
    refine tk_s rfl rfl (nbT hb) ?_
    refine tk_s rfl rfl (nbT hb) ?_
    refine tk_s rfl rfl (nbT hb) ?_
    refine tk_s rfl rfl (nbT hb) ?_
    refine tk_s rfl rfl (nbT hb) ?_
    refine tk_s rfl rfl (nbT hb) ?_
    refine tk_s rfl rfl (nbT hb) ?_
    refine tk_s rfl rfl (nbT hb) ?_
    refine tk_s rfl rfl (nbT hb) ?_
    refine pA rfl (R_pickC (v := (.bool false)) false hb rfl) <| vp_done ?_
    refine WPc_cond (t := false) rfl (fun hh => by cases hh) (fun _ => ?_)
    exact WPc_skip <| H
  · have H := H1 rfl
    clear H1 H2
    refine tkPy rfl rfl hb ?_
    refine R_move (v := a1) rfl ⟨fun _ => trivial, ?_⟩
    refine tkPy rfl rfl hb ?_
    refine R_nil H fun _ H => ⟨fun _ => trivial, ?_⟩
    refine tkLy rfl rfl hb ?_
    refine R_load1 T1_221 H fun _ _ _ _ H => ?_
    refine tkPy rfl rfl hb ?_
    refine R_nil H fun _ H => ⟨fun _ => trivial, ?_⟩
    refine tkPy rfl rfl hb ?_
    refine R_fld TF_285_0 H fun _ H => ⟨fun _ => trivial, ?_⟩
    refine tkLy rfl rfl hb ?_
    refine R_load1 T1_115 H fun _ _ _ _ H => ?_
    refine tkPy rfl rfl hb ?_
    refine R_move (v := a0) rfl ⟨fun _ => trivial, ?_⟩
    refine tkPy rfl rfl hb ?_
    refine R_nil H fun _ H => ⟨fun _ => trivial, ?_⟩
    refine tkPy rfl rfl hb ?_
    refine R_fld TF_225_0 H fun _ H => ⟨fun _ => trivial, ?_⟩
    refine tkLy rfl rfl hb ?_
    refine R_load1 T1_115 H fun _ _ _ _ H => ?_
    refine tkPy rfl rfl hb ?_
    refine R_neI H fun t19 H => ⟨fun _ => trivial, ?_⟩
    refine pA rfl (R_pickC (v := t19) true hb rfl) <| vp_done ?_
    refine cI H (fun H => ?_) fun H => ?_
    · exact W_region (by kernel_rfl) <| nM a1 rfl <| nM a0 rfl <| nM a1 rfl <| nP R_nil H fun _ H => nL T1_221 H fun _ H => vl_n <| H_call HB_235 H fun _ h H => nP R_nil H fun _ H => vl_n <| H_store1 TS_221 H fun h H => vl_e <| H
    · exact WPc_skip <| H
/-! ### (*pub/tidwallbtree.Map[string, int]).search -/
def Map_si_search.j2 (s8 : Value) (h : Heap) (Q : Value → Heap → Prop) : Prop := Q (.tuple #[s8, (.bool false)]) h
def Map_si_search.j1 (s1 s2 s8 : Value) (h : Heap) (Q : Value → Heap → Prop) : Prop := cmpI (fun a b=>decide (a > b)) s8 (.int .i64 0) fun b=>br b true (nilck s1 fun d=>fld 2 d fun g=>load1 g h fun i=>arith (· - ·) s8 (.int .i64 1) fun j=>idx 2 i j fun k=>fld 1 k fun l=>load1 l h fun m=>cmpS (fun lt _=>lt) m s2 fun n=>notV n fun o=>ifV o (arith (· - ·) s8 (.int .i64 1) fun p=>Q (.tuple #[p, (.bool true)]) h) (Map_si_search.j2 s8 h Q)) (Map_si_search.j2 s8 h Q)
def Map_si_search.j4 (s1 s2 s8 s9 : Value) (h : Heap) (K1 : List Value → Heap → Prop) (Q : Value → Heap → Prop) : Prop := arith (· + ·) s8 s9 fun b=>divi b (.int .i64 2) fun d=>nilck s1 fun g=>fld 2 g fun i=>load1 i h fun j=>idx 2 j d fun k=>fld 1 k fun l=>load1 l h fun m=>cmpS (fun lt _=>lt) s2 m fun n=>notV n fun o=>ifV o (arith (· + ·) d (.int .i64 1) fun p=>K1 [p, s9] h) (K1 [s8, d] h)
def Map_si_search.l3.b (c1 c2 s8 s9 : Value) (h : Heap) (K1 : List Value → Heap → Prop) (Q : Value → Heap → Prop) : Prop := cmpI (fun a b=>decide (a < b)) s8 s9 fun b=>ifV b (Map_si_search.j4 c1 c2 s8 s9 h K1 Q) (Map_si_search.j1 c1 c2 s8 h Q)
def Map_si_search.sh (a0 a1 a2 : Value) (h : Heap) (Q : Value → Heap → Prop) : Prop := nilck a1 fun b=>fld 2 b fun d=>load1 d h fun g=>lenV g fun i=>loopC (fun c s h K1=>Map_si_search.l3.b (c.getD 0 undef) (c.getD 1 undef) (s.getD 0 undef) (s.getD 1 undef) h K1 Q) [a1, a2] [(.int .i64 0), i] h
theorem Map_si_search.body (a0 a1 a2 : Value) (h : Heap) (Q : Value → Heap → Prop) (H : Map_si_search.sh a0 a1 a2 h Q) : Map_si_search.call #[a0, a1, a2] h Q := by
  refine callsH_of (args := [a0, a1, a2]) Try.func234 rfl rfl ?_
  unfold Map_si_search.sh at H
  refine sR <| nS (.int .i64 0) rfl <| nS (.bool false) rfl <| vl_e <| WPc_seq' <| W_drawn [0, 1, 3, 7, 15, 0, 63] (.take 0 (.take 1 (.take 2 (.take 3 (.take 4 (.take 5 (.take 6 .done))))))) mixed (by kernel_rfl) <| pM a1 rfl rfl <| pP rfl R_nil H fun _ H => pP rfl (R_fld TF_285_2) H fun _ H => pL rfl T1_282 H fun _ _ _ H => pP rfl (R_len Try.underlying282) H fun t15 H => pS (.int .i64 0) rfl rfl <| pS t15 rfl rfl <| vp_done ?_
  refine WPc_seq (fun e h => Map_si_search.j1 (e 1) (e 2) (e 8) h Q) ?_ (fun e h H => ?_)
  rotate_left
  · unfold Map_si_search.j1 at H
    refine WPc_seq (fun e h => Map_si_search.j2 (e 8) h Q) ?_ (fun e h H => ?_)
    rotate_left
    · unfold Map_si_search.j2 at H
      exact sR <| nM (e 8) rfl <| nS (e 8) rfl <| nS (.bool false) rfl <| vl_e <| WPc_ret <| resH_of rfl <| H
    refine sR <| nM (e 8) rfl <| nP R_gtr H fun t38 H => nM t38 rfl ?_
    obtain ⟨b, hb, H1, H2⟩ := H
    cases b
    · have H := H2 rfl
      clear H1 H2
      refine vl_s rfl (nbT hb) ?_
      refine vl_s rfl (nbT hb) ?_
      refine vl_s rfl (nbT hb) ?_
      refine vl_s rfl (nbT hb) ?_
      refine vl_s rfl (nbT hb) ?_
      refine vl_s rfl (nbT hb) ?_
      refine vl_s rfl (nbT hb) ?_
      refine vl_s rfl (nbT hb) ?_
      refine vl_s rfl (nbT hb) ?_
      refine vl_s rfl (nbT hb) ?_
      refine vl_s rfl (nbT hb) ?_
      refine vl_s rfl (nbT hb) ?_
      refine nA (R_pickC (v := (.bool false)) false hb rfl) <| vl_e ?_
      refine WPc_cond (t := false) rfl (fun hh => by cases hh) (fun _ => ?_)
      exact WPc_skip <| H
    · have H := H1 rfl
      clear H1 H2
      refine vl_y rfl hb ?_
      refine H_of_R (R_move (v := (e 1)) rfl ?_)
      refine vl_y rfl hb ?_
      refine H_of_R (R_nil H fun _ H => ?_)
      refine vl_y rfl hb ?_
      refine H_of_R (R_fld TF_285_2 H fun _ H => ?_)
      refine vl_y rfl hb ?_
      refine H_of_R (R_load1 T1_282 H fun _ _ _ _ H => ?_)
      refine vl_y rfl hb ?_
      refine H_of_R (R_move (v := (e 8)) rfl ?_)
      refine vl_y rfl hb ?_
      refine H_of_R (R_sub H fun _ H => ?_)
      refine vl_y rfl hb ?_
      refine H_of_R (R_idx TE_282 H fun _ H => ?_)
      refine vl_y rfl hb ?_
      refine H_of_R (R_fld TF_223_1 H fun _ H => ?_)
      refine vl_y rfl hb ?_
      refine H_of_R (R_load1 T1_9 H fun _ _ _ _ H => ?_)
      refine vl_y rfl hb ?_
      refine H_of_R (R_move (v := (e 2)) rfl ?_)
      refine vl_y rfl hb ?_
      refine H_of_R (R_lssS H fun _ H => ?_)
      refine vl_y rfl hb ?_
      refine H_of_R (R_not H fun t51 H => ?_)
      refine nA (R_pickC (v := t51) true hb rfl) <| vl_e ?_
      refine cI H (fun H => ?_) fun H => ?_
      · exact sR <| nM (e 8) rfl <| nP R_sub H fun t54 H => nS t54 rfl <| nS (.bool true) rfl <| vl_e <| WPc_ret <| resH_of rfl <| H
      · exact WPc_skip <| H
  refine WPc_block ?_
  refine loop_at (fun e => [e 8, e 9]) (fun e => [e 1, e 2]) H rfl rfl ?_
  intro K1 e1 h H hin1
  replace H : Map_si_search.l3.b (e1 1) (e1 2) (e1 8) (e1 9) h K1 Q := H
  unfold Map_si_search.l3.b at H
  clear hin1
  refine WPc_seq (fun e h => Map_si_search.j4 (e 1) (e 2) (e 8) (e 9) h K1 Q ∧ [e1 1, e1 2] = [e 1, e 2]) ?_ (fun e h ⟨H, hq1⟩ => ?_)
  rotate_left
  · unfold Map_si_search.j4 at H
    refine WPc_block <| sR <| nM (e 8) rfl <| nM (e 9) rfl <| nP R_add H fun _ H => nP R_quo H fun t22 H => nS t22 rfl <| vl_e <| sR <| nM (e 2) rfl <| nM (e 1) rfl <| nP R_nil H fun _ H => nP (R_fld TF_285_2) H fun _ H => nL T1_282 H fun _ H => ?_
    refine nM t22 rfl <| nP (R_idx TE_282) H fun _ H => nP (R_fld TF_223_1) H fun _ H => nL T1_9 H fun _ H => nP R_lssS H fun _ H => nP R_not H fun _ H => vl_e ?_
    refine cI H (fun H => ?_) fun H => ?_
    · refine W_region (by kernel_rfl) <| nM t22 rfl <| nP R_add H fun t35 H => nS t35 rfl <| vl_e ?_
      exact ⟨H, hq1⟩
    · refine W_region (by kernel_rfl) <| nM t22 rfl <| nS t22 rfl <| vl_e ?_
      exact ⟨H, hq1⟩
  refine sR <| nM (e1 8) rfl <| nM (e1 9) rfl <| nP R_lss H fun _ H => vl_e ?_
  refine cI H (fun H => ?_) fun H => ?_
  · refine WPc_skip ?_
    exact ⟨H, rfl⟩
  · refine WPc_exit ?_
    exact H

end Go.Proofs.Ytdpkpcmoabfofaa
end
section
namespace Go.Proofs.Ytdpkpcmoabfofaa.Si
open Go.Hp
set_option linter.unusedVariables false
set_option linter.unusedSimpArgs false
abbrev KT := ByteArray
abbrev VT := Int
abbrev It := KT × VT
abbrev enc (p : It) : List Value := [.int .i64 p.2, .string p.1]
abbrev kv (k : KT) : Value := .string k
abbrev vv (v : VT) : Value := .int .i64 v
abbrev emp : It := (⟨#[]⟩, 0)
def lt (a b : It) : Bool := Op.bytesLess a.1.toList b.1.toList
/-- The cells of a map's head, in parts. -/
abbrev hd0 (iso : Int) (ctr : Option Addr) : List Value := [.int .u64 iso, .pointer ctr]
abbrev hd4 (mn mx : Int) : List Value := enc emp ++ [.int .i64 mn, .int .i64 mx, .bool false, .bool false]
abbrev hdr (iso : Int) (ctr root : Option Addr) (cnt mn mx : Int) : List Value := [.int .u64 iso, .pointer ctr, .pointer root, .int .i64 cnt] ++ hd4 mn mx
theorem encl (p : It) : (enc p).length = 2 := rfl
theorem enc1 (p : It) : ∀ y ∈ enc p, one1 y = true := by simp [one1]
theorem swo : Swo lt where
  irr a := bytesLess_irr _
  tr a b c := bytesLess_tr _ _ _
  ntr a b c := bytesLess_ntr _ _ _

/-- An item as the laws have it. -/
abbrev encA (p : It) : List Value := [kv p.1, vv p.2]
theorem encAl (p : It) : (encA p).length = 2 := rfl
theorem encA1 (p : It) : ∀ y ∈ encA p, one1 y = true := by simp [one1]
abbrev fk (k : KT) : List Value := [kv k]
theorem fkl (k : KT) : (fk k).length = 1 := rfl
theorem snoc_fk (l : List KT) (k : KT) : l.flatMap fk ++ [kv k] = (l ++ [k]).flatMap fk := by rw [List.flatMap_append, List.flatMap_singleton]
/-- The items of a list that is set in order. -/
def setAll (l : List It) : List It := l.foldl (lput lt) []
theorem setAll_asc (l : List It) : Asc lt (setAll l) := by
  unfold setAll
  have : ∀ (l a : List It), Asc lt a → Asc lt (l.foldl (lput lt) a) := fun l => by
    induction l with
    | nil => intro a h; exact h
    | cons x r ih => intro a h; exact ih _ (asc_lput swo h)
  exact this l [] List.Pairwise.nil
theorem setAll_snoc (l : List It) (x : It) : setAll (l ++ [x]) = lput lt (setAll l) x := by unfold setAll; rw [List.foldl_append]; rfl
theorem setAll_len (l : List It) : (setAll l).length ≤ l.length := by
  unfold setAll
  have : ∀ (l a : List It), (l.foldl (lput lt) a).length ≤ a.length + l.length := fun l => by
    induction l with
    | nil => intro a; simp
    | cons x r ih =>
      intro a
      have h1 := ih (lput lt a x)
      have h2 : (lput lt a x).length = _ := lput_length
      simp only [List.foldl_cons, List.length_cons]
      split at h2 <;> omega
  have := this l []; simpa using this
/-- The tree of a list that is set in order. -/
def grown (m : Nat) (l : List It) : MT It := l.foldl (MT.set lt m) none
theorem grown_snoc (m : Nat) (l : List It) (x : It) : grown m (l ++ [x]) = (grown m l).set lt m x := by unfold grown; rw [List.foldl_append]; rfl
end Go.Proofs.Ytdpkpcmoabfofaa.Si
end
section
namespace Go.Proofs.Ytdpkpcmoabfofaa.Si
open Go.Hp Go.Proofs.Ytdpkpcmoabfofaa
set_option linter.unusedVariables false
set_option linter.unusedSimpArgs false
variable {h0 h : Heap} {Z E : List Rg} {Q : Value → Heap → Prop}

theorem search_ok {h : Heap} {tr iv : Value} {n : Nat} {its : List It} {x : It} {Q : Value → Heap → Prop} (ha : Asc lt its) (hb : its.length ≤ 4611686018427387903)
    (hn : cl h n 2 = some iv) (hr : Rdl 2 h iv its.length (its.flatMap enc)) (H : Q (.tuple #[.int .i64 (pos lt its x), .bool (lget lt its x).isSome]) h) : Map_si_search.call #[tr, ptr n 0, kv x.1] h Q := by
  obtain ⟨a, cap, rfl, hl, hx, _⟩ := hr
  obtain ⟨ib, io, hia⟩ : ∃ ib io, its.length ≠ 0 → a = some ⟨ib, io, none⟩ ∧ Rw h ib io (its.flatMap enc) := by
    by_cases e : its.length ≠ 0
    · obtain ⟨b, o, h1, h2⟩ := hx e; exact ⟨b, o, fun _ => ⟨h1, h2⟩⟩
    · exact ⟨0, 0, fun e' => absurd e' e⟩
  have hk : ∀ i (hi : i < its.length), cl h ib (io + i * 2 + 1) = some (kv its[i].1) := fun i hi => by
    have h2 := (hia (by omega)).2 (i * 2 + 1) (by rw [flat_len encl]; omega)
    rw [flat_get encl its i hi 1 (by decide)] at h2
    rw [Nat.add_assoc]; exact h2
  have hs : ∀ i j (hi : i < its.length) (hj : j < its.length), i < j → lt its[i] its[j] = true := fun i j hi hj hij => List.pairwise_iff_getElem.1 ha i j hi hj hij
  have fin : ∀ lo, lo ≤ its.length → (∀ i (hi : i < its.length), i < lo → lt x its[i] = false) → (∀ i (hi : i < its.length), lo ≤ i → lt x its[i] = true) →
      (∀ hp : lo - 1 < its.length, 0 < lo → lt its[lo - 1] x = false → Q (.tuple #[.int .i64 (lo - 1 : Nat), .bool true]) h) ∧ ((∀ hp : lo - 1 < its.length, 0 < lo → lt its[lo - 1] x = true) → Q (.tuple #[.int .i64 lo, .bool false]) h) := by
    intro lo h1 h2 h3
    constructor
    · intro hp h0 hlt
      have e : pos lt its x = lo - 1 := pos_uni (by omega) (fun j hj hjl => swo.tr1 (hs j (lo - 1) hj hp hjl) (h2 (lo - 1) hp (by omega))) (fun _ => hlt)
      have e2 : lget lt its x = some its[lo - 1] := by
        unfold lget; rw [e, List.getElem?_eq_getElem hp, Option.bind_some, h2 (lo - 1) hp (by omega)]; rfl
      rw [e, e2] at H; exact H
    · intro hlt
      have e : pos lt its x = lo := by
        refine pos_uni h1 (fun j hj hjl => ?_) (fun hl => swo.asym (h3 lo hl (Nat.le_refl _)))
        rcases Nat.lt_or_ge j (lo - 1) with hl | hl
        · exact swo.tr _ _ _ (hs j (lo - 1) hj (by omega) hl) (hlt (by omega) (by omega))
        · have : j = lo - 1 := by omega
          subst this; exact hlt hj (by omega)
      have e2 : lget lt its x = none := by
        unfold lget; rw [e]
        rcases Nat.lt_or_ge lo its.length with hl | hl
        · rw [List.getElem?_eq_getElem hl, Option.bind_some, h3 lo hl (Nat.le_refl _)]; rfl
        · rw [List.getElem?_eq_none hl]; rfl
      rw [e, e2] at H; exact H
  refine Map_si_search.body _ _ _ _ _ ?_
  unfold Map_si_search.sh
  simp only [w_load1, w_loadN, w_nil, w_fld, w_idx, w_len, w_lenStr, w_cap, w_arith, w_divi, w_remi, w_cmpI, w_cmpS, w_not, w_ext, w_eqNilP, w_neNilP, w_eqB, w_pick, w_max, w_ifV, w_br, w_store1, w_storeN, w_alloc, w_box, add_mk, Nat.zero_add, Nat.add_zero, Option.some.injEq, exists_eq_left', List.getElem?_cons_zero, List.getElem?_cons_succ, List.getD_cons_zero, List.getD_cons_succ, hn]
  refine loop_intro (fun s h' => h' = h ∧ ∃ lo hi : Nat, s = [.int .i64 lo, .int .i64 hi] ∧ lo ≤ hi ∧ hi ≤ its.length ∧ (∀ i (hi' : i < its.length), i < lo → lt x its[i] = false) ∧ (∀ i (hi' : i < its.length), hi ≤ i → lt x its[i] = true))
    (fun s _ => (iv (s.getD 1 undef) - iv (s.getD 0 undef)).toNat) ⟨rfl, 0, its.length, rfl, by omega, by omega, fun i hi hl => by omega, fun i h1 h2 => by omega⟩ ?_
  rintro s h' ⟨rfl, lo, hi, rfl, h1, h2, h3, h4⟩
  unfold Map_si_search.l3.b
  simp only [w_load1, w_loadN, w_nil, w_fld, w_idx, w_len, w_lenStr, w_cap, w_arith, w_divi, w_remi, w_cmpI, w_cmpS, w_not, w_ext, w_eqNilP, w_neNilP, w_eqB, w_pick, w_max, w_ifV, w_br, w_store1, w_storeN, w_alloc, w_box, add_mk, Nat.zero_add, Nat.add_zero, Option.some.injEq, exists_eq_left', List.getElem?_cons_zero, List.getElem?_cons_succ, List.getD_cons_zero, List.getD_cons_succ]
  refine ⟨fun hlt => ?_, fun hge => ?_⟩
  · have hlt : lo < hi := by simpa using hlt
    unfold Map_si_search.j4
    have hd : ((lo : Int) + hi).tdiv 2 = (((lo + hi) / 2 : Nat) : Int) := by
      rw [← Int.natCast_add]; exact (Int.ofNat_tdiv (lo + hi) 2).symm
    simp only [w_load1, w_loadN, w_nil, w_fld, w_idx, w_len, w_lenStr, w_cap, w_arith, w_divi, w_remi, w_cmpI, w_cmpS, w_not, w_ext, w_eqNilP, w_neNilP, w_eqB, w_pick, w_max, w_ifV, w_br, w_store1, w_storeN, w_alloc, w_box, add_mk, Nat.zero_add, Nat.add_zero, Option.some.injEq, exists_eq_left', List.getElem?_cons_zero, List.getElem?_cons_succ, List.getD_cons_zero, List.getD_cons_succ]
    rw [i64w (n := (lo : Int) + hi) (by omega) (by omega), hd, i64w (n := (((lo + hi) / 2 : Nat) : Int)) (by omega) (by omega)]
    refine ⟨by decide, ?_⟩
    simp only [w_load1, w_loadN, w_nil, w_fld, w_idx, w_len, w_lenStr, w_cap, w_arith, w_divi, w_remi, w_cmpI, w_cmpS, w_not, w_ext, w_eqNilP, w_neNilP, w_eqB, w_pick, w_max, w_ifV, w_br, w_store1, w_storeN, w_alloc, w_box, add_mk, Nat.zero_add, Nat.add_zero, Option.some.injEq, exists_eq_left', List.getElem?_cons_zero, List.getElem?_cons_succ, List.getD_cons_zero, List.getD_cons_succ, hn, (hia (by omega)).1, Int.toNat_natCast]
    have hm : (lo + hi) / 2 < its.length := by omega
    refine ⟨by omega, by omega, ?_⟩
    simp only [w_load1, w_loadN, w_nil, w_fld, w_idx, w_len, w_lenStr, w_cap, w_arith, w_divi, w_remi, w_cmpI, w_cmpS, w_not, w_ext, w_eqNilP, w_neNilP, w_eqB, w_pick, w_max, w_ifV, w_br, w_store1, w_storeN, w_alloc, w_box, add_mk, Nat.zero_add, Nat.add_zero, Option.some.injEq, exists_eq_left', List.getElem?_cons_zero, List.getElem?_cons_succ, List.getD_cons_zero, List.getD_cons_succ, hk _ hm]
    refine ⟨fun hc => ?_, fun hc => ?_⟩
    · have hc : lt x its[(lo + hi) / 2] = false := by simpa [lt] using hc
      rw [i64w (by omega) (by omega)]
      refine ⟨⟨trivial, (lo + hi) / 2 + 1, hi, by simp, by omega, h2, fun i hi' hl => ?_, h4⟩, by simp; omega⟩
      rcases Nat.lt_or_ge i ((lo + hi) / 2) with hl | hl
      · cases e : lt x its[i] with
        | false => rfl
        | true => have := swo.tr _ _ _ e (hs i _ hi' hm hl); rw [hc] at this; cases this
      · have : i = (lo + hi) / 2 := by omega
        subst this; exact hc
    · have hc : lt x its[(lo + hi) / 2] = true := by simpa [lt] using hc
      refine ⟨⟨trivial, lo, (lo + hi) / 2, rfl, by omega, by omega, h3, fun i hi1 hi2 => ?_⟩, by simp; omega⟩
      rcases Nat.lt_or_ge ((lo + hi) / 2) i with hl | hl
      · exact swo.tr _ _ _ hc (hs _ i hm hi1 hl)
      · have : i = (lo + hi) / 2 := by omega
        subst this; exact hc
  · have hge : lo = hi := by simp at hge; omega
    subst hge
    obtain ⟨f1, f2⟩ := fin lo h2 h3 h4
    unfold Map_si_search.j1
    simp only [w_load1, w_loadN, w_nil, w_fld, w_idx, w_len, w_lenStr, w_cap, w_arith, w_divi, w_remi, w_cmpI, w_cmpS, w_not, w_ext, w_eqNilP, w_neNilP, w_eqB, w_pick, w_max, w_ifV, w_br, w_store1, w_storeN, w_alloc, w_box, add_mk, Nat.zero_add, Nat.add_zero, Option.some.injEq, exists_eq_left', List.getElem?_cons_zero, List.getElem?_cons_succ, List.getD_cons_zero, List.getD_cons_succ]
    refine ⟨fun hpos => ?_, fun hz => ?_⟩
    · have hpos : 0 < lo := by simpa using hpos
      rw [i64w (n := (lo : Int) - 1) (by omega) (by omega)]
      simp only [w_load1, w_loadN, w_nil, w_fld, w_idx, w_len, w_lenStr, w_cap, w_arith, w_divi, w_remi, w_cmpI, w_cmpS, w_not, w_ext, w_eqNilP, w_neNilP, w_eqB, w_pick, w_max, w_ifV, w_br, w_store1, w_storeN, w_alloc, w_box, add_mk, Nat.zero_add, Nat.add_zero, Option.some.injEq, exists_eq_left', List.getElem?_cons_zero, List.getElem?_cons_succ, List.getD_cons_zero, List.getD_cons_succ, hn, (hia (by omega)).1]
      refine ⟨by omega, by omega, ?_⟩
      rw [show ((lo : Int) - 1).toNat = lo - 1 by omega]
      have hm : lo - 1 < its.length := by omega
      simp only [w_load1, w_loadN, w_nil, w_fld, w_idx, w_len, w_lenStr, w_cap, w_arith, w_divi, w_remi, w_cmpI, w_cmpS, w_not, w_ext, w_eqNilP, w_neNilP, w_eqB, w_pick, w_max, w_ifV, w_br, w_store1, w_storeN, w_alloc, w_box, add_mk, Nat.zero_add, Nat.add_zero, Option.some.injEq, exists_eq_left', List.getElem?_cons_zero, List.getElem?_cons_succ, List.getD_cons_zero, List.getD_cons_succ, hk (lo - 1) hm]
      refine ⟨fun hc => ?_, fun hc => ?_⟩
      · have hc : lt its[lo - 1] x = false := by simpa [lt] using hc
        rw [show ((lo : Int) - 1) = ((lo - 1 : Nat) : Int) by omega]
        exact f1 hm hpos hc
      · have hc : lt its[lo - 1] x = true := by simpa [lt] using hc
        unfold Map_si_search.j2
        exact f2 (fun _ _ => hc)
    · have hz : lo = 0 := by simp at hz; omega
      subst hz
      unfold Map_si_search.j2
      exact f2 (fun _ e => absurd e (Nat.lt_irrefl _))

theorem leaf_ok {n : Nat} {a : Option Addr} (hn : cl h n 3 = some (.pointer a)) (H : Q (.bool a.isNone) h) : mapNode_si_leaf.call #[ptr n 0] h Q := by
  refine mapNode_si_leaf.body _ _ _ ?_
  unfold mapNode_si_leaf.sh
  have s := St.start h
  refine r_nil ?_
  refine r_fld ?_
  refine s.r_loadB hn ?_
  refine r_eqNilP ?_
  exact H
/-- One's own node, or a node that is only read. -/
theorem isoLoad_ok {tb pb po n : Nat} {iso : Int} {m : Bool} (hi : cl h tb 0 = some (.int .u64 iso)) (hp : cl h pb po = some (ptr n 0)) (hn : m = true → cl h n 0 = some (.int .u64 iso)) (H : Q (ptr n 0) h) :
    Map_si_isoLoad.call #[ptr tb 0, ptr pb po, .bool m] h Q := by
  refine Map_si_isoLoad.body _ _ _ _ _ ?_
  unfold Map_si_isoLoad.sh
  have hj : Map_si_isoLoad.j1 (ptr pb po) h Q := by
    unfold Map_si_isoLoad.j1
    refine r_nil ?_
    exact r_ld hp H
  refine r_br (fun hm => ?_) (fun _ => hj)
  refine r_nil ?_
  refine r_ld hp ?_
  refine r_nil ?_
  refine r_fld ?_
  refine r_ld (hn hm) ?_
  refine r_nil ?_
  refine r_fld ?_
  refine r_ld hi ?_
  refine r_cmpI ?_
  refine r_if (fun e => absurd e (by simp)) (fun _ => hj)

theorem newNode_leaf {tb : Nat} {iso : Int} (hi : cl h tb 0 = some (.int .u64 iso)) (H : ∀ n h', St h [] [(n, 0, [.int .u64 iso, .int .i64 0, .slice none 0 0, .pointer none])] h' → Q (ptr n 0) h') : Map_si_newNode.call #[ptr tb 0, .bool true] h Q := by
  refine Map_si_newNode.body _ _ _ _ ?_
  unfold Map_si_newNode.sh
  have s := St.start h
  refine s.r_alloc fun n h s => ?_
  refine r_nil ?_
  refine r_fld ?_
  refine s.r_loadB hi ?_
  refine r_nil ?_
  refine r_fld ?_
  refine St.r_store0 s 0 rfl (by simp) rfl ?_
  intro h s
  try simp only [List.set_cons_zero, List.set_cons_succ] at s
  refine r_not ?_
  refine r_if (fun e => absurd e (by decide)) (fun _ => ?_)
  unfold Map_si_newNode.j1
  exact H n h s
theorem newNode_inner {tb : Nat} {iso : Int} (hi : cl h tb 0 = some (.int .u64 iso)) (H : ∀ n kb h', St h [] [(n, 0, [.int .u64 iso, .int .i64 0, .slice none 0 0, ptr kb 0]), (kb, 0, [.slice none 0 0])] h' → Q (ptr n 0) h') : Map_si_newNode.call #[ptr tb 0, .bool false] h Q := by
  refine Map_si_newNode.body _ _ _ _ ?_
  unfold Map_si_newNode.sh
  have s := St.start h
  refine s.r_alloc fun n h s => ?_
  refine r_nil ?_
  refine r_fld ?_
  refine s.r_loadB hi ?_
  refine r_nil ?_
  refine r_fld ?_
  refine St.r_store0 s 0 rfl (by simp) rfl ?_
  intro h s
  try simp only [List.set_cons_zero, List.set_cons_succ] at s
  refine r_not ?_
  refine r_if (fun _ => ?_) (fun e => absurd e (by decide))
  refine s.r_alloc fun kb h s => ?_
  refine r_nil ?_
  refine r_fld ?_
  refine St.r_store0 s 1 rfl (by simp) rfl ?_; intro h s
  unfold Map_si_newNode.j1
  exact H n kb h (s.perm (by ((apply perm_rg; intro f; simp only [List.set_cons_zero, List.set_cons_succ, List.eraseIdx_cons_zero, List.eraseIdx_cons_succ, List.cons_append, List.nil_append, List.map_append, List.map_cons, List.map_nil, List.sum_append, List.sum_cons, List.sum_nil, List.map_flatMap, Nat.add_zero, Nat.zero_add]; ac_rfl))))

theorem updateCount_leaf {n b o len : Nat} {c1 c2 iv : Value} {xs sp : List Value} (s : St h0 Z ((n, 0, [c1, c2, iv, .pointer none]) :: E) h) (w : Own 2 iv len b o xs sp)
    (H : ∀ h', St h0 Z ((n, 0, [c1, .int .i64 len, iv, .pointer none]) :: E) h' → Q (.tuple #[]) h') : mapNode_si_updateCount.call #[ptr n 0] h Q := by
  refine mapNode_si_updateCount.body _ _ _ ?_
  unfold mapNode_si_updateCount.sh
  refine r_nil ?_
  refine r_fld ?_
  refine St.r_load0 s 0 rfl rfl ?_
  refine w.lenV ?_
  refine r_nil ?_
  refine r_fld ?_
  refine St.r_store0 s 0 rfl (by simp) rfl ?_
  intro h s
  try simp only [List.set_cons_zero, List.set_cons_succ] at s
  refine leaf_ok (a := none) (s.get (k := 0) (j := 3) rfl (by simp)) ?_
  refine r_not ?_
  refine r_if (fun e => absurd e (by decide)) (fun _ => ?_)
  exact H _ s
theorem updateCount_inner {n kb b o rb ro len : Nat} {c1 c2 iv kv : Value} {xs sp ksp : List Value} {ids : List Nat} {c : Nat → Int} (s : St h0 Z ((n, 0, [c1, c2, iv, ptr kb 0]) :: (kb, 0, [kv]) :: (rb, ro, (ids.map fun m => ptr m 0) ++ ksp) :: E) h)
    (w : Own 2 iv len b o xs sp) (wkid : Own 1 kv ids.length rb ro (ids.map fun m => ptr m 0) ksp) (hids : ids.length ≤ 4294967296)
    (hc : ∀ j (hj : j < ids.length), ∃ a1 a2 a3, (ids[j], 0, [a1, .int .i64 (c j), a2, a3]) ∈ E ++ Z) (hb : ∀ j, j ≤ ids.length → 0 ≤ (len : Int) + ((List.range j).map c).sum ∧ (len : Int) + ((List.range j).map c).sum ≤ 9223372036854775807)
    (H : ∀ h', St h0 Z ((n, 0, [c1, .int .i64 ((len : Int) + ((List.range ids.length).map c).sum), iv, ptr kb 0]) :: (kb, 0, [kv]) :: (rb, ro, (ids.map fun m => ptr m 0) ++ ksp) :: E) h' → Q (.tuple #[]) h') : mapNode_si_updateCount.call #[ptr n 0] h Q := by
  refine mapNode_si_updateCount.body _ _ _ ?_
  unfold mapNode_si_updateCount.sh
  refine r_nil ?_
  refine r_fld ?_
  refine St.r_load0 s 0 rfl rfl ?_
  refine w.lenV ?_
  refine r_nil ?_
  refine r_fld ?_
  refine St.r_store0 s 0 rfl (by simp) rfl ?_
  intro h s
  try simp only [List.set_cons_zero, List.set_cons_succ] at s
  refine leaf_ok (a := some ⟨kb, 0, none⟩) (s.get (k := 0) (j := 3) rfl (by simp)) ?_
  refine r_not ?_
  refine r_if (fun _ => ?_) (fun e => absurd e (by simp))
  refine loop_intro (fun t h => ∃ j : Nat, t = [.int .i64 j] ∧ j ≤ ids.length ∧ St h0 Z ((n, 0, [c1, .int .i64 ((len : Int) + ((List.range j).map c).sum), iv, ptr kb 0]) :: (kb, 0, [kv]) :: (rb, ro, (ids.map fun m => ptr m 0) ++ ksp) :: E) h)
    (fun t _ => ids.length - (Hp.iv (t.getD 0 undef)).toNat) ⟨0, rfl, by omega, by simpa using s⟩ ?_
  rintro t h ⟨j, rfl, hj, s⟩
  unfold mapNode_si_updateCount.l1.b
  refine r_nil ?_
  refine r_fld ?_
  refine St.r_load0 s 0 rfl rfl ?_
  refine r_nil ?_
  refine St.r_load0 s 1 rfl rfl ?_
  refine wkid.lenV ?_
  refine r_cmpI ?_
  refine r_if (fun hlt => ?_) (fun hge => ?_)
  · have hlt : j < ids.length := by simpa using hlt
    unfold mapNode_si_updateCount.j2
    refine r_nil ?_
    refine r_fld ?_
    refine St.r_load0 s 0 rfl rfl ?_
    refine r_nil ?_
    refine r_fld ?_
    refine St.r_load0 s 0 rfl rfl ?_
    refine r_nil ?_
    refine St.r_load0 s 1 rfl rfl ?_
    refine wkid.idx (n := j) rfl hlt ?_
    refine s.r_load1 2 rfl (v := ptr ids[j] 0) (by rw [Nat.mul_one, List.getElem?_append_left (by simpa using hlt), List.getElem?_map, List.getElem?_eq_getElem hlt]; rfl) ?_
    obtain ⟨a1, a2, a3, hm⟩ := hc j hlt
    refine r_nil ?_
    refine r_fld ?_
    refine s.r_loadM (xs := [a1, .int .i64 (c j), a2, a3]) (by simp only [List.cons_append, List.mem_cons]; exact .inr (.inr (.inr hm))) rfl ?_
    refine r_add (z := (len : Int) + ((List.range (j + 1)).map c).sum) ?_ ?_
    · have := hb (j + 1) hlt
      rw [List.range_succ, List.map_append, List.sum_append] at this ⊢
      simp only [List.map_cons, List.map_nil, List.sum_cons, List.sum_nil] at this ⊢
      rw [i64w (by omega) (by omega)]; omega
    · refine r_nil ?_
      refine r_fld ?_
      refine St.r_store0 s 0 rfl (by simp) rfl ?_
      intro h s
      try simp only [List.set_cons_zero, List.set_cons_succ] at s
      unfold mapNode_si_updateCount.j3
      refine r_add (z := ((j + 1 : Nat) : Int)) (by rw [i64w (by omega) (by omega)]; omega) ?_
      exact ⟨⟨j + 1, rfl, hlt, s⟩, by simp; omega⟩
  · have hge : j = ids.length := by simp at hge; omega
    subst hge
    exact H h s
end Go.Proofs.Ytdpkpcmoabfofaa.Si
end
section
namespace Go.Proofs.Ytdpkpcmoabfofaa.Si
open Go.Hp Go.Proofs.Ytdpkpcmoabfofaa
set_option linter.unusedVariables false
set_option linter.unusedSimpArgs false
variable {h0 h : Heap} {Z E : List Rg} {Q : Value → Heap → Prop}

/-- A tree whose nodes are all the map's own, as they should be. -/
structure Gd (iso : Int) {k : Nat} (t : GT It k) : Prop where
  wf : t.Wf enc 2 iso
  cn : t.Cn
  mine : t.Mine
theorem Gd.kid {iso : Int} {k : Nat} {t : GT It (k + 1)} (g : Gd iso t) {c : GT It k} (hc : c ∈ t.2) : Gd iso c := ⟨(g.wf.2.2.2 c hc).1, g.cn.2 c hc, g.mine.2 c hc⟩
abbrev fp (m : Nat) : List Value := [ptr m 0]
theorem fpl (m : Nat) : (fp m).length = 1 := rfl
theorem mfp (l : List Nat) : (l.map fun m => ptr m 0) = l.flatMap fp := List.map_eq_flatMap
theorem GT.topA : ∀ {k : Nat} {t : GT It k}, ∃ a1 a2 a3, (t.id, 0, [a1, .int .i64 t.nd.cnt, a2, a3]) ∈ t.all enc
  | 0, d => ⟨_, _, _, List.mem_cons_self ..⟩
  | _ + 1, t => ⟨_, _, _, List.mem_append.2 (.inl (List.mem_cons_self ..))⟩
theorem r_div {k : IntKind} {x y z : Int} {K : Value → Prop} (hy : y ≠ 0) (hz : k.wrap (x.tdiv y) = z) (H : K (.int k z)) : divi (.int k x) (.int k y) K := ⟨k, x, y, rfl, rfl, hy, by rw [hz]; exact H⟩
theorem half {m : Nat} (hm : m ≤ 1048576) : IntKind.wrap .i64 ((m : Int).tdiv 2) = ((m / 2 : Nat) : Int) := by
  have : (m : Int).tdiv 2 = ((m / 2 : Nat) : Int) := (Int.ofNat_tdiv m 2).symm
  rw [this, i64w (by omega) (by omega)]

theorem updateCount_kids {k : Nat} {ts : List (GT It k)} {n kb b o rb ro len : Nat} {c1 c2 iv kv : Value} {xs sp ksp : List Value}
    (s : St h0 Z ((n, 0, [c1, c2, iv, ptr kb 0]) :: (kb, 0, [kv]) :: (rb, ro, (ts.map GT.id).flatMap fp ++ ksp) :: E) h)
    (w : Own 2 iv len b o xs sp) (wK : Own 1 kv (ts.map GT.id).length rb ro ((ts.map GT.id).flatMap fp) ksp) (hm : ∀ t ∈ ts, t.Cn) (hE : ∀ t ∈ ts, ∀ r ∈ t.all enc, r ∈ E)
    (hl : ts.length ≤ 1048576) (hsz : len + (ts.map fun t => t.pt.items.length).sum ≤ 4611686018427387904)
    (H : ∀ h', St h0 Z ((n, 0, [c1, .int .i64 ((len + (ts.map fun t => t.pt.items.length).sum : Nat) : Int), iv, ptr kb 0]) :: (kb, 0, [kv]) :: (rb, ro, (ts.map GT.id).flatMap fp ++ ksp) :: E) h' → Q (.tuple #[]) h') : mapNode_si_updateCount.call #[ptr n 0] h Q := by
  have hmm : (ts.map fun t => t.pt.items).map List.length = ts.map fun t => t.pt.items.length := by rw [List.map_map]; rfl
  have hsum : ∀ i, i ≤ ts.length → ((List.range i).map fun j => (ts.map fun t => t.nd.cnt)[j]?.getD 0).sum = (((ts.map fun t => t.pt.items.length).take i).sum : Nat) := fun i hi => by
    rw [sum_range _ i (by simpa using hi), ← List.map_take, GT.Cn.sum (fun t ht => hm t (List.mem_of_mem_take ht)), List.map_map, ← List.map_take]; rfl
  rw [← mfp] at s wK
  refine updateCount_inner (c := fun j => (ts.map fun t => t.nd.cnt)[j]?.getD 0) s w wK (by simp; omega) (fun i hi => ?_) (fun i hi => ?_) fun h s => ?_
  · have hi' : i < ts.length := by simpa using hi
    obtain ⟨a1, a2, a3, hmem⟩ := GT.topA (t := ts[i])
    refine ⟨a1, a2, a3, ?_⟩
    simp only [List.getElem_map, List.getElem?_map, List.getElem?_eq_getElem hi', Option.map_some, Option.getD_some]
    exact List.mem_append.2 (.inl (hE _ (List.getElem_mem hi') _ hmem))
  · rw [hsum i (by simpa using hi)]
    have := sum_take_le (ts.map fun t => t.pt.items.length) i
    omega
  · rw [show (ts.map GT.id).length = ts.length by simp, hsum _ (Nat.le_refl _), List.take_of_length_le (by simp)] at s
    rw [mfp] at s
    exact H h (by rw [Int.natCast_add]; exact s)

theorem nodeSplit_ok : ∀ {k : Nat} (t : GT It k) {h : Heap} {E : List Rg} {tb m lo : Nat} {iso mn : Int} {ctr : Option Addr}, (tb, 0, hd0 iso ctr) ∈ Z → (tb, 4, hd4 mn m) ∈ Z → 0 < m → m ≤ 1024 → t.pt.Fl m lo → t.pt.its.length = m → t.pt.items.length ≤ 4611686018427387904 → Gd iso t →
    St h0 Z (t.all enc ++ E) h → (∀ (l r : GT It k) md h', t.pt.its[m / 2]? = some md → l.pt = t.pt.lo (m / 2) → r.pt = t.pt.hi (m / 2) → l.id = t.id → Gd iso l → Gd iso r → St h0 Z (l.all enc ++ (r.all enc ++ E)) h' → Q (.tuple #[ptr r.id 0, .agg (enc md).toArray]) h') →
    Map_si_nodeSplit.call #[ptr tb 0, ptr t.id 0] h Q
  | 0, (d : Nd It), h, E, tb, m, lo, iso, mn, ctr, hT0, hT4, hm0, hm1, fl, hlen, hsz, g, s, H => by
    obtain ⟨own, n, is', cnt, its, iv, ib, io, isp, kb, kv, krb, kro, ksp⟩ := d
    have hi : ∀ {E h}, St h0 Z E h → cl h tb 0 = some (.int .u64 iso) := fun s => by have := s.getZ hT0 (j := 0) (by simp); simpa using this
    have hlen : its.length = m := hlen
    have w : Own 2 iv its.length ib io (its.flatMap enc) isp := g.wf.1
    have s : St h0 Z ((n, 0, [.int .u64 is', .int .i64 cnt, iv, .pointer none]) :: (ib, io, its.flatMap enc ++ isp) :: E) h := s
    have hiso : is' = iso := g.wf.2.1 g.mine
    subst hiso
    obtain ⟨md, hmd⟩ : ∃ md, its[m / 2]? = some md := ⟨its[m / 2]'(by omega), List.getElem?_eq_getElem (by omega)⟩
    show Map_si_nodeSplit.call #[ptr tb 0, ptr n 0] h Q
    refine Map_si_nodeSplit.body _ _ _ _ ?_
    unfold Map_si_nodeSplit.sh
    refine s.r_alloc fun t5 h s => ?_
    refine r_nil ?_
    refine r_fld ?_
    refine s.r_lz hT4 3 rfl rfl ?_
    refine r_div (by decide) (half (by omega)) ?_
    refine r_nil ?_
    refine r_fld ?_
    refine St.r_load0 s 1 rfl rfl ?_
    refine w.idx (n := m / 2) rfl (by omega) ?_
    refine s.r_loadF encl 2 rfl hmd ?_
    refine St.r_storeN0 s 0 rfl rfl (by simp) (enc1 _) ?_; intro h s
    refine leaf_ok (a := none) (s.get (k := 1) (j := 3) rfl (by simp)) ?_
    refine newNode_leaf (hi s) fun n' h s1 => ?_
    have s := s.join s1
    refine r_nil ?_
    refine r_fld ?_
    refine St.r_load0 s 2 rfl rfl ?_
    refine r_add (z := ((m / 2 + 1 : Nat) : Int)) (by rw [i64w (by omega) (by omega)]; omega) ?_
    refine w.slcLo encl (i := m / 2 + 1) rfl (by omega) fun vr wr => ?_
    refine r_nil ?_
    refine r_fld ?_
    refine St.r_store0 s 0 rfl (by simp) wr.one ?_; intro h s
    refine leaf_ok (a := none) (s.get (k := 2) (j := 3) rfl (by simp)) ?_
    refine r_not ?_
    refine r_if (fun e => absurd e (by decide)) (fun _ => ?_)
    unfold Map_si_nodeSplit.j1
    refine updateCount_leaf s wr fun h s => ?_
    refine r_nil ?_
    refine r_fld ?_
    refine St.r_load0 s 2 rfl rfl ?_
    refine r_nil ?_
    refine r_fld ?_
    refine s.r_lzN hT4 0 rfl (by simp) ?_
    refine w.idx (n := m / 2) rfl (by omega) ?_
    refine s.r_storeF (x := emp) encl 3 rfl (by omega) (enc1 _) fun h s => ?_
    refine r_nil ?_
    refine r_fld ?_
    refine St.r_load0 s 2 rfl rfl ?_
    refine w.slc3 encl (i := m / 2) rfl rfl (by omega) fun vl wl => ?_
    refine r_nil ?_
    refine r_fld ?_
    refine St.r_store0 s 2 rfl (by simp) wl.one ?_; intro h s
    refine leaf_ok (a := none) (s.get (k := 2) (j := 3) rfl (by simp)) ?_
    refine r_not ?_
    refine r_if (fun e => absurd e (by decide)) (fun _ => ?_)
    unfold Map_si_nodeSplit.j2
    refine updateCount_leaf (s.front 2 rfl) wl fun h s => ?_
    refine St.r_loadN0 s 2 rfl (by simp) ?_
    refine St.r_storeN0 s 2 rfl rfl (by simp) (enc1 _) ?_; intro h s
    refine St.r_loadN0 s 2 rfl (by simp) ?_
    have s : St h0 Z ((n, 0, [.int .u64 is', .int .i64 (its.take (m / 2)).length, vl, .pointer none]) :: (n', 0, [.int .u64 is', .int .i64 (its.drop (m / 2 + 1)).length, vr, .pointer none]) :: (t5, 0, enc md) :: (ib, io, (its.set (m / 2) emp).flatMap enc ++ isp) :: E) h := s
    have s := St.cut3 encl (x := emp) (i := m / 2) (s.front 3 rfl) (by rw [List.getElem?_set_self (by omega)])
    rw [List.take_set_of_le (Nat.le_refl _), List.drop_set_of_lt (by omega)] at s
    have hl1 : (its.take (m / 2)).length = m / 2 := by rw [List.length_take]; omega
    refine H (⟨true, n, is', (its.take (m / 2)).length, its.take (m / 2), vl, ib, io, [], 0, .pointer none, 0, 0, []⟩ : Nd It) (⟨true, n', is', (its.drop (m / 2 + 1)).length, its.drop (m / 2 + 1), vr, ib, io + (m / 2 + 1) * 2, isp, 0, .pointer none, 0, 0, []⟩ : Nd It) md h hmd rfl rfl rfl ⟨⟨wl, by simp⟩, rfl, rfl⟩ ⟨⟨wr, by simp⟩, rfl, rfl⟩ ?_
    exact (s.perm (E' := (ib, io + m / 2 * 2, enc emp) :: (t5, 0, enc md) :: (n, 0, [.int .u64 is', .int .i64 (its.take (m / 2)).length, vl, .pointer none]) :: (ib, io, (its.take (m / 2)).flatMap enc ++ []) :: (n', 0, [.int .u64 is', .int .i64 (its.drop (m / 2 + 1)).length, vr, .pointer none]) :: (ib, io + (m / 2 + 1) * 2, (its.drop (m / 2 + 1)).flatMap enc ++ isp) :: E) (by rw [List.append_nil]; ((apply perm_rg; intro f; simp only [List.set_cons_zero, List.set_cons_succ, List.eraseIdx_cons_zero, List.eraseIdx_cons_succ, List.cons_append, List.nil_append, List.map_append, List.map_cons, List.map_nil, List.sum_append, List.sum_cons, List.sum_nil, List.map_flatMap, Nat.add_zero, Nat.zero_add]; ac_rfl)))).drop 2
  | k + 1, t, h, E, tb, m, lo, iso, mn, ctr, hT0, hT4, hm0, hm1, fl, hlen, hsz, g, s, H => by
    obtain ⟨d, ts⟩ := t
    obtain ⟨own, n, is', cnt, its, iv, ib, io, isp, kb, kv, krb, kro, ksp⟩ := d
    have hi : ∀ {E h}, St h0 Z E h → cl h tb 0 = some (.int .u64 iso) := fun s => by have := s.getZ hT0 (j := 0) (by simp); simpa using this
    have hlen : its.length = m := hlen
    have w : Own 2 iv its.length ib io (its.flatMap enc) isp := g.wf.1.1
    have wK : Own 1 kv ts.length krb kro ((ts.map GT.id).map fun m => ptr m 0) ksp := g.wf.2.1
    have hkl : ts.length = its.length + 1 := g.wf.2.2.1
    have hidl : (ts.map GT.id).length = ts.length := List.length_map ..
    have hiso : is' = iso := g.wf.1.2.1 g.mine.1
    subst hiso
    rw [← hidl, mfp] at wK
    have s : St h0 Z ((n, 0, [.int .u64 is', .int .i64 cnt, iv, ptr kb 0]) :: (ib, io, its.flatMap enc ++ isp) :: (kb, 0, [kv]) :: (krb, kro, ((ts.map GT.id).map fun m => ptr m 0) ++ ksp) :: (ts.flatMap (GT.all enc) ++ E)) h := s
    rw [mfp] at s
    have hmem : ∀ t ∈ ts, ∀ r ∈ t.all enc, r ∈ ts.flatMap (GT.all enc) ++ E := fun t ht r hr => List.mem_append.2 (.inl (List.mem_flatMap.2 ⟨t, ht, hr⟩))
    have hsz' : its.length + (ts.map fun t => t.pt.items.length).sum ≤ 4611686018427387904 := by
      have h1 : (inter its ((ts.map GT.pt).map PT.items)).length = _ := inter_length _ _
      rw [List.map_map, List.map_map] at h1
      have h2 : (inter its ((ts.map GT.pt).map PT.items)).length ≤ 4611686018427387904 := hsz
      rw [List.map_map] at h2
      rw [h1] at h2; exact h2
    have hcn : ∀ t ∈ ts, t.Cn := fun t ht => g.cn.2 t ht
    have hsum : (ts.map fun t => t.pt.items.length).sum = ((ts.take (m / 2 + 1)).map fun t => t.pt.items.length).sum + ((ts.drop (m / 2 + 1)).map fun t => t.pt.items.length).sum := by
      rw [← List.sum_append, ← List.map_append, List.take_append_drop]
    obtain ⟨md, hmd⟩ : ∃ md, its[m / 2]? = some md := ⟨its[m / 2]'(by omega), List.getElem?_eq_getElem (by omega)⟩
    show Map_si_nodeSplit.call #[ptr tb 0, ptr n 0] h Q
    refine Map_si_nodeSplit.body _ _ _ _ ?_
    unfold Map_si_nodeSplit.sh
    refine s.r_alloc fun t5 h s => ?_
    refine r_nil ?_
    refine r_fld ?_
    refine s.r_lz hT4 3 rfl rfl ?_
    refine r_div (by decide) (half (by omega)) ?_
    refine r_nil ?_
    refine r_fld ?_
    refine St.r_load0 s 1 rfl rfl ?_
    refine w.idx (n := m / 2) rfl (by omega) ?_
    refine s.r_loadF encl 2 rfl hmd ?_
    refine St.r_storeN0 s 0 rfl rfl (by simp) (enc1 _) ?_; intro h s
    refine leaf_ok (a := some ⟨kb, 0, none⟩) (s.get (k := 1) (j := 3) rfl (by simp)) ?_
    refine newNode_inner (hi s) fun n' kb' h s1 => ?_
    have s := s.join s1
    refine r_nil ?_
    refine r_fld ?_
    refine St.r_load0 s 3 rfl rfl ?_
    refine r_add (z := ((m / 2 + 1 : Nat) : Int)) (by rw [i64w (by omega) (by omega)]; omega) ?_
    refine w.slcLo encl (i := m / 2 + 1) rfl (by omega) fun vr wr => ?_
    refine r_nil ?_
    refine r_fld ?_
    refine St.r_store0 s 0 rfl (by simp) wr.one ?_; intro h s
    refine leaf_ok (a := some ⟨kb, 0, none⟩) (s.get (k := 3) (j := 3) rfl (by simp)) ?_
    refine r_not ?_
    refine r_if (fun _ => ?_) (fun e => absurd e (by simp))
    refine r_nil ?_
    refine r_fld ?_
    refine St.r_load0 s 0 rfl rfl ?_
    refine r_nil ?_
    refine r_fld ?_
    refine St.r_load0 s 3 rfl rfl ?_
    refine r_nil ?_
    refine St.r_load0 s 5 rfl rfl ?_
    refine r_add (z := ((m / 2 + 1 : Nat) : Int)) (by rw [i64w (by omega) (by omega)]; omega) ?_
    refine wK.slcLo fpl (i := m / 2 + 1) rfl (by omega) fun vkr wkr => ?_
    refine r_nil ?_
    refine St.r_store0 s 1 rfl (by simp) wkr.one ?_; intro h s
    unfold Map_si_nodeSplit.j1
    have ecut : (ts.map GT.id).flatMap fp ++ ksp = ((ts.take (m / 2 + 1)).map GT.id).flatMap fp ++ (((ts.drop (m / 2 + 1)).map GT.id).flatMap fp ++ ksp) := by
      rw [← List.append_assoc, ← List.flatMap_append, ← List.map_append, List.take_append_drop]
    have s := s.front 6 rfl
    rw [ecut] at s
    have s := s.cut
    rw [flat_len fpl, List.length_map, List.length_take, Nat.min_eq_left (show m / 2 + 1 ≤ ts.length by omega)] at s
    rw [← List.map_drop] at wkr
    refine updateCount_kids (ts := ts.drop (m / 2 + 1)) (s.perm (E' := (n', 0, _) :: (kb', 0, _) :: (krb, kro + (m / 2 + 1) * 1, ((ts.drop (m / 2 + 1)).map GT.id).flatMap fp ++ ksp) :: (krb, kro, ((ts.take (m / 2 + 1)).map GT.id).flatMap fp) :: (t5, 0, enc md) :: (n, 0, [.int .u64 is', .int .i64 cnt, iv, ptr kb 0]) :: (ib, io, its.flatMap enc ++ isp) :: (kb, 0, [kv]) :: (ts.flatMap (GT.all enc) ++ E)) (by ((apply perm_rg; intro f; simp only [List.set_cons_zero, List.set_cons_succ, List.eraseIdx_cons_zero, List.eraseIdx_cons_succ, List.cons_append, List.nil_append, List.map_append, List.map_cons, List.map_nil, List.sum_append, List.sum_cons, List.sum_nil, List.map_flatMap, Nat.add_zero, Nat.zero_add]; ac_rfl)))) wr wkr (fun t ht => hcn t (List.mem_of_mem_drop ht))
      (fun t ht r hr => by have := hmem t (List.mem_of_mem_drop ht) r hr; simp only [List.mem_cons]; exact .inr (.inr (.inr (.inr (.inr this))))) (by rw [List.length_drop]; omega) (by rw [List.length_drop]; omega) fun h s => ?_
    refine r_nil ?_
    refine r_fld ?_
    refine St.r_load0 s 5 rfl rfl ?_
    refine r_nil ?_
    refine r_fld ?_
    refine s.r_lzN hT4 0 rfl (by simp) ?_
    refine w.idx (n := m / 2) rfl (by omega) ?_
    refine s.r_storeF (x := emp) encl 6 rfl (by omega) (enc1 _) fun h s => ?_
    refine r_nil ?_
    refine r_fld ?_
    refine St.r_load0 s 5 rfl rfl ?_
    refine w.slc3 encl (i := m / 2) rfl rfl (by omega) fun vl wl => ?_
    refine r_nil ?_
    refine r_fld ?_
    refine St.r_store0 s 5 rfl (by simp) wl.one ?_; intro h s
    refine leaf_ok (a := some ⟨kb, 0, none⟩) (s.get (k := 5) (j := 3) rfl (by simp)) ?_
    refine r_not ?_
    refine r_if (fun _ => ?_) (fun e => absurd e (by simp))
    refine r_nil ?_
    refine r_fld ?_
    refine St.r_load0 s 5 rfl rfl ?_
    refine r_nil ?_
    refine r_fld ?_
    refine St.r_load0 s 5 rfl rfl ?_
    refine r_nil ?_
    refine St.r_load0 s 7 rfl rfl ?_
    refine r_add (z := ((m / 2 + 1 : Nat) : Int)) (by rw [i64w (by omega) (by omega)]; omega) ?_
    refine r_add (z := ((m / 2 + 1 : Nat) : Int)) (by rw [i64w (by omega) (by omega)]; omega) ?_
    refine wK.slc3 fpl (i := m / 2 + 1) rfl rfl (by omega) fun vkl wkl => ?_
    refine r_nil ?_
    refine St.r_store0 s 7 rfl (by simp) wkl.one ?_; intro h s
    unfold Map_si_nodeSplit.j2
    rw [← List.map_take] at wkl
    have s : St h0 Z ((n, 0, [.int .u64 is', .int .i64 cnt, vl, ptr kb 0]) :: (kb, 0, [vkl]) :: (krb, kro, ((ts.take (m / 2 + 1)).map GT.id).flatMap fp ++ []) :: (n', 0, [.int .u64 is', .int .i64 (((its.drop (m / 2 + 1)).length + ((ts.drop (m / 2 + 1)).map fun t => t.pt.items.length).sum : Nat) : Int), vr, ptr kb' 0]) :: (kb', 0, [vkr]) :: (krb, kro + (m / 2 + 1) * 1, ((ts.drop (m / 2 + 1)).map GT.id).flatMap fp ++ ksp) :: (t5, 0, enc md) :: (ib, io, (its.set (m / 2) emp).flatMap enc ++ isp) :: (ts.flatMap (GT.all enc) ++ E)) h := s.perm (by rw [List.append_nil]; ((apply perm_rg; intro f; simp only [List.set_cons_zero, List.set_cons_succ, List.eraseIdx_cons_zero, List.eraseIdx_cons_succ, List.cons_append, List.nil_append, List.map_append, List.map_cons, List.map_nil, List.sum_append, List.sum_cons, List.sum_nil, List.map_flatMap, Nat.add_zero, Nat.zero_add]; ac_rfl)))
    refine updateCount_kids (ts := ts.take (m / 2 + 1)) s wl wkl (fun t ht => hcn t (List.mem_of_mem_take ht))
      (fun t ht r hr => by have := hmem t (List.mem_of_mem_take ht) r hr; simp only [List.mem_cons]; exact .inr (.inr (.inr (.inr (.inr this))))) (by rw [List.length_take]; omega) (by rw [List.length_take]; omega) fun h s => ?_
    refine St.r_loadN0 s 6 rfl (by simp) ?_
    refine St.r_storeN0 s 6 rfl rfl (by simp) (enc1 _) ?_; intro h s
    refine St.r_loadN0 s 6 rfl (by simp) ?_
    have s := St.cut3 encl (x := emp) (i := m / 2) (s.front 7 rfl) (by rw [List.getElem?_set_self (by omega)])
    rw [List.take_set_of_le (Nat.le_refl _), List.drop_set_of_lt (by omega)] at s
    have cnt' : ∀ (a : List It) (b : List (GT It k)), (inter a ((b.map GT.pt).map PT.items)).length = a.length + (b.map fun t => t.pt.items.length).sum := fun a b => by
      rw [inter_length, List.map_map, List.map_map]; rfl
    refine H ((⟨true, n, is', (((its.take (m / 2)).length + ((ts.take (m / 2 + 1)).map fun t => t.pt.items.length).sum : Nat) : Int), its.take (m / 2), vl, ib, io, [], kb, vkl, krb, kro, []⟩ : Nd It), ts.take (m / 2 + 1)) ((⟨true, n', is', (((its.drop (m / 2 + 1)).length + ((ts.drop (m / 2 + 1)).map fun t => t.pt.items.length).sum : Nat) : Int), its.drop (m / 2 + 1), vr, ib, io + (m / 2 + 1) * 2, isp, kb', vkr, krb, kro + (m / 2 + 1) * 1, ksp⟩ : Nd It), ts.drop (m / 2 + 1)) md h hmd ?_ ?_ rfl ?_ ?_ ?_
    · show (its.take (m / 2), (ts.take (m / 2 + 1)).map GT.pt) = (its.take (m / 2), (ts.map GT.pt).take (m / 2 + 1)); rw [List.map_take]
    · show (its.drop (m / 2 + 1), (ts.drop (m / 2 + 1)).map GT.pt) = (its.drop (m / 2 + 1), (ts.map GT.pt).drop (m / 2 + 1)); rw [List.map_drop]
    · refine ⟨⟨⟨wl, by simp⟩, ?_, ?_, fun c hc => ⟨(g.wf.2.2.2 c (List.mem_of_mem_take hc)).1, fun e => by simp at e⟩⟩, ⟨?_, fun c hc => g.cn.2 c (List.mem_of_mem_take hc)⟩, ⟨rfl, fun c hc => g.mine.2 c (List.mem_of_mem_take hc)⟩⟩
      · rw [mfp]; rw [List.length_map] at wkl; exact wkl
      · show (ts.take (m / 2 + 1)).length = (its.take (m / 2)).length + 1; rw [List.length_take, List.length_take]; omega
      · exact congrArg Int.ofNat (cnt' _ _).symm
    · refine ⟨⟨⟨wr, by simp⟩, ?_, ?_, fun c hc => ⟨(g.wf.2.2.2 c (List.mem_of_mem_drop hc)).1, fun e => by simp at e⟩⟩, ⟨?_, fun c hc => g.cn.2 c (List.mem_of_mem_drop hc)⟩, ⟨rfl, fun c hc => g.mine.2 c (List.mem_of_mem_drop hc)⟩⟩
      · rw [mfp]; rw [List.length_map] at wkr; exact wkr
      · show (ts.drop (m / 2 + 1)).length = (its.drop (m / 2 + 1)).length + 1; rw [List.length_drop, List.length_drop]; omega
      · exact congrArg Int.ofNat (cnt' _ _).symm
    · have ef : ts.flatMap (GT.all enc) = (ts.take (m / 2 + 1)).flatMap (GT.all enc) ++ (ts.drop (m / 2 + 1)).flatMap (GT.all enc) := by rw [← List.flatMap_append, List.take_append_drop]
      have s := (s.perm (E' := (ib, io + m / 2 * 2, enc emp) :: (t5, 0, enc md) :: (((n, 0, [.int .u64 is', .int .i64 (((its.take (m / 2)).length + ((ts.take (m / 2 + 1)).map fun t => t.pt.items.length).sum : Nat) : Int), vl, ptr kb 0]) :: (ib, io, (its.take (m / 2)).flatMap enc ++ []) :: (kb, 0, [vkl]) :: (krb, kro, ((ts.take (m / 2 + 1)).map GT.id).flatMap fp ++ []) :: (ts.take (m / 2 + 1)).flatMap (GT.all enc)) ++
        (((n', 0, [.int .u64 is', .int .i64 (((its.drop (m / 2 + 1)).length + ((ts.drop (m / 2 + 1)).map fun t => t.pt.items.length).sum : Nat) : Int), vr, ptr kb' 0]) :: (ib, io + (m / 2 + 1) * 2, (its.drop (m / 2 + 1)).flatMap enc ++ isp) :: (kb', 0, [vkr]) :: (krb, kro + (m / 2 + 1) * 1, ((ts.drop (m / 2 + 1)).map GT.id).flatMap fp ++ ksp) :: (ts.drop (m / 2 + 1)).flatMap (GT.all enc)) ++ E))) (by rw [List.append_nil, List.append_nil, ef]; ((apply perm_rg; intro f; simp only [List.set_cons_zero, List.set_cons_succ, List.eraseIdx_cons_zero, List.eraseIdx_cons_succ, List.cons_append, List.nil_append, List.map_append, List.map_cons, List.map_nil, List.sum_append, List.sum_cons, List.sum_nil, List.map_flatMap, Nat.add_zero, Nat.zero_add]; ac_rfl)))).drop 2
      rw [← mfp, ← mfp] at s
      exact s
end Go.Proofs.Ytdpkpcmoabfofaa.Si
end
section
namespace Go.Proofs.Ytdpkpcmoabfofaa.Si
open Go.Hp Go.Proofs.Ytdpkpcmoabfofaa
set_option linter.unusedVariables false
set_option linter.unusedSimpArgs false
variable {h0 h : Heap} {Z E : List Rg} {Q : Value → Heap → Prop}

/-- The value that was there. -/
abbrev old (r : Option It) : Value := vv (r.getD emp).2
theorem snoc_enc (l : List It) (e : It) : l.flatMap enc ++ enc e = (l ++ [e]).flatMap enc := by rw [List.flatMap_append, List.flatMap_singleton]
theorem Gd.leaf {iso : Int} {d : Nd It} (w : Own 2 d.iv d.its.length d.ib d.io (d.its.flatMap enc) d.isp) (ho : d.own = true) (hi : d.iso = iso) (hc : d.cnt = d.its.length) : Gd iso (k := 0) d := ⟨⟨w, by simp [ho, hi]⟩, hc, ho⟩
theorem Gd.inner {iso : Int} {k : Nat} {d : Nd It} {ts : List (GT It k)} (w : Own 2 d.iv d.its.length d.ib d.io (d.its.flatMap enc) d.isp) (ho : d.own = true) (hi : d.iso = iso) (wK : Own 1 d.kv ts.length d.krb d.kro ((ts.map GT.id).flatMap fp) d.ksp)
    (hl : ts.length = d.its.length + 1) (hk : ∀ c ∈ ts, Gd iso c) (hc : d.cnt = (GT.pt (h := k + 1) (d, ts)).items.length) : Gd iso (k := k + 1) (d, ts) :=
  ⟨⟨⟨w, by simp [ho, hi]⟩, by rw [mfp]; exact wK, hl, fun c hc => ⟨(hk c hc).wf, fun e => by rw [ho] at e; cases e⟩⟩, ⟨hc, fun c hc => (hk c hc).cn⟩, ⟨ho, fun c hc => (hk c hc).mine⟩⟩

theorem set_head {n ib io pb po tb : Nat} {iso cnt : Int} {ctr : Option Addr} {iv kp : Value} {its : List It} {isp : List Value} {x : It} (hT0 : (tb, 0, hd0 iso ctr) ∈ Z) (ha : Asc lt its) (hb : its.length ≤ 1024)
    (w : Own 2 iv its.length ib io (its.flatMap enc) isp) (s : St h0 Z ((pb, po, [ptr n 0]) :: (n, 0, [.int .u64 iso, .int .i64 cnt, iv, kp]) :: (ib, io, its.flatMap enc ++ isp) :: E) h)
    (H1 : ∀ y h', lget lt its x = some y → St h0 Z ((pb, po, [ptr n 0]) :: (n, 0, [.int .u64 iso, .int .i64 cnt, iv, kp]) :: (ib, io, (lput lt its x).flatMap enc ++ isp) :: E) h' → Q (.tuple #[vv y.2, .bool true, .bool false]) h')
    (H2 : ∀ t5 t9 h', lget lt its x = none → St h0 Z ((t9, 0, [ptr n 0]) :: (t5, 0, enc x) :: (pb, po, [ptr n 0]) :: (n, 0, [.int .u64 iso, .int .i64 cnt, iv, kp]) :: (ib, io, its.flatMap enc ++ isp) :: E) h' → Map_si_nodeSet.j1 (ptr tb 0) (ptr t5 0) (ptr t9 0) (.int .i64 (pos lt its x)) h' Q) :
    Map_si_nodeSet.call #[ptr tb 0, ptr pb po, .agg (enc x).toArray] h Q := by
  refine Map_si_nodeSet.body _ _ _ _ _ ?_
  unfold Map_si_nodeSet.sh
  refine St.r_box (cs := enc x) s fun t5 h s => ?_
  refine isoLoad_ok (n := n) (iso := iso) (by have := s.getZ hT0 (j := 0) (by simp); simpa using this) (by have := s.get (k := 1) (j := 0) rfl (by simp); simpa using this) (fun _ => by have := s.get (k := 2) (j := 0) rfl (by simp); simpa using this) ?_
  refine s.r_alloc fun t9 h s => ?_
  refine St.r_store0 s 0 rfl (by simp) rfl ?_
  intro h s
  try simp only [List.set_cons_zero, List.set_cons_succ] at s
  refine St.r_load0 s 0 rfl rfl ?_
  refine r_fld ?_
  refine St.r_load0 s 1 rfl rfl ?_
  refine search_ok (x := x) ha (by omega) (by have := s.get (k := 3) (j := 2) rfl (by simp); simpa using this) (w.rdl s 4 rfl) ?_
  refine r_ext rfl ?_
  refine r_ext rfl ?_
  refine r_if (fun hf => ?_) (fun hn => ?_)
  · obtain ⟨y, hy⟩ := Option.isSome_iff_exists.1 hf
    obtain ⟨hp, hyy, _⟩ := lget_some hy
    have hy2 : its[pos lt its x]? = some y := by rw [List.getElem?_eq_getElem hp, hyy]
    refine St.r_load0 s 0 rfl rfl ?_
    refine r_nil ?_
    refine r_fld ?_
    refine St.r_load0 s 3 rfl rfl ?_
    refine w.idx (n := pos lt its x) rfl hp ?_
    refine r_fld ?_
    refine s.r_load1F encl (r := 0) 4 rfl hy2 rfl ?_
    refine St.r_load0 s 0 rfl rfl ?_
    refine r_nil ?_
    refine r_fld ?_
    refine St.r_load0 s 3 rfl rfl ?_
    refine St.r_loadN0 s 1 rfl (by simp) ?_
    refine w.idx (n := pos lt its x) rfl hp ?_
    refine s.r_storeF (x := x) encl 4 rfl hp (enc1 _) fun h s => ?_
    rw [← lput_found hy] at s
    exact H1 y h hy (s.drop 2)
  · have hn : lget lt its x = none := by cases e : lget lt its x with
      | none => rfl
      | some y => rw [e] at hn; cases hn
    exact H2 t5 t9 h hn s

/-- An item between the items of a node. -/
theorem set_leaf {n ib io i t5 t9 tb : Nat} {cnt mn mx : Int} {c1 iv kp : Value} {its : List It} {isp : List Value} {x : It} (htb : h0.size ≤ tb) (hT4 : (tb, 4, hd4 mn mx) ∈ Z) (hl : its.length ≤ 1024) (hi : i ≤ its.length) (hc0 : 0 ≤ cnt) (hc : cnt ≤ 4611686018427387904)
    (w : Own 2 iv its.length ib io (its.flatMap enc) isp) (s : St h0 Z ((t9, 0, [ptr n 0]) :: (t5, 0, enc x) :: (n, 0, [c1, .int .i64 cnt, iv, kp]) :: (ib, io, its.flatMap enc ++ isp) :: E) h)
    (H : ∀ iv' ib' io' isp' h', Own 2 iv' (ins its i x).length ib' io' ((ins its i x).flatMap enc) isp' → St h0 Z ((n, 0, [c1, .int .i64 (cnt + 1), iv', kp]) :: (ib', io', (ins its i x).flatMap enc ++ isp') :: E) h' → Q (.tuple #[vv emp.2, .bool false, .bool false]) h') :
    Map_si_nodeSet.j6 (ptr tb 0) (ptr t5 0) (ptr t9 0) (.int .i64 i) h Q := by
  unfold Map_si_nodeSet.j6
  refine St.r_load0 s 0 rfl rfl ?_
  refine St.r_load0 s 0 rfl rfl ?_
  refine r_nil ?_
  refine r_fld ?_
  refine St.r_load0 s 2 rfl rfl ?_
  refine r_nil ?_
  refine r_fld ?_
  refine s.r_lzE hT4 0 (enc emp) rfl (by simp) rfl ?_
  refine St.r_mkSl (sz := 2) (cs := enc emp) s (by ((simp only [fillV, fill1, Value.cells, zeros_succ, zeros_zero, List.size_toArray, List.length_cons, List.length_nil, List.length_append, List.take_succ_cons, List.take_zero, List.take_nil, List.drop_succ_cons, List.drop_zero, List.drop_nil, List.cons_append, List.nil_append, List.append_nil, Nat.reduceAdd, Nat.reduceMul, Nat.reduceLeDiff, Nat.reduceEqDiff, and_self, and_true, true_and, if_true, Nat.le_refl, Nat.zero_add, Nat.add_zero, Nat.zero_mul, reduceIte, if_false] <;> rfl))) rfl fun q h s w1 => ?_
  refine And.intro (by exact St.r_still0 s 1 rfl rfl) ?_
  refine And.intro (by exact St.r_still0 s 1 rfl rfl) ?_
  refine And.intro (by exact St.r_still0 s 3 rfl rfl) ?_
  refine St.r_app s 4 (sz := 2) (n := 1) (new := enc emp) rfl w rfl (w1.rdl s 0 rfl) (enc1 _) (by omega) (by omega) fun v' b' o' sp' h s w' => ?_
  rw [snoc_enc] at s w'
  have w' : Own 2 v' (its ++ [emp]).length b' o' ((its ++ [emp]).flatMap enc) sp' := by rw [List.length_append]; exact w'
  refine And.intro (by exact St.r_still0 s 1 rfl rfl) ?_
  refine r_nil ?_
  refine r_fld ?_
  refine St.r_store0 s 3 rfl (by simp) w'.one ?_; intro h s
  refine St.r_load0 s 1 rfl rfl ?_
  refine r_nil ?_
  refine r_fld ?_
  refine St.r_load0 s 3 rfl rfl ?_
  refine r_add (z := ((i + 1 : Nat) : Int)) (by rw [i64w (by omega) (by omega)]; omega) ?_
  refine w'.slcLo encl (i := i + 1) rfl (by simp; omega) fun d wd => ?_
  refine St.r_load0 s 1 rfl rfl ?_
  refine r_nil ?_
  refine r_fld ?_
  refine St.r_load0 s 3 rfl rfl ?_
  refine (w'.rdl s 4 rfl).slcLo encl (i := i) rfl (by simp; omega) fun src rs => ?_
  refine s.r_cpyF encl 4 (L := its ++ [emp]) (M := (its ++ [emp]).drop i) rfl wd (by simp; omega) rs rfl (fun y _ => enc1 y) fun h s => ?_
  refine St.r_load0 s 1 rfl rfl ?_
  refine r_nil ?_
  refine r_fld ?_
  refine St.r_load0 s 3 rfl rfl ?_
  refine St.r_loadN0 s 2 rfl (by simp) ?_
  refine w'.idx (n := i) rfl (by simp; omega) ?_
  refine s.r_storeF (x := x) encl 4 rfl (by simp; omega) (enc1 _) fun h s => ?_
  rw [List.set_set, ins_steps its emp x hi] at s
  refine St.r_load0 s 1 rfl rfl ?_
  refine r_nil ?_
  refine r_fld ?_
  refine St.r_load0 s 3 rfl rfl ?_
  refine r_add (z := cnt + 1) (by rw [i64w (by omega) (by omega)]) ?_
  refine r_nil ?_
  refine r_fld ?_
  refine St.r_store0 s 3 rfl (by simp) rfl ?_; intro h s
  refine r_nil ?_
  refine r_fld ?_
  refine r_fld ?_
  refine s.r_lz hT4 0 rfl rfl ?_
  refine H v' b' o' sp' h ?_ (s.drop 3)
  have e := ins_length (x := x) hi
  rw [show (ins its i x).length = (its ++ [emp]).length by rw [e]; simp]
  exact w'.cong (by rw [flat_len encl, flat_len encl, e]; simp)

/-- Setting below a node of height k, as told by the plain tree. -/
def SetOk (h0 : Heap) (Z : List Rg) (tb m : Nat) (iso : Int) (x : It) (k : Nat) : Prop :=
  ∀ (t : GT It k) {h : Heap} {E : List Rg} {Q : Value → Heap → Prop} {pb po lo : Nat}, t.pt.Fl m lo → Asc lt t.pt.items → t.pt.items.length ≤ 4611686018427387903 → Gd iso t → St h0 Z ((pb, po, [ptr t.id 0]) :: (t.all enc ++ E)) h →
    (∀ (t' : GT It k) h', t'.pt = (if t.pt.splits lt m x then t.pt else t.pt.set lt m x) → t'.id = t.id → Gd iso t' → St h0 Z ((pb, po, [ptr t.id 0]) :: (t'.all enc ++ E)) h' →
      Q (.tuple #[old (t.pt.get lt x), .bool (t.pt.get lt x).isSome, .bool (t.pt.splits lt m x)]) h') → Map_si_nodeSet.call #[ptr tb 0, ptr pb po, .agg (enc x).toArray] h Q

theorem SetOk.zero {tb m : Nat} {iso mn : Int} {ctr : Option Addr} {x : It} (htb : h0.size ≤ tb) (hT0 : (tb, 0, hd0 iso ctr) ∈ Z) (hT4 : (tb, 4, hd4 mn m) ∈ Z) (hm1 : m ≤ 1024) : SetOk h0 Z tb m iso x 0 := by
  intro d h E Q pb po lo fl ha hsz g s H
  obtain ⟨own, n, is', cnt, its, iv, ib, io, isp, kb, kv, krb, kro, ksp⟩ := d
  have w : Own 2 iv its.length ib io (its.flatMap enc) isp := g.wf.1
  have hlen : its.length ≤ m := fl.2
  have hcn : cnt = its.length := g.cn
  have ho : own = true := g.mine
  have hiso : is' = iso := g.wf.2.1 ho
  subst hiso; subst ho
  have s : St h0 Z ((pb, po, [ptr n 0]) :: (n, 0, [.int .u64 is', .int .i64 cnt, iv, .pointer none]) :: (ib, io, its.flatMap enc ++ isp) :: E) h := s
  have ha : Asc lt its := ha
  refine set_head hT0 ha (by omega) w s (fun y h' hy s => ?_) fun t5 t9 h' hn s => ?_
  · have hns : PT.splits lt m (h := 0) its x = false := by rw [PT.splits_leaf, hy]; rfl
    have hg : PT.get lt (h := 0) its x = some y := hy
    have hln : (lput lt its x).length = its.length := by rw [lput_length, hy]; rfl
    have := H (⟨true, n, is', cnt, lput lt its x, iv, ib, io, isp, kb, kv, krb, kro, ksp⟩ : Nd It) h' (by show _ = if PT.splits lt m (h := 0) its x = true then _ else _; rw [hns]; rfl) rfl
      (Gd.leaf (by show Own 2 iv (lput lt its x).length ib io ((lput lt its x).flatMap enc) isp; rw [hln]; exact w.cong (by rw [flat_len encl, flat_len encl, hln])) rfl rfl (by show cnt = (lput lt its x).length; rw [hln]; exact hcn)) s
    change Q (.tuple #[old (PT.get lt (h := 0) its x), .bool (PT.get lt (h := 0) its x).isSome, .bool (PT.splits lt m (h := 0) its x)]) h' at this
    rw [hns, hg] at this
    exact this
  · unfold Map_si_nodeSet.j1
    have hg : PT.get lt (h := 0) its x = none := hn
    refine St.r_load0 s 0 rfl rfl ?_
    refine leaf_ok (a := none) (s.get (k := 3) (j := 3) rfl (by simp)) ?_
    refine r_if (fun _ => ?_) (fun e => absurd e (by simp))
    refine St.r_load0 s 0 rfl rfl ?_
    refine r_nil ?_
    refine r_fld ?_
    refine St.r_load0 s 3 rfl rfl ?_
    refine w.lenV ?_
    refine r_nil ?_
    refine r_fld ?_
    refine s.r_lz hT4 3 rfl rfl ?_
    refine r_cmpI ?_
    refine r_if (fun hfull => ?_) (fun hroom => ?_)
    · have hfull : its.length = m := Int.ofNat_inj.1 (by simpa using hfull)
      have hsp : PT.splits lt m (h := 0) its x = true := by rw [PT.splits_leaf, hn]; simpa using hfull
      refine r_nil ?_
      refine r_fld ?_
      refine r_fld ?_
      refine s.r_lz hT4 0 rfl rfl ?_
      have := H (⟨true, n, is', cnt, its, iv, ib, io, isp, kb, kv, krb, kro, ksp⟩ : Nd It) h' (by show _ = if PT.splits lt m (h := 0) its x = true then _ else _; rw [hsp]; rfl) rfl g (s.drop 2)
      change Q (.tuple #[old (PT.get lt (h := 0) its x), .bool (PT.get lt (h := 0) its x).isSome, .bool (PT.splits lt m (h := 0) its x)]) h' at this
      rw [hsp, hg] at this
      exact this
    · have hroom : its.length ≠ m := fun e => by rw [e] at hroom; simp at hroom
      have hsp : PT.splits lt m (h := 0) its x = false := by rw [PT.splits_leaf, hn]; simpa using hroom
      have hp := pos_le (lt := lt) its x
      refine set_leaf (n := n)  (t5 := t5) (t9 := t9) (x := x) (c1 := .int .u64 is') (kp := .pointer none) (cnt := cnt) (its := its) (E := (pb, po, [ptr n 0]) :: E) htb hT4 (by omega) hp (by omega) (by omega) w (s.perm (by ((apply perm_rg; intro f; simp only [List.set_cons_zero, List.set_cons_succ, List.eraseIdx_cons_zero, List.eraseIdx_cons_succ, List.cons_append, List.nil_append, List.map_append, List.map_cons, List.map_nil, List.sum_append, List.sum_cons, List.sum_nil, List.map_flatMap, Nat.add_zero, Nat.zero_add]; ac_rfl)))) fun iv' ib' io' isp' h' w' s => ?_
      rw [← lput_ins hn] at w' s
      have hln : (lput lt its x).length = its.length + 1 := by rw [lput_length, hn]; rfl
      have := H (⟨true, n, is', cnt + 1, lput lt its x, iv', ib', io', isp', kb, kv, krb, kro, ksp⟩ : Nd It) h' (by show _ = if PT.splits lt m (h := 0) its x = true then _ else _; rw [hsp]; rfl) rfl
        (Gd.leaf w' rfl rfl (by show cnt + 1 = (lput lt its x).length; omega)) (s.front 2 rfl)
      change Q (.tuple #[old (PT.get lt (h := 0) its x), .bool (PT.get lt (h := 0) its x).isSome, .bool (PT.splits lt m (h := 0) its x)]) h' at this
      rw [hsp, hg] at this
      exact this
end Go.Proofs.Ytdpkpcmoabfofaa.Si
end
section
namespace Go.Proofs.Ytdpkpcmoabfofaa.Si
open Go.Hp Go.Proofs.Ytdpkpcmoabfofaa
set_option linter.unusedVariables false
set_option linter.unusedSimpArgs false
variable {h0 h : Heap} {Z E : List Rg} {Q : Value → Heap → Prop}

theorem flat_at3 {β : Type} (f : β → List Rg) {ts : List β} {i : Nat} {c : β} (hc : ts[i]? = some c) : ts.flatMap f = (ts.take i).flatMap f ++ (f c ++ (ts.drop (i + 1)).flatMap f) := by
  conv => lhs; rw [take_at hc, List.flatMap_append, List.flatMap_cons]
theorem set_ids {k : Nat} {ts : List (GT It k)} {i : Nat} {c c' : GT It k} (hc : ts[i]? = some c) (he : c'.id = c.id) : (ts.set i c').map GT.id = ts.map GT.id := by
  obtain ⟨hi, rfl⟩ := List.getElem?_eq_some_iff.1 hc
  rw [List.map_set, he]
  apply List.ext_getElem?
  intro j
  rw [List.getElem?_set]
  split
  · rename_i e; subst e
    simp [hi]
  · rfl
/-- A call below a kid: the kid's cell and the kid's ranges are lent. -/
theorem lend_kid {k : Nat} {ts : List (GT It k)} {i kb krb kro : Nat} {kv : Value} {ksp : List Value} {A : List Rg} {c : GT It k} (hc : ts[i]? = some c)
    (s : St h0 Z (A ++ ((krb, kro, (ts.map GT.id).flatMap fp ++ ksp) :: (ts.flatMap (GT.all enc) ++ E))) h) :
    ∃ E', St h0 Z ((krb, kro + i * 1, [ptr c.id 0]) :: (c.all enc ++ E')) h ∧ ∀ (c' : GT It k) h', c'.id = c.id → St h0 Z ((krb, kro + i * 1, [ptr c.id 0]) :: (c'.all enc ++ E')) h' →
      St h0 Z (A ++ ((krb, kro, ((ts.set i c').map GT.id).flatMap fp ++ ksp) :: ((ts.set i c').flatMap (GT.all enc) ++ E))) h' := by
  have hid : (ts.map GT.id)[i]? = some c.id := by rw [List.getElem?_map, hc]; rfl
  have s1 : St h0 Z ((krb, kro, (ts.map GT.id).flatMap fp ++ ksp) :: (A ++ (ts.flatMap (GT.all enc) ++ E))) h := s.perm (by ((apply perm_rg; intro f; simp only [List.set_cons_zero, List.set_cons_succ, List.eraseIdx_cons_zero, List.eraseIdx_cons_succ, List.cons_append, List.nil_append, List.map_append, List.map_cons, List.map_nil, List.sum_append, List.sum_cons, List.sum_nil, List.map_flatMap, Nat.add_zero, Nat.zero_add]; ac_rfl)))
  have s2 := St.cut3 fpl s1 hid
  refine ⟨(krb, kro, ((ts.map GT.id).take i).flatMap fp) :: (krb, kro + (i + 1) * 1, ((ts.map GT.id).drop (i + 1)).flatMap fp ++ ksp) :: (A ++ ((ts.take i).flatMap (GT.all enc) ++ ((ts.drop (i + 1)).flatMap (GT.all enc) ++ E))), s2.perm ?_, fun c' h' he s' => ?_⟩
  · rw [flat_at3 (GT.all enc) hc]; ((apply perm_rg; intro f; simp only [List.set_cons_zero, List.set_cons_succ, List.eraseIdx_cons_zero, List.eraseIdx_cons_succ, List.cons_append, List.nil_append, List.map_append, List.map_cons, List.map_nil, List.sum_append, List.sum_cons, List.sum_nil, List.map_flatMap, Nat.add_zero, Nat.zero_add]; ac_rfl))
  · have hi := (List.getElem?_eq_some_iff.1 hc).1
    have hc' : (ts.set i c')[i]? = some c' := by rw [List.getElem?_set_self hi]
    rw [set_ids hc he, flat_at3 (GT.all enc) hc', List.take_set_of_le (Nat.le_refl _), List.drop_set_of_lt (by omega)]
    have s3 : St h0 Z ((krb, kro, ((ts.map GT.id).take i).flatMap fp) :: (krb, kro + (i + 1) * 1, ((ts.map GT.id).drop (i + 1)).flatMap fp ++ ksp) :: (krb, kro + i * 1, fp c.id) :: (A ++ ((ts.take i).flatMap (GT.all enc) ++ (c'.all enc ++ ((ts.drop (i + 1)).flatMap (GT.all enc) ++ E))))) h' := s'.perm (by ((apply perm_rg; intro f; simp only [List.set_cons_zero, List.set_cons_succ, List.eraseIdx_cons_zero, List.eraseIdx_cons_succ, List.cons_append, List.nil_append, List.map_append, List.map_cons, List.map_nil, List.sum_append, List.sum_cons, List.sum_nil, List.map_flatMap, Nat.add_zero, Nat.zero_add]; ac_rfl)))
    have s4 := St.glue3 fpl hid s3
    exact s4.perm (by ((apply perm_rg; intro f; simp only [List.set_cons_zero, List.set_cons_succ, List.eraseIdx_cons_zero, List.eraseIdx_cons_succ, List.cons_append, List.nil_append, List.map_append, List.map_cons, List.map_nil, List.sum_append, List.sum_cons, List.sum_nil, List.map_flatMap, Nat.add_zero, Nat.zero_add]; ac_rfl)))
theorem r_loadM1 {k : Nat} {ts : List (GT It k)} {K : Value → Prop} (s : St h0 Z E h) (j : Nat) {b o i : Nat} {sp : List Value} {c : GT It k} (hk : E[j]? = some (b, o, (ts.map GT.id).flatMap fp ++ sp)) (hc : ts[i]? = some c) (H : K (ptr c.id 0)) : load1 (ptr b (o + i * 1)) h K := by
  have := s.r_load1F (K := K) (r := 0) fpl j hk (show (ts.map GT.id)[i]? = some c.id by rw [List.getElem?_map, hc]; rfl) (v := ptr c.id 0) rfl H
  exact this

/-- What a changed kid makes of a node. -/
theorem Gd.setKid {iso : Int} {k : Nat} {d : Nd It} {ts : List (GT It k)} (g : Gd iso (k := k + 1) (d, ts)) {i : Nat} {c c' : GT It k} (hc : ts[i]? = some c) (he : c'.id = c.id) (g' : Gd iso c') {cnt : Int}
    (hcnt : cnt = (GT.pt (h := k + 1) (d, ts.set i c')).items.length) : Gd iso (k := k + 1) ({ d with cnt := cnt }, ts.set i c') := by
  have wK := g.wf.2.1
  refine Gd.inner g.wf.1.1 g.mine.1 (g.wf.1.2.1 g.mine.1) ?_ (by rw [List.length_set]; exact g.wf.2.2.1) (fun q hq => ?_) hcnt
  · rw [set_ids hc he, List.length_set, ← mfp]; exact wK
  · rcases List.mem_or_eq_of_mem_set hq with e | e
    · exact g.kid e
    · rw [e]; exact g'

theorem set_noSplit {tb m : Nat} {iso mn : Int} {ctr : Option Addr} {x : It} (htb : h0.size ≤ tb) (hT0 : (tb, 0, hd0 iso ctr) ∈ Z) (hT4 : (tb, 4, hd4 mn m) ∈ Z) (hm1 : m ≤ 1024) (ho : m % 2 = 1) {k : Nat} (ih : SetOk h0 Z tb m iso x k)
    (t : GT It (k + 1)) {pb po lo : Nat} (fl : t.pt.Fl m lo) (ha : Asc lt t.pt.items) (hsz : t.pt.items.length ≤ 4611686018427387903) (g : Gd iso t) (s : St h0 Z ((pb, po, [ptr t.id 0]) :: (t.all enc ++ E)) h)
    (hns : ∀ c, t.pt.2[pos lt t.pt.1 x]? = some c → lget lt t.pt.1 x = none → c.splits lt m x = false)
    (H : ∀ (t' : GT It (k + 1)) h', t'.pt = t.pt.set lt m x → t'.id = t.id → Gd iso t' → St h0 Z ((pb, po, [ptr t.id 0]) :: (t'.all enc ++ E)) h' → Q (.tuple #[old (t.pt.get lt x), .bool (t.pt.get lt x).isSome, .bool false]) h') :
    Map_si_nodeSet.call #[ptr tb 0, ptr pb po, .agg (enc x).toArray] h Q := by
  have hsp : t.pt.splits lt m x = false := by
    cases e : t.pt.splits lt m x with
    | false => rfl
    | true =>
      obtain ⟨_, e2⟩ := PT.splits_len e
      have e2 : lget lt t.pt.1 x = none := e2
      obtain ⟨c, hc, _⟩ := PT.step swo fl ha e2
      rw [PT.splits_kid e2 hc, hns c hc e2] at e
      simp at e
  have hset := PT.set_items swo ho fl ha hsp
  have hgi := PT.get_items swo fl ha (x := x)
  obtain ⟨d, ts⟩ := t
  obtain ⟨own, n, is', cnt, its, iv, ib, io, isp, kb, kv, krb, kro, ksp⟩ := d
  have w : Own 2 iv its.length ib io (its.flatMap enc) isp := g.wf.1.1
  have wK : Own 1 kv ts.length krb kro ((ts.map GT.id).map fun m => ptr m 0) ksp := g.wf.2.1
  have hkl : ts.length = its.length + 1 := g.wf.2.2.1
  have hidl : (ts.map GT.id).length = ts.length := List.length_map ..
  have hom : own = true := g.mine.1
  have hiso : is' = iso := g.wf.1.2.1 hom
  subst hiso; subst hom
  have hlen : its.length ≤ m := fl.2.1
  have ha1 : Asc lt its := asc_of_sub ha (PT.its_sub1 (its, ts.map GT.pt))
  rw [← hidl, mfp] at wK
  have hcn : cnt = (PT.items (h := k + 1) (its, ts.map GT.pt)).length := g.cn.1
  have s : St h0 Z ((pb, po, [ptr n 0]) :: (n, 0, [.int .u64 is', .int .i64 cnt, iv, ptr kb 0]) :: (ib, io, its.flatMap enc ++ isp) :: (kb, 0, [kv]) :: (krb, kro, ((ts.map GT.id).map fun m => ptr m 0) ++ ksp) :: (ts.flatMap (GT.all enc) ++ E)) h := s
  rw [mfp] at s
  refine set_head hT0 ha1 (by omega) w s (fun y h' hy s => ?_) fun t5 t9 h' hn s => ?_
  · have hln : (lput lt its x).length = its.length := by rw [lput_length, hy]; rfl
    have e1 : PT.set lt m (h := k + 1) (its, ts.map GT.pt) x = (lput lt its x, ts.map GT.pt) := PT.set_found (t := (its, ts.map GT.pt)) hy
    have e2 : PT.get lt (h := k + 1) (its, ts.map GT.pt) x = some y := PT.get_found (t := (its, ts.map GT.pt)) hy
    have e3 : (PT.items (h := k + 1) (lput lt its x, ts.map GT.pt)).length = (PT.items (h := k + 1) (its, ts.map GT.pt)).length := by
      have h1 : (PT.set lt m (h := k + 1) (its, ts.map GT.pt) x).items = lput lt (PT.items (h := k + 1) (its, ts.map GT.pt)) x := hset.1
      have h2 : PT.get lt (h := k + 1) (its, ts.map GT.pt) x = lget lt (PT.items (h := k + 1) (its, ts.map GT.pt)) x := hgi
      rw [e1] at h1
      rw [h1, lput_length, ← h2, e2]; rfl
    have := H ((⟨true, n, is', cnt, lput lt its x, iv, ib, io, isp, kb, kv, krb, kro, ksp⟩ : Nd It), ts) h' e1.symm rfl
      (Gd.inner (by show Own 2 iv (lput lt its x).length ib io ((lput lt its x).flatMap enc) isp; rw [hln]; exact w.cong (by rw [flat_len encl, flat_len encl, hln])) rfl rfl (by rw [← hidl]; exact wK) (by show ts.length = (lput lt its x).length + 1; rw [hln]; exact hkl) (fun c hc => g.kid hc) (by
        show cnt = ((PT.items (h := k + 1) (lput lt its x, ts.map GT.pt)).length : Int); rw [e3]; exact hcn)) (by rw [← mfp] at s; exact s)
    change Q (.tuple #[old (PT.get lt (h := k + 1) (its, ts.map GT.pt) x), .bool (PT.get lt (h := k + 1) (its, ts.map GT.pt) x).isSome, .bool false]) h' at this
    rw [e2] at this
    exact this
  · have hp := pos_le (lt := lt) its x
    obtain ⟨c, hc⟩ : ∃ c, ts[pos lt its x]? = some c := ⟨ts[pos lt its x]'(by omega), List.getElem?_eq_getElem (by omega)⟩
    have hcp : (ts.map GT.pt)[pos lt its x]? = some c.pt := by rw [List.getElem?_map, hc]; rfl
    have hcs : c.pt.splits lt m x = false := hns c.pt hcp hn
    obtain ⟨c0, hc0, hcm, hac, hg0, _⟩ := PT.step (h := k) (t := (its, ts.map GT.pt)) swo fl ha hn
    have : c0 = c.pt := Option.some.inj (hc0.symm.trans hcp)
    subst this
    have hcmem := List.mem_of_getElem? hc
    have e1 : PT.set lt m (h := k + 1) (its, ts.map GT.pt) x = (its, (ts.map GT.pt).set (pos lt its x) (c.pt.set lt m x)) := PT.set_kid (t := (its, ts.map GT.pt)) hn hcp hcs
    have e2 : PT.get lt (h := k + 1) (its, ts.map GT.pt) x = c.pt.get lt x := PT.get_kid (t := (its, ts.map GT.pt)) hn hcp
    have hcsz : c.pt.items.length ≤ 4611686018427387903 := by
      have h1 : (inter its ((ts.map GT.pt).map PT.items)).length = _ := inter_length _ _
      have h2 : (inter its ((ts.map GT.pt).map PT.items)).length ≤ 4611686018427387903 := hsz
      have h3 : c.pt.items.length ≤ (((ts.map GT.pt).map PT.items).map List.length).sum := mem_le_sum (by
        rw [List.map_map, List.map_map]; exact List.mem_map.2 ⟨c, hcmem, rfl⟩)
      omega
    unfold Map_si_nodeSet.j1
    refine St.r_load0 s 0 rfl rfl ?_
    refine leaf_ok (a := some ⟨kb, 0, none⟩) (s.get (k := 3) (j := 3) rfl (by simp)) ?_
    refine r_if (fun e => absurd e (by simp)) (fun _ => ?_)
    unfold Map_si_nodeSet.j2
    refine St.r_load0 s 0 rfl rfl ?_
    refine r_nil ?_
    refine r_fld ?_
    refine St.r_load0 s 3 rfl rfl ?_
    refine r_nil ?_
    refine St.r_load0 s 5 rfl rfl ?_
    refine wK.idx (n := pos lt its x) rfl (by omega) ?_
    refine St.r_loadN0 s 1 rfl (by simp) ?_
    obtain ⟨E', sk, back⟩ := lend_kid (A := (t9, 0, [ptr n 0]) :: (t5, 0, enc x) :: (pb, po, [ptr n 0]) :: (n, 0, [.int .u64 is', .int .i64 cnt, iv, ptr kb 0]) :: (ib, io, its.flatMap enc ++ isp) :: (kb, 0, [kv]) :: []) (E := E) (kb := kb) (kv := kv) hc s
    refine ih c (fl.2.2.2 _ hcm) hac hcsz (g.kid hcmem) sk fun c' h' hc1 hc2 hc3 s => ?_
    rw [hcs] at hc1 ⊢
    simp only [Bool.false_eq_true, ↓reduceIte] at hc1
    have s := back c' h' hc2 s
    have s : St h0 Z ((t9, 0, [ptr n 0]) :: (t5, 0, enc x) :: (pb, po, [ptr n 0]) :: (n, 0, [.int .u64 is', .int .i64 cnt, iv, ptr kb 0]) :: (ib, io, its.flatMap enc ++ isp) :: (kb, 0, [kv]) :: (krb, kro, ((ts.set (pos lt its x) c').map GT.id).flatMap fp ++ ksp) :: ((ts.set (pos lt its x) c').flatMap (GT.all enc) ++ E)) h' := s
    have ept : (ts.set (pos lt its x) c').map GT.pt = (ts.map GT.pt).set (pos lt its x) (c.pt.set lt m x) := by rw [List.map_set, hc1]
    have hlenI : (PT.items (h := k + 1) (its, (ts.set (pos lt its x) c').map GT.pt)).length = (PT.items (h := k + 1) (its, ts.map GT.pt)).length + if (c.pt.get lt x).isSome then 0 else 1 := by
      have h1 : (PT.set lt m (h := k + 1) (its, ts.map GT.pt) x).items = lput lt (PT.items (h := k + 1) (its, ts.map GT.pt)) x := hset.1
      have h2 : PT.get lt (h := k + 1) (its, ts.map GT.pt) x = lget lt (PT.items (h := k + 1) (its, ts.map GT.pt)) x := hgi
      rw [e1, ← ept] at h1
      rw [h1, lput_length, ← h2, e2]
    have fin : ∀ cnt' h', cnt' = (((PT.items (h := k + 1) (its, (ts.set (pos lt its x) c').map GT.pt)).length : Nat) : Int) →
        St h0 Z ((t9, 0, [ptr n 0]) :: (t5, 0, enc x) :: (pb, po, [ptr n 0]) :: (n, 0, [.int .u64 is', .int .i64 cnt', iv, ptr kb 0]) :: (ib, io, its.flatMap enc ++ isp) :: (kb, 0, [kv]) :: (krb, kro, ((ts.set (pos lt its x) c').map GT.id).flatMap fp ++ ksp) :: ((ts.set (pos lt its x) c').flatMap (GT.all enc) ++ E)) h' →
        Q (.tuple #[old (c.pt.get lt x), .bool (c.pt.get lt x).isSome, .bool false]) h' := by
      intro cnt' h' hcnt' s
      have := H ((⟨true, n, is', cnt', its, iv, ib, io, isp, kb, kv, krb, kro, ksp⟩ : Nd It), ts.set (pos lt its x) c') h' (by show (its, (ts.set (pos lt its x) c').map GT.pt) = _; rw [ept]; exact e1.symm) rfl
        (Gd.setKid (d := ⟨true, n, is', cnt, its, iv, ib, io, isp, kb, kv, krb, kro, ksp⟩) g hc hc2 hc3 hcnt') (by rw [← mfp] at s; exact s.drop 2)
      change Q (.tuple #[old (PT.get lt (h := k + 1) (its, ts.map GT.pt) x), .bool (PT.get lt (h := k + 1) (its, ts.map GT.pt) x).isSome, .bool false]) h' at this
      rw [e2] at this
      exact this
    refine r_ext rfl ?_
    refine r_ext rfl ?_
    refine r_ext rfl ?_
    refine r_if (fun e => absurd e (by simp)) (fun _ => ?_)
    unfold Map_si_nodeSet.j3
    refine r_not ?_
    refine r_if (fun hr => ?_) (fun hr => ?_)
    · have hr : (c.pt.get lt x).isSome = false := by simpa using hr
      rw [hr] at hlenI
      refine St.r_load0 s 0 rfl rfl ?_
      refine r_nil ?_
      refine r_fld ?_
      refine St.r_load0 s 3 rfl rfl ?_
      refine r_add (z := cnt + 1) (by have : (PT.items (h := k + 1) (its, ts.map GT.pt)).length ≤ 4611686018427387903 := hsz; rw [i64w (by omega) (by omega)]) ?_
      refine r_nil ?_
      refine r_fld ?_
      refine St.r_store0 s 3 rfl (by simp) rfl ?_; intro h s
      unfold Map_si_nodeSet.j4
      exact fin (cnt + 1) h (by rw [hlenI, hcn]; simp) s
    · have hr : (c.pt.get lt x).isSome = true := by simpa using hr
      rw [hr] at hlenI
      unfold Map_si_nodeSet.j4
      exact fin cnt h' (by rw [hlenI, hcn]; simp) s
end Go.Proofs.Ytdpkpcmoabfofaa.Si
end
